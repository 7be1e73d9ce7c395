import JvmDerived
import JvmDerived.Pilot.@@N@@Statement
import JvmDerived.Pilot.@@N@@Code
set_option linter.unusedVariables false
set_option linter.unusedSimpArgs false
/- laws to paste: Road.backV, Road.lenW, Road.chN, Road.codOf (cut by pick.py; bodies as the Statement names them) -/
namespace Jvm.Pilot.@@N@@
namespace StrChars
open Jvm Sem ClassFile Op Lib Jvm.Stand Jvm.Free.XT Jvm.Free.ALB Jvm.Free.JM Jvm.Free
open Jvm.Lib.Cold (StaticIs)
/-- a char array whose places are chars -/
def Ch (a : Addr) (A : Cell) (U : State) : Prop := Arr .char a A U ∧ Typed .char A
theorem Ch.mv {a : Addr} {A : Cell} {U U' : State} (h : Ch a A U) (hal : U.vm.Alike U'.vm) (hh : U'.heap = U.heap) : Ch a A U' := ⟨h.1.mv hal hh, h.2⟩
theorem Ch.keep {a : Addr} {A : Cell} {U U' : State} (h : Ch a A U) (hal : U.vm.Alike U'.vm) (hk : U'.heap[a]? = some A) : Ch a A U' := ⟨h.1.keep hal hk, h.2⟩
/-- what place i of a char[]'s cell holds -/
def cv (A : Cell) (i : Nat) : Int32 := match A.slots[i]? with | some (.int x) => x | _ => 0
theorem Ch.get {a : Addr} {A : Cell} {U : State} (h : Ch a A U) {i : Nat} (hi : i < A.slots.size) : A.slots[i]? = some (.int (cv A i)) := by
  have e := Array.getElem?_eq_getElem hi
  have f := h.2 i _ e
  unfold cv; rw [e]
  generalize A.slots[i] = v at f
  cases v <;> simp [fits] at f ⊢
/-- the byte that i2b leaves of a char -/
def lo8 (x : Int32) : Int32 := x.toInt8.toInt32
theorem fits_lo8 (y : Int32) : fits .byte (.int (lo8 y)) = true := by
  have h1 := y.toInt8.le_toInt
  have h2 := y.toInt8.toInt_lt
  simp only [lo8, fits, Bool.and_eq_true, decide_eq_true_eq, Int32.le_iff_toInt_le, Int8.toInt_toInt32, show (-128 : Int32).toInt = -128 from by decide, show (127 : Int32).toInt = 127 from by decide]
  omega
/-- A' is A but that each place j of lo .. hi - 1 holds f j -/
def Laid (A A' : Cell) (lo hi : Nat) (f : Nat → Value) : Prop := A'.cls = A.cls ∧ A'.vm = A.vm ∧ A'.slots.size = A.slots.size ∧ ∀ i, A'.slots[i]? = if lo ≤ i ∧ i < hi then some (f i) else A.slots[i]?
theorem Laid.zero (A : Cell) (lo : Nat) (f : Nat → Value) : Laid A A lo (lo + 0) f := ⟨rfl, rfl, rfl, fun i => by rw [if_neg (by omega)]⟩
theorem Laid.step {A Ak : Cell} {lo k : Nat} {f : Nat → Value} {v : Value} (h : Laid A Ak lo k f) (hlo : lo ≤ k) (hk : k < Ak.slots.size) (hv : v = f k) : Laid A (Ak.setSlot k v) lo (k + 1) f := by
  refine ⟨h.1, h.2.1, by simpa [Cell.setSlot] using h.2.2.1, fun i => ?_⟩
  by_cases e : k = i
  · subst e; rw [Cell.slots_setSlot_self v hk, if_pos (by omega), hv]
  · rw [Cell.slots_setSlot_ne v e, h.2.2.2 i]
    by_cases q : lo ≤ i ∧ i < k
    · rw [if_pos q, if_pos (by omega)]
    · rw [if_neg q, if_neg (by omega)]
def U16 : String := "java/lang/StringUTF16"
namespace Cmp5
def yN : MethodName := ⟨"java/lang/StringUTF16", "compress", "([CI[BII)I"⟩
abbrev yB : ByteArray := jdk_52_method_21_code
theorem d0 : decode yB 0 = .ok (.iconst 0, 1) := by decide +kernel
theorem d1 : decode yB 1 = .ok (.istore 5, 2) := by decide +kernel
theorem d3 : decode yB 3 = .ok (.iload 5, 2) := by decide +kernel
theorem d5 : decode yB 5 = .ok (.iload 4, 2) := by decide +kernel
theorem d7 : decode yB 7 = .ok (.if_icmp (.ge) 37, 3) := by decide +kernel
theorem d10 : decode yB 10 = .ok (.aload_n 0, 1) := by decide +kernel
theorem d11 : decode yB 11 = .ok (.iload_n 1, 1) := by decide +kernel
theorem d12 : decode yB 12 = .ok (.caload, 1) := by decide +kernel
theorem d13 : decode yB 13 = .ok (.istore 6, 2) := by decide +kernel
theorem d15 : decode yB 15 = .ok (.iload 6, 2) := by decide +kernel
theorem d17 : decode yB 17 = .ok (.sipush 255, 3) := by decide +kernel
theorem d20 : decode yB 20 = .ok (.if_icmp (.le) 6, 3) := by decide +kernel
theorem d26 : decode yB 26 = .ok (.aload_n 2, 1) := by decide +kernel
theorem d27 : decode yB 27 = .ok (.iload_n 3, 1) := by decide +kernel
theorem d28 : decode yB 28 = .ok (.iload 6, 2) := by decide +kernel
theorem d30 : decode yB 30 = .ok (.i2b, 1) := by decide +kernel
theorem d31 : decode yB 31 = .ok (.bastore, 1) := by decide +kernel
theorem d32 : decode yB 32 = .ok (.iinc 1 1, 3) := by decide +kernel
theorem d35 : decode yB 35 = .ok (.iinc 3 1, 3) := by decide +kernel
theorem d38 : decode yB 38 = .ok (.iinc 5 1, 3) := by decide +kernel
theorem d41 : decode yB 41 = .ok (.goto (-38), 3) := by decide +kernel
theorem d44 : decode yB 44 = .ok (.iload 4, 2) := by decide +kernel
theorem d46 : decode yB 46 = .ok (.ireturn, 1) := by decide +kernel
def site : List Cond := []
def tab : Cond := tabOf yN yB 7 (some .int) site
def P (b : Addr) (A : Cell) (d : Addr) (B : Cell) (o q len : Nat) (args : Array Value) (s : State) : Prop := args = #[.ref b, .int (Int32.ofNat o), .ref d, .int (Int32.ofNat q), .int (Int32.ofNat len)] ∧ Ch b A s ∧ Arr .byte d B s ∧ b ≠ d ∧ o + len ≤ A.slots.size ∧ q + len ≤ B.slots.size ∧ ∀ i, i < len → ¬ 255 < cv A (o + i)
def E (b : Addr) (A : Cell) (d : Addr) (B : Cell) (o q len : Nat) (r : Option Value) (s u : State) : Prop := r = some (.int (Int32.ofNat len)) ∧ ∃ B', Put d B' s u ∧ Laid B B' q (q + len) (fun j => Value.int (lo8 (cv A (o + (j - q)))))
/-- no char of the range above 255: len; the places written hold each char's low byte -/
theorem law (l : Launch) (b : Addr) (A : Cell) (d : Addr) (B : Cell) (o q len : Nat) : Law l yN 5 5 0 0 yB 7 (some .int) site (P b A d B o q len) (E b A d B o q len) (copyLocs d q len) 0 0 := by
  refine Law.of_walk (plainFor_of_name (by decide +kernel)) (by decide +kernel) (by decide +kernel) (by decide) (fun _ _ h => by rw [h.1]; rfl) (fun _ U U' hal hh h => ⟨h.1, h.2.1.mv hal hh, h.2.2.1.mv hal hh, h.2.2.2⟩) (fun r U U' V V' h1 hal h2 h => ⟨h.1, h.2.elim fun B' q => ⟨B', q.1.mv h1 h2, q.2⟩⟩) ?_
  intro p e s m args below meth c s₁ X0 hexec hbytes hml hret hlk hnm hown hh0 W hP
  obtain ⟨rfl, hA, hB, hne, l1, l2, hp⟩ := hP
  have c1 : Steps p.tables e below (s₁.setTop (entryFrame m #[.ref b, .int (Int32.ofNat o), .ref d, .int (Int32.ofNat q), .int (Int32.ofNat len)] 7)) (s₁.setTop (mkF m 0 #[.val (.ref b), .val (.int (Int32.ofNat o)), .val (.ref d), .val (.int (Int32.ofNat q)), .val (.int (Int32.ofNat len)), .unset, .unset] [])) := entry rfl
  have hA0 := hA.1.mv X0.warmed.alike hh0
  have hB0 := hB.mv X0.warmed.alike hh0
  have a31 := hA.1.2.2.2
  have c2 : Steps p.tables e below (s₁.setTop (entryFrame m #[.ref b, .int (Int32.ofNat o), .ref d, .int (Int32.ofNat q), .int (Int32.ofNat len)] 7)) (s₁.setTop (mkF m 3 #[.val (.ref b), .val (.int (Int32.ofNat o)), .val (.ref d), .val (.int (Int32.ofNat q)), .val (.int (Int32.ofNat len)), .val (.int 0), .unset] [])) := c1.trans (by
    refine iconstV X0.here hexec rfl 0 (hb hbytes d0) (by decide) ?_
    refine XS.istore X0.here hexec rfl (hb hbytes d1) rfl rfl ?_
    exact Steps.refl _)
  have loop : ∀ (r i : Nat), i + r = len → ∀ (z : Slot), (z = .unset ∨ ∃ w, z = .val w ∧ w.category = 1) → ∀ (Tl : State) (Bk : Cell), Stand p l e { frames := 0, locals := 0, cells := 0, slots := 0 } s m #[.ref b, .int (Int32.ofNat o), .ref d, .int (Int32.ofNat q), .int (Int32.ofNat len)] below meth c Tl ([] ++ copyLocs d q i) 0 0 → Put d Bk s₁ Tl → Laid B Bk q (q + i) (fun j => Value.int (lo8 (cv A (o + (j - q))))) →
      Steps p.tables e below (s₁.setTop (entryFrame m #[.ref b, .int (Int32.ofNat o), .ref d, .int (Int32.ofNat q), .int (Int32.ofNat len)] 7)) (Tl.setTop (mkF m 3 #[.val (.ref b), .val (.int (Int32.ofNat (o + i))), .val (.ref d), .val (.int (Int32.ofNat (q + i))), .val (.int (Int32.ofNat len)), .val (.int (Int32.ofNat i)), z] [])) → ∃ (T' : State) (B' : Cell) (z' : Slot), Stand p l e { frames := 0, locals := 0, cells := 0, slots := 0 } s m #[.ref b, .int (Int32.ofNat o), .ref d, .int (Int32.ofNat q), .int (Int32.ofNat len)] below meth c T' ([] ++ copyLocs d q len) 0 0 ∧ Put d B' s₁ T' ∧ Laid B B' q (q + len) (fun j => Value.int (lo8 (cv A (o + (j - q))))) ∧
      Steps p.tables e below (s₁.setTop (entryFrame m #[.ref b, .int (Int32.ofNat o), .ref d, .int (Int32.ofNat q), .int (Int32.ofNat len)] 7)) (T'.setTop (mkF m 3 #[.val (.ref b), .val (.int (Int32.ofNat (o + len))), .val (.ref d), .val (.int (Int32.ofNat (q + len))), .val (.int (Int32.ofNat len)), .val (.int (Int32.ofNat len)), z'] [])) := by
    intro r
    induction r with
    | zero =>
      intro i hi z hz Tl Bk Xl pl fl cl
      have hil : i = len := by omega
      rw [hil] at Xl fl cl
      exact ⟨Tl, Bk, z, Xl, pl, fl, cl⟩
    | succ r ih =>
      intro i hi z hz Tl Bk Xl pl fl cl
      have all := X0.warmed.alike.symm.trans Xl.warmed.alike
      have hAl := hA0.keep all (pl.other hne hA0.1)
      have hBk := hB0.like all pl.1 fl.1 fl.2.1 fl.2.2.1
      have hlt : q + i < Bk.slots.size := by rw [fl.2.2.1]; omega
      have c3 : Steps p.tables e below (s₁.setTop (entryFrame m #[.ref b, .int (Int32.ofNat o), .ref d, .int (Int32.ofNat q), .int (Int32.ofNat len)] 7)) (Tl.setTop (mkF m 12 #[.val (.ref b), .val (.int (Int32.ofNat (o + i))), .val (.ref d), .val (.int (Int32.ofNat (q + i))), .val (.int (Int32.ofNat len)), .val (.int (Int32.ofNat i)), z] [.int (Int32.ofNat (o + i)), .ref b])) := cl.trans (by
        refine XS.iload Xl.here hexec rfl (hb hbytes d3) rfl ?_
        refine XS.iload Xl.here hexec rfl (hb hbytes d5) rfl ?_
        refine XS.icmpNo Xl.here hexec rfl (hb hbytes d7) rfl (ii_ge_f (lt32 (by omega) (by omega))) ?_
        refine XS.aloadN Xl.here hexec rfl (hb hbytes d10) rfl rfl ?_
        refine XS.iloadN Xl.here hexec rfl (hb hbytes d11) rfl ?_
        exact Steps.refl _)
      have c4 : Steps p.tables e below (s₁.setTop (entryFrame m #[.ref b, .int (Int32.ofNat o), .ref d, .int (Int32.ofNat q), .int (Int32.ofNat len)] 7)) (Tl.setTop (mkF m 13 #[.val (.ref b), .val (.int (Int32.ofNat (o + i))), .val (.ref d), .val (.int (Int32.ofNat (q + i))), .val (.int (Int32.ofNat len)), .val (.int (Int32.ofNat i)), z] [.int (cv A (o + i))])) := c3.trans (by
        refine Xl.aget hexec hAl rfl (hA.get (i := o + i) (by omega)) rfl rfl (hb hbytes d12) ?_
        exact Steps.refl _)
      have c5 : Steps p.tables e below (s₁.setTop (entryFrame m #[.ref b, .int (Int32.ofNat o), .ref d, .int (Int32.ofNat q), .int (Int32.ofNat len)] 7)) (Tl.setTop (mkF m 15 #[.val (.ref b), .val (.int (Int32.ofNat (o + i))), .val (.ref d), .val (.int (Int32.ofNat (q + i))), .val (.int (Int32.ofNat len)), .val (.int (Int32.ofNat i)), .val (.int (cv A (o + i)))] [])) := c4.trans (by
        refine XS.istoreS Xl.here hexec rfl (hb hbytes d13) rfl rfl hz ?_
        exact Steps.refl _)
      have c6 : Steps p.tables e below (s₁.setTop (entryFrame m #[.ref b, .int (Int32.ofNat o), .ref d, .int (Int32.ofNat q), .int (Int32.ofNat len)] 7)) (Tl.setTop (mkF m 31 #[.val (.ref b), .val (.int (Int32.ofNat (o + i))), .val (.ref d), .val (.int (Int32.ofNat (q + i))), .val (.int (Int32.ofNat len)), .val (.int (Int32.ofNat i)), .val (.int (cv A (o + i)))] [.int (lo8 (cv A (o + i))), .int (Int32.ofNat (q + i)), .ref d])) := c5.trans (by
        refine XS.iload Xl.here hexec rfl (hb hbytes d15) rfl ?_
        refine sipushV Xl.here hexec rfl 255 (hb hbytes d17) (by decide) ?_
        refine XS.icmpYes Xl.here hexec rfl (pc0 := 20) rfl (hb hbytes d20) rfl (ii_le_t (hp i (by omega))) (by decide) rfl ?_
        refine XS.aloadN Xl.here hexec rfl (hb hbytes d26) rfl rfl ?_
        refine XS.iloadN Xl.here hexec rfl (hb hbytes d27) rfl ?_
        refine XS.iload Xl.here hexec rfl (hb hbytes d28) rfl ?_
        refine i2b Xl.here hexec rfl (hb hbytes d30) rfl ?_
        exact Steps.refl _)
      obtain ⟨T7, X7, p7, st7⟩ := Xl.aput hexec hBk rfl hlt rfl (fits_lo8 (cv A (o + i))) (g := (mkF m 31 #[.val (.ref b), .val (.int (Int32.ofNat (o + i))), .val (.ref d), .val (.int (Int32.ofNat (q + i))), .val (.int (Int32.ofNat len)), .val (.int (Int32.ofNat i)), .val (.int (cv A (o + i)))] [.int (lo8 (cv A (o + i))), .int (Int32.ofNat (q + i)), .ref d])) rfl (rest := []) rfl (hb hbytes d31)
      have c8 : Steps p.tables e below (s₁.setTop (entryFrame m #[.ref b, .int (Int32.ofNat o), .ref d, .int (Int32.ofNat q), .int (Int32.ofNat len)] 7)) (T7.setTop (mkF m 32 #[.val (.ref b), .val (.int (Int32.ofNat (o + i))), .val (.ref d), .val (.int (Int32.ofNat (q + i))), .val (.int (Int32.ofNat len)), .val (.int (Int32.ofNat i)), .val (.int (cv A (o + i)))] [])) := c6.trans (st7 _ (Steps.refl _))
      have c9 : Steps p.tables e below (s₁.setTop (entryFrame m #[.ref b, .int (Int32.ofNat o), .ref d, .int (Int32.ofNat q), .int (Int32.ofNat len)] 7)) (T7.setTop (mkF m 3 #[.val (.ref b), .val (.int (Int32.ofNat (o + i) + 1)), .val (.ref d), .val (.int (Int32.ofNat (q + i) + 1)), .val (.int (Int32.ofNat len)), .val (.int (Int32.ofNat i + 1)), .val (.int (cv A (o + i)))] [])) := c8.trans (by
        refine iincV X7.here hexec rfl 1 (hb hbytes d32) (by decide) rfl rfl ?_
        refine iincV X7.here hexec rfl 1 (hb hbytes d35) (by decide) rfl rfl ?_
        refine iincV X7.here hexec rfl 1 (hb hbytes d38) (by decide) rfl rfl ?_
        refine XS.goto X7.here hexec rfl (pc0 := 41) rfl (hb hbytes d41) (by decide) rfl ?_
        exact Steps.refl _)
      have c10 : Steps p.tables e below (s₁.setTop (entryFrame m #[.ref b, .int (Int32.ofNat o), .ref d, .int (Int32.ofNat q), .int (Int32.ofNat len)] 7)) (T7.setTop (mkF m 3 #[.val (.ref b), .val (.int (Int32.ofNat (o + (i + 1)))), .val (.ref d), .val (.int (Int32.ofNat (q + (i + 1)))), .val (.int (Int32.ofNat len)), .val (.int (Int32.ofNat (i + 1))), .val (.int (cv A (o + i)))] [])) := by
        have := c9
        rw [succ32, succ32, succ32] at this
        exact this
      exact ih (i + 1) (by omega) _ (Or.inr ⟨_, rfl, rfl⟩) T7 _ (by rw [copyLocs_step, ← List.append_assoc]; exact X7) (pl.trans p7) (fl.step (by omega) hlt (by simp)) c10
  obtain ⟨T9, B9, z9, X9, p9, f9, g9⟩ := loop len 0 (by omega) .unset (Or.inl rfl) s₁ B (by simpa [copyLocs] using X0) ⟨hB0.1, fun _ _ => rfl, rfl⟩ (Laid.zero _ _ _) c2
  have c11 : Steps p.tables e below (s₁.setTop (entryFrame m #[.ref b, .int (Int32.ofNat o), .ref d, .int (Int32.ofNat q), .int (Int32.ofNat len)] 7)) (T9.setTop (mkF m 46 #[.val (.ref b), .val (.int (Int32.ofNat (o + len))), .val (.ref d), .val (.int (Int32.ofNat (q + len))), .val (.int (Int32.ofNat len)), .val (.int (Int32.ofNat len)), z9] [.int (Int32.ofNat len)])) := g9.trans (by
    refine XS.iload X9.here hexec rfl (hb hbytes d3) rfl ?_
    refine XS.iload X9.here hexec rfl (hb hbytes d5) rfl ?_
    refine XS.icmpYes X9.here hexec rfl (pc0 := 7) rfl (hb hbytes d7) rfl (ii_ge_t (nlt32 (by omega) (Nat.le_refl _))) (by decide) rfl ?_
    refine XS.iload X9.here hexec rfl (hb hbytes d44) rfl ?_
    exact Steps.refl _)
  exact ⟨T9, some (.int (Int32.ofNat len)), _, _, _, X9, by simp, rfl, rfl, (fun h => by cases h), ⟨rfl, B9, p9.from hh0, f9⟩, fun fs hl => c11.trans (X9.ireturnOut hexec hret rfl (Or.inl rfl) (hb hbytes d46) hl)⟩
end Cmp5
namespace Cmp3
def yN : MethodName := ⟨"java/lang/StringUTF16", "compress", "([CII)[B"⟩
abbrev yB : ByteArray := jdk_52_method_16_code
theorem d0 : decode yB 0 = .ok (.iload_n 2, 1) := by decide +kernel
theorem d1 : decode yB 1 = .ok (.newarray .byte, 2) := by decide +kernel
theorem d3 : decode yB 3 = .ok (.astore_n 3, 1) := by decide +kernel
theorem d4 : decode yB 4 = .ok (.aload_n 0, 1) := by decide +kernel
theorem d5 : decode yB 5 = .ok (.iload_n 1, 1) := by decide +kernel
theorem d6 : decode yB 6 = .ok (.aload_n 3, 1) := by decide +kernel
theorem d7 : decode yB 7 = .ok (.iconst 0, 1) := by decide +kernel
theorem d8 : decode yB 8 = .ok (.iload_n 2, 1) := by decide +kernel
theorem d9 : decode yB 9 = .ok (.invokestatic 115, 3) := by decide +kernel
theorem d12 : decode yB 12 = .ok (.istore 4, 2) := by decide +kernel
theorem d14 : decode yB 14 = .ok (.iload 4, 2) := by decide +kernel
theorem d16 : decode yB 16 = .ok (.iload_n 2, 1) := by decide +kernel
theorem d17 : decode yB 17 = .ok (.if_icmp (.eq) 40, 3) := by decide +kernel
theorem d57 : decode yB 57 = .ok (.aload_n 3, 1) := by decide +kernel
theorem d58 : decode yB 58 = .ok (.areturn, 1) := by decide +kernel
def site : List Cond := [.arrayClass .byte, Cmp5.tab] ++ staticW U16 115 Cmp5.yN
def tab : Cond := tabOf yN yB 6 (some (.array .byte)) site
def P (b : Addr) (A : Cell) (o len : Nat) (args : Array Value) (s : State) : Prop := args = #[.ref b, .int (Int32.ofNat o), .int (Int32.ofNat len)] ∧ Ch b A s ∧ o + len ≤ A.slots.size ∧ len ≤ 536870912 ∧ ∀ i, i < len → ¬ 255 < cv A (o + i)
def E (b : Addr) (A : Cell) (o len : Nat) (r : Option Value) (s u : State) : Prop := NewArr .byte "[B" len (fun j => .int (lo8 (cv A (o + j)))) r s u ∧ u.heap.size = s.heap.size + 1
/-- no char of the range above 255: a new byte[] of their low bytes -/
theorem law (l : Launch) (b : Addr) (A : Cell) (o len : Nat) : Law l yN 3 3 1 18 yB 6 (some (.array .byte)) site (P b A o len) (E b A o len) [] 1 len := by
  refine Law.of_walk (plainFor_of_name (by decide +kernel)) (by decide +kernel) (by decide +kernel) (by decide) (fun _ _ h => by rw [h.1]; rfl) (fun _ U U' hal hh h => ⟨h.1, h.2.1.mv hal hh, h.2.2⟩) (fun r U U' V V' h1 hal h2 h => ⟨NewArr.mv r U U' V V' h1 hal h2 h.1, by rw [h1, h2]; exact h.2⟩) ?_
  intro p e s m args below meth c s₁ X0 hexec hbytes hml hret hlk hnm hown hh0 W hP
  obtain ⟨rfl, hA, l1, l2, hp⟩ := hP
  have a31 := hA.1.2.2.2
  have c1 : Steps p.tables e below (s₁.setTop (entryFrame m #[.ref b, .int (Int32.ofNat o), .int (Int32.ofNat len)] 6)) (s₁.setTop (mkF m 0 #[.val (.ref b), .val (.int (Int32.ofNat o)), .val (.int (Int32.ofNat len)), .unset, .unset, .unset] [])) := entry rfl
  have c2 : Steps p.tables e below (s₁.setTop (entryFrame m #[.ref b, .int (Int32.ofNat o), .int (Int32.ofNat len)] 6)) (s₁.setTop (mkF m 1 #[.val (.ref b), .val (.int (Int32.ofNat o)), .val (.int (Int32.ofNat len)), .unset, .unset, .unset] [.int (Int32.ofNat len)])) := c1.trans (by
    refine XS.iloadN X0.here hexec rfl (hb hbytes d0) rfl ?_
    exact Steps.refl _)
  obtain ⟨T3, B3, X3, ba3, bs3, bv3, bh3, bf3, st3⟩ := X0.anew hexec (atype := .byte) (wk W (.arrayClass .byte)) rfl (by show len * 1 ≤ _; omega) (by omega) (g := (mkF m 1 #[.val (.ref b), .val (.int (Int32.ofNat o)), .val (.int (Int32.ofNat len)), .unset, .unset, .unset] [.int (Int32.ofNat len)])) rfl (hb hbytes d1) (rest := []) rfl (Nat.le_refl _) (by show 0 + len ≤ len; omega)
  rw [hh0] at ba3 st3
  have kp3 : XT.Kept s T3 := (XT.Kept.of_eq hh0).push bh3
  have hA3 := hA.keep X3.warmed.alike (kp3 _ _ hA.1.1)
  have hne : b ≠ s.heap.size := hA.1.ne
  have c4 : Steps p.tables e below (s₁.setTop (entryFrame m #[.ref b, .int (Int32.ofNat o), .int (Int32.ofNat len)] 6)) (T3.setTop (mkF m 3 #[.val (.ref b), .val (.int (Int32.ofNat o)), .val (.int (Int32.ofNat len)), .unset, .unset, .unset] [.ref s.heap.size])) := c2.trans (st3 _ (Steps.refl _))
  have c5 : Steps p.tables e below (s₁.setTop (entryFrame m #[.ref b, .int (Int32.ofNat o), .int (Int32.ofNat len)] 6)) (T3.setTop (mkF m 9 #[.val (.ref b), .val (.int (Int32.ofNat o)), .val (.int (Int32.ofNat len)), .val (.ref s.heap.size), .unset, .unset] [.int (Int32.ofNat len), .int 0, .ref s.heap.size, .int (Int32.ofNat o), .ref b])) := c4.trans (by
    refine XS.astoreN X3.here hexec rfl (hb hbytes d3) rfl rfl rfl ?_
    refine XS.aloadN X3.here hexec rfl (hb hbytes d4) rfl rfl ?_
    refine XS.iloadN X3.here hexec rfl (hb hbytes d5) rfl ?_
    refine XS.aloadN X3.here hexec rfl (hb hbytes d6) rfl rfl ?_
    refine iconstV X3.here hexec rfl 0 (hb hbytes d7) (by decide) ?_
    refine XS.iloadN X3.here hexec rfl (hb hbytes d8) rfl ?_
    exact Steps.refl _)
  obtain ⟨v6, T6, X6, E6, g6⟩ := X3.callS hexec (Cmp5.law l b A s.heap.size B3 o 0 len) hown (wks W (staticW U16 115 Cmp5.yN)) (wk W Cmp5.tab) (W := 0) (Nat.le_of_ble_eq_true rfl) (Nat.le_of_ble_eq_true rfl) (Nat.le_refl _) (by show 0 + len + 0 ≤ len; omega) (g := (mkF m 9 #[.val (.ref b), .val (.int (Int32.ofNat o)), .val (.int (Int32.ofNat len)), .val (.ref s.heap.size), .unset, .unset] [.int (Int32.ofNat len), .int (Int32.ofNat 0), .ref s.heap.size, .int (Int32.ofNat o), .ref b])) rfl (by rw [hml]; rfl) c5 (argsL := [.ref b, .int (Int32.ofNat o), .ref s.heap.size, .int (Int32.ofNat 0), .int (Int32.ofNat len)]) (rest := []) rfl rfl (by show 2 * 0 + 0 ≤ _; decide) (hb hbytes d9) (⟨rfl, hA3, ba3, hne, l1, by rw [bs3]; simp, hp⟩)
  obtain ⟨rfl, B6, p6, f6⟩ := E6
  have c7 : Steps p.tables e below (s₁.setTop (entryFrame m #[.ref b, .int (Int32.ofNat o), .int (Int32.ofNat len)] 6)) (T6.setTop (mkF m 12 #[.val (.ref b), .val (.int (Int32.ofNat o)), .val (.int (Int32.ofNat len)), .val (.ref s.heap.size), .unset, .unset] [.int (Int32.ofNat len)])) := g6
  have c8 : Steps p.tables e below (s₁.setTop (entryFrame m #[.ref b, .int (Int32.ofNat o), .int (Int32.ofNat len)] 6)) (T6.setTop (mkF m 58 #[.val (.ref b), .val (.int (Int32.ofNat o)), .val (.int (Int32.ofNat len)), .val (.ref s.heap.size), .val (.int (Int32.ofNat len)), .unset] [.ref s.heap.size])) := c7.trans (by
    refine XS.istore X6.here hexec rfl (hb hbytes d12) rfl rfl ?_
    refine XS.iload X6.here hexec rfl (hb hbytes d14) rfl ?_
    refine XS.iloadN X6.here hexec rfl (hb hbytes d16) rfl ?_
    refine XS.icmpYes X6.here hexec rfl (pc0 := 17) rfl (hb hbytes d17) rfl (ii_eq_t rfl) (by decide) rfl ?_
    refine XS.aloadN X6.here hexec rfl (hb hbytes d57) rfl rfl ?_
    exact Steps.refl _)
  have X8 := X6.wide (L' := []) (cells' := 1) (slots' := len) (fun x hx hlt => by
    simp only [List.nil_append, copyLocs, List.mem_map, List.mem_range] at hx
    obtain ⟨i, -, rfl⟩ := hx
    exact absurd hlt (Nat.lt_irrefl _)) (Nat.le_refl _) (by omega)
  exact ⟨T6, some (.ref s.heap.size), _, _, _, X8, rfl, rfl, rfl, (fun h => by cases h), ⟨⟨rfl, B6, ba3.like (X3.warmed.alike.symm.trans X6.warmed.alike) p6.1 f6.1 f6.2.1 f6.2.2.1, f6.2.1.trans bv3, by rw [X6.warmed.alike.findClass, f6.1]; exact bf3, by rw [f6.2.2.1, bs3]; simp, fun j hj => by rw [f6.2.2.2 j, if_pos (by omega)]; rfl, kp3.put p6 (Nat.le_refl _)⟩, by rw [p6.2.2, bh3, hh0]; simp⟩, fun fs hl => c8.trans (X8.areturnOut hexec rfl hret rfl (hb hbytes d58) hl)⟩
end Cmp3
namespace CodL
def yN : MethodName := ⟨"java/lang/StringUTF16", "coderFromArrayLen", "([BI)B"⟩
abbrev yB : ByteArray := jdk_52_method_15_code
theorem d0 : decode yB 0 = .ok (.iload_n 1, 1) := by decide +kernel
theorem d1 : decode yB 1 = .ok (.aload_n 0, 1) := by decide +kernel
theorem d2 : decode yB 2 = .ok (.arraylength, 1) := by decide +kernel
theorem d3 : decode yB 3 = .ok (.isub, 1) := by decide +kernel
theorem d4 : decode yB 4 = .ok (.bipush 31, 2) := by decide +kernel
theorem d6 : decode yB 6 = .ok (.iushr, 1) := by decide +kernel
theorem d7 : decode yB 7 = .ok (.i2b, 1) := by decide +kernel
theorem d8 : decode yB 8 = .ok (.ireturn, 1) := by decide +kernel
def site : List Cond := []
def tab : Cond := tabOf yN yB 2 (some .byte) site
def P (d : Addr) (B : Cell) (args : Array Value) (s : State) : Prop := args = #[.ref d, .int (Int32.ofNat B.slots.size)] ∧ Arr .byte d B s
def E (r : Option Value) (s u : State) : Prop := XT.PureE (some (.int 0)) r s u
/-- an array as long as the number of chars: LATIN1 -/
theorem law (l : Launch) (d : Addr) (B : Cell) : Law l yN 2 2 0 0 yB 2 (some .byte) site (P d B) E [] 0 0 := by
  refine Law.of_walk (plainFor_of_name (by decide +kernel)) (by decide +kernel) (by decide +kernel) (by decide) (fun _ _ h => by rw [h.1]; rfl) (fun _ U U' hal hh h => ⟨h.1, h.2.mv hal hh⟩) (fun r U U' V V' h1 hal h2 h => XT.PureE.mv r U U' V V' h1 hal h2 h) ?_
  intro p e s m args below meth c s₁ X0 hexec hbytes hml hret hlk hnm hown hh0 W hP
  obtain ⟨rfl, hB⟩ := hP
  have hB0 := hB.mv X0.warmed.alike hh0
  have c1 : Steps p.tables e below (s₁.setTop (entryFrame m #[.ref d, .int (Int32.ofNat B.slots.size)] 2)) (s₁.setTop (mkF m 0 #[.val (.ref d), .val (.int (Int32.ofNat B.slots.size))] [])) := entry rfl
  have c2 : Steps p.tables e below (s₁.setTop (entryFrame m #[.ref d, .int (Int32.ofNat B.slots.size)] 2)) (s₁.setTop (mkF m 2 #[.val (.ref d), .val (.int (Int32.ofNat B.slots.size))] [.ref d, .int (Int32.ofNat B.slots.size)])) := c1.trans (by
    refine XS.iloadN X0.here hexec rfl (hb hbytes d0) rfl ?_
    refine XS.aloadN X0.here hexec rfl (hb hbytes d1) rfl rfl ?_
    exact Steps.refl _)
  have c3 : Steps p.tables e below (s₁.setTop (entryFrame m #[.ref d, .int (Int32.ofNat B.slots.size)] 2)) (s₁.setTop (mkF m 8 #[.val (.ref d), .val (.int (Int32.ofNat B.slots.size))] [.int (lo8 (ushr (Int32.ofNat B.slots.size - Int32.ofNat B.slots.size) 31))])) := c2.trans (by
    refine X0.alen hexec hB0 rfl rfl (hb hbytes d2) ?_
    refine XS.isub X0.here hexec rfl (hb hbytes d3) rfl ?_
    refine bipushV X0.here hexec rfl 31 (hb hbytes d4) (by decide) ?_
    refine iushr X0.here hexec rfl (hb hbytes d6) rfl ?_
    refine i2b X0.here hexec rfl (hb hbytes d7) rfl ?_
    exact Steps.refl _)
  have e0 : lo8 (ushr (Int32.ofNat B.slots.size - Int32.ofNat B.slots.size) 31) = 0 := by rw [Int32.sub_self]; decide
  rw [e0] at c3
  exact ⟨s₁, some (.int 0), _, _, _, X0, rfl, rfl, rfl, (fun h => by cases h), ⟨rfl, hh0⟩, fun fs hl => c3.trans (X0.ireturnOut hexec hret rfl (Or.inr (Or.inr (Or.inl rfl))) (hb hbytes d8) hl)⟩
end CodL
/-- the String at a is Latin-1 over a new byte[] (the heap's one new cell): the low bytes of the len chars of A from o on; every cell but a is kept -/
def Got (a : Addr) (D : Cell) (fV fC : Field) (A : Cell) (o len : Nat) (r : Option Value) (s u : State) : Prop := r = none ∧ ∃ D' V : Cell, Blank "java/lang/String" a D' u ∧ Same D D' [fV.slot, fC.slot] ∧ D'.slots[fV.slot]? = some (.ref s.heap.size) ∧ D'.slots[fC.slot]? = some (.int 0) ∧ Arr .byte s.heap.size V u ∧ V.vm = .none ∧ u.vm.findClass "[B" = some V.cls ∧ V.slots.size = len ∧ (∀ j, j < len → V.slots[j]? = some (.int (lo8 (cv A (o + j))))) ∧ (∀ (y : Addr) (c : Cell), y ≠ a → s.heap[y]? = some c → u.heap[y]? = some c) ∧ u.heap.size = s.heap.size + 1
theorem Got.mv {a : Addr} {D A : Cell} {fV fC : Field} {o len : Nat} : ∀ r (U U' V V' : State), U'.heap = U.heap → V.vm.Alike V'.vm → V'.heap = V.heap → Got a D fV fC A o len r U V → Got a D fV fC A o len r U' V' :=
  fun r U U' V V' h1 hal h2 ⟨e0, D', X, a1, a2, a3, a4, a5, a6, a7, a8, a9, a10, a11⟩ => ⟨e0, D', X, a1.mv hal h2, a2, by rw [h1]; exact a3, a4, by rw [h1]; exact a5.mv hal h2, a6, by rw [hal.findClass]; exact a7, a8, a9, by rw [h1, h2]; exact a10, by rw [h1, h2]; exact a11⟩
namespace New4
def yN : MethodName := ⟨"java/lang/String", "<init>", "([CIILjava/lang/Void;)V"⟩
abbrev yB : ByteArray := jdk_42_method_149_code
theorem d0 : decode yB 0 = .ok (.aload_n 0, 1) := by decide +kernel
theorem d1 : decode yB 1 = .ok (.invokespecial 1, 3) := by decide +kernel
theorem d4 : decode yB 4 = .ok (.iload_n 3, 1) := by decide +kernel
theorem d5 : decode yB 5 = .ok (.ifCond (.ne) 22, 3) := by decide +kernel
theorem d27 : decode yB 27 = .ok (.getstatic 38, 3) := by decide +kernel
theorem d30 : decode yB 30 = .ok (.ifCond (.eq) 28, 3) := by decide +kernel
theorem d33 : decode yB 33 = .ok (.aload_n 1, 1) := by decide +kernel
theorem d34 : decode yB 34 = .ok (.iload_n 2, 1) := by decide +kernel
theorem d35 : decode yB 35 = .ok (.iload_n 3, 1) := by decide +kernel
theorem d36 : decode yB 36 = .ok (.invokestatic 177, 3) := by decide +kernel
theorem d39 : decode yB 39 = .ok (.astore 5, 2) := by decide +kernel
theorem d41 : decode yB 41 = .ok (.aload_n 0, 1) := by decide +kernel
theorem d42 : decode yB 42 = .ok (.aload 5, 2) := by decide +kernel
theorem d44 : decode yB 44 = .ok (.iload_n 3, 1) := by decide +kernel
theorem d45 : decode yB 45 = .ok (.invokestatic 47, 3) := by decide +kernel
theorem d48 : decode yB 48 = .ok (.putfield 15, 3) := by decide +kernel
theorem d51 : decode yB 51 = .ok (.aload_n 0, 1) := by decide +kernel
theorem d52 : decode yB 52 = .ok (.aload 5, 2) := by decide +kernel
theorem d54 : decode yB 54 = .ok (.putfield 9, 3) := by decide +kernel
theorem d57 : decode yB 57 = .ok (.return_, 1) := by decide +kernel
def site : List Cond := [.fieldLink "java/lang/String" 38 "java/lang/String" "COMPACT_STRINGS" "Z", Cmp3.tab, CodL.tab, .laysFinal "java/lang/String" "java/lang/String" "value" "[B", .fieldLink "java/lang/String" 9 "java/lang/String" "value" "[B", .laysFinal "java/lang/String" "java/lang/String" "coder" "B", .fieldLink "java/lang/String" 15 "java/lang/String" "coder" "B"] ++ objW "java/lang/String" 1 ++ staticW "java/lang/String" 177 Cmp3.yN ++ staticW "java/lang/String" 47 CodL.yN
def tab : Cond := tabOf yN yB 6 none site
def P (a : Addr) (D : Cell) (fV fC : Field) (b : Addr) (A : Cell) (z : Int32) (o len : Nat) (args : Array Value) (s : State) : Prop := args = #[.ref a, .ref b, .int (Int32.ofNat o), .int (Int32.ofNat len), .null] ∧ Blank "java/lang/String" a D s ∧ Found "java/lang/String" "value" "[B" fV s ∧ Found "java/lang/String" "coder" "B" fC s ∧ Ch b A s ∧ StaticIs s "java/lang/String" "COMPACT_STRINGS" "Z" (.int z) ∧ ¬ z = 0 ∧ 0 < len ∧ o + len ≤ A.slots.size ∧ len ≤ 536870912 ∧ ∀ i, i < len → ¬ 255 < cv A (o + i)
def E (a : Addr) (D : Cell) (fV fC : Field) (A : Cell) (o len : Nat) (r : Option Value) (s u : State) : Prop := Got a D fV fC A o len r s u
/-- len > 0, no char of the range above 255: a Latin-1 String of their low bytes -/
theorem law (l : Launch) (a : Addr) (D : Cell) (fV fC : Field) (b : Addr) (A : Cell) (z : Int32) (o len : Nat) : Law l yN 5 4 2 35 yB 6 none site (P a D fV fC b A z o len) (E a D fV fC A o len) [⟨a, fC.slot⟩, ⟨a, fV.slot⟩] 1 len := by
  refine Law.of_walk (plainFor_of_name (by decide +kernel)) (by decide +kernel) (by decide +kernel) (by decide) (fun _ _ h => by rw [h.1]; rfl) (fun _ U U' hal hh h => ⟨h.1, h.2.1.mv hal hh, h.2.2.1.al hal, h.2.2.2.1.al hal, h.2.2.2.2.1.mv hal hh, h.2.2.2.2.2.1.there hal hh, h.2.2.2.2.2.2⟩) (fun r U U' V V' h1 hal h2 h => Got.mv r U U' V V' h1 hal h2 h) ?_
  intro p e s m args below meth c s₁ X0 hexec hbytes hml hret hlk hnm hown hh0 W hP
  obtain ⟨rfl, hB, f1, f2, hA, s1, hz, l0, l1, l2, hp⟩ := hP
  have a31 := hA.1.2.2.2
  have c1 : Steps p.tables e below (s₁.setTop (entryFrame m #[.ref a, .ref b, .int (Int32.ofNat o), .int (Int32.ofNat len), .null] 6)) (s₁.setTop (mkF m 0 #[.val (.ref a), .val (.ref b), .val (.int (Int32.ofNat o)), .val (.int (Int32.ofNat len)), .val .null, .unset] [])) := entry rfl
  have c2 : Steps p.tables e below (s₁.setTop (entryFrame m #[.ref a, .ref b, .int (Int32.ofNat o), .int (Int32.ofNat len), .null] 6)) (s₁.setTop (mkF m 1 #[.val (.ref a), .val (.ref b), .val (.int (Int32.ofNat o)), .val (.int (Int32.ofNat len)), .val .null, .unset] [.ref a])) := c1.trans (by
    refine XS.aloadN X0.here hexec rfl (hb hbytes d0) rfl rfl ?_
    exact Steps.refl _)
  obtain ⟨T3, X3, q3, st3⟩ := X0.oinit hexec hown (wks W (objW "java/lang/String" 1)) (g := (mkF m 1 #[.val (.ref a), .val (.ref b), .val (.int (Int32.ofNat o)), .val (.int (Int32.ofNat len)), .val .null, .unset] [.ref a])) rfl (by rw [hml]; rfl) (rest := []) rfl (hb hbytes d1) (W := 0) (by show 2 * 0 + 0 ≤ _; decide) (Nat.le_of_ble_eq_true rfl) (Nat.le_of_ble_eq_true rfl)
  have hh3 := q3.trans hh0
  have c4 : Steps p.tables e below (s₁.setTop (entryFrame m #[.ref a, .ref b, .int (Int32.ofNat o), .int (Int32.ofNat len), .null] 6)) (T3.setTop (mkF m 27 #[.val (.ref a), .val (.ref b), .val (.int (Int32.ofNat o)), .val (.int (Int32.ofNat len)), .val .null, .unset] [])) := (c2.trans (st3 _ (Steps.refl _))).trans (by
    refine XS.iloadN X3.here hexec rfl (hb hbytes d4) rfl ?_
    refine XS.ifYes X3.here hexec rfl (pc0 := 5) rfl (hb hbytes d5) rfl (i0_ne_t (nz32 (by omega) l0)) (by decide) rfl ?_
    exact Steps.refl _)
  obtain ⟨T5, X5, q5, st5⟩ := X3.sget hexec hown (wk W (.fieldLink "java/lang/String" 38 "java/lang/String" "COMPACT_STRINGS" "Z")) s1 (fun _ _ h => by rw [hh3]; exact h) (g := (mkF m 27 #[.val (.ref a), .val (.ref b), .val (.int (Int32.ofNat o)), .val (.int (Int32.ofNat len)), .val .null, .unset] [])) rfl (hb hbytes d27)
  have hh5 := q5.trans hh3
  have c6 : Steps p.tables e below (s₁.setTop (entryFrame m #[.ref a, .ref b, .int (Int32.ofNat o), .int (Int32.ofNat len), .null] 6)) (T5.setTop (mkF m 30 #[.val (.ref a), .val (.ref b), .val (.int (Int32.ofNat o)), .val (.int (Int32.ofNat len)), .val .null, .unset] [.int z])) := c4.trans (st5 _ (Steps.refl _))
  have c7 : Steps p.tables e below (s₁.setTop (entryFrame m #[.ref a, .ref b, .int (Int32.ofNat o), .int (Int32.ofNat len), .null] 6)) (T5.setTop (mkF m 36 #[.val (.ref a), .val (.ref b), .val (.int (Int32.ofNat o)), .val (.int (Int32.ofNat len)), .val .null, .unset] [.int (Int32.ofNat len), .int (Int32.ofNat o), .ref b])) := c6.trans (by
    refine XS.ifNo X5.here hexec rfl (hb hbytes d30) rfl (i0_eq_f hz) ?_
    refine XS.aloadN X5.here hexec rfl (hb hbytes d33) rfl rfl ?_
    refine XS.iloadN X5.here hexec rfl (hb hbytes d34) rfl ?_
    refine XS.iloadN X5.here hexec rfl (hb hbytes d35) rfl ?_
    exact Steps.refl _)
  obtain ⟨v8, T8, X8, E8, g8⟩ := X5.callS hexec (Cmp3.law l b A o len) hown (wks W (staticW "java/lang/String" 177 Cmp3.yN)) (wk W Cmp3.tab) (W := 0) (Nat.le_of_ble_eq_true rfl) (Nat.le_of_ble_eq_true rfl) (Nat.le_refl _) (by show 0 + len ≤ len; omega) (g := (mkF m 36 #[.val (.ref a), .val (.ref b), .val (.int (Int32.ofNat o)), .val (.int (Int32.ofNat len)), .val .null, .unset] [.int (Int32.ofNat len), .int (Int32.ofNat o), .ref b])) rfl (by rw [hml]; rfl) c7 (argsL := [.ref b, .int (Int32.ofNat o), .int (Int32.ofNat len)]) (rest := []) rfl rfl (by show 2 * 0 + 0 ≤ _; decide) (hb hbytes d36) (⟨rfl, hA.mv X5.warmed.alike hh5, l1, l2, hp⟩)
  obtain ⟨e8, z8⟩ := E8
  obtain ⟨rfl, N, n1, n2, n3, n4, n5, n6⟩ := NewArr.mv _ T5 s _ _ hh5.symm (Vm.Alike.refl _) rfl e8
  rw [hh5] at z8
  have hB1 := hB.keep X8.warmed.alike (n6 _ _ hB.1)
  have hne : s.heap.size ≠ a := (Nat.ne_of_lt (Array.getElem?_eq_some_iff.mp hB.1).1).symm
  have c9 : Steps p.tables e below (s₁.setTop (entryFrame m #[.ref a, .ref b, .int (Int32.ofNat o), .int (Int32.ofNat len), .null] 6)) (T8.setTop (mkF m 39 #[.val (.ref a), .val (.ref b), .val (.int (Int32.ofNat o)), .val (.int (Int32.ofNat len)), .val .null, .unset] [.ref s.heap.size])) := g8
  have c10 : Steps p.tables e below (s₁.setTop (entryFrame m #[.ref a, .ref b, .int (Int32.ofNat o), .int (Int32.ofNat len), .null] 6)) (T8.setTop (mkF m 45 #[.val (.ref a), .val (.ref b), .val (.int (Int32.ofNat o)), .val (.int (Int32.ofNat len)), .val .null, .val (.ref s.heap.size)] [.int (Int32.ofNat N.slots.size), .ref s.heap.size, .ref a])) := by
    have hc : Steps p.tables e below (s₁.setTop (entryFrame m #[.ref a, .ref b, .int (Int32.ofNat o), .int (Int32.ofNat len), .null] 6)) (T8.setTop (mkF m 45 #[.val (.ref a), .val (.ref b), .val (.int (Int32.ofNat o)), .val (.int (Int32.ofNat len)), .val .null, .val (.ref s.heap.size)] [.int (Int32.ofNat len), .ref s.heap.size, .ref a])) := c9.trans (by
      refine XS.astore X8.here hexec rfl (hb hbytes d39) rfl rfl rfl ?_
      refine XS.aloadN X8.here hexec rfl (hb hbytes d41) rfl rfl ?_
      refine XS.aload X8.here hexec rfl (hb hbytes d42) rfl rfl ?_
      refine XS.iloadN X8.here hexec rfl (hb hbytes d44) rfl ?_
      exact Steps.refl _)
    rw [n4]; exact hc
  obtain ⟨v11, T11, X11, E11, g11⟩ := X8.callS hexec (CodL.law l s.heap.size N) hown (wks W (staticW "java/lang/String" 47 CodL.yN)) (wk W CodL.tab) (W := 1) (Nat.le_of_ble_eq_true rfl) (Nat.le_of_ble_eq_true rfl) (Nat.le_refl _) (by show 0 + len + 0 ≤ len; omega) (g := (mkF m 45 #[.val (.ref a), .val (.ref b), .val (.int (Int32.ofNat o)), .val (.int (Int32.ofNat len)), .val .null, .val (.ref s.heap.size)] [.int (Int32.ofNat N.slots.size), .ref s.heap.size, .ref a])) rfl (by rw [hml]; rfl) c10 (argsL := [.ref s.heap.size, .int (Int32.ofNat N.slots.size)]) (rest := [.ref a]) rfl rfl (by show 2 * 0 + (1 + 0) ≤ _; decide) (hb hbytes d45) (⟨rfl, n1⟩)
  obtain ⟨rfl, q11⟩ := E11
  have hB11 := hB1.mv (X8.warmed.alike.symm.trans X11.warmed.alike) q11
  have c12 : Steps p.tables e below (s₁.setTop (entryFrame m #[.ref a, .ref b, .int (Int32.ofNat o), .int (Int32.ofNat len), .null] 6)) (T11.setTop (mkF m 48 #[.val (.ref a), .val (.ref b), .val (.int (Int32.ofNat o)), .val (.int (Int32.ofNat len)), .val .null, .val (.ref s.heap.size)] [.int 0, .ref a])) := g11
  obtain ⟨T13, X13, p13, bl13, sl13, st13⟩ := X11.finit hexec hown (wk W (.fieldLink "java/lang/String" 15 "java/lang/String" "coder" "B")) (Or.inr ⟨_, (wk W (.laysFinal "java/lang/String" "java/lang/String" "coder" "B"))⟩) (Or.inl ⟨rfl, hnm⟩) f2 (Or.inl rfl) hB11 (t := .byte) (by decide +kernel) rfl (g := (mkF m 48 #[.val (.ref a), .val (.ref b), .val (.int (Int32.ofNat o)), .val (.int (Int32.ofNat len)), .val .null, .val (.ref s.heap.size)] [.int 0, .ref a])) rfl (rest := []) rfl (hb hbytes d48)
  have c14 : Steps p.tables e below (s₁.setTop (entryFrame m #[.ref a, .ref b, .int (Int32.ofNat o), .int (Int32.ofNat len), .null] 6)) (T13.setTop (mkF m 54 #[.val (.ref a), .val (.ref b), .val (.int (Int32.ofNat o)), .val (.int (Int32.ofNat len)), .val .null, .val (.ref s.heap.size)] [.ref s.heap.size, .ref a])) := (c12.trans (st13 _ (Steps.refl _))).trans (by
    refine XS.aloadN X13.here hexec rfl (hb hbytes d51) rfl rfl ?_
    refine XS.aload X13.here hexec rfl (hb hbytes d52) rfl rfl ?_
    exact Steps.refl _)
  obtain ⟨T15, X15, p15, bl15, sl15, st15⟩ := X13.finit hexec hown (wk W (.fieldLink "java/lang/String" 9 "java/lang/String" "value" "[B")) (Or.inr ⟨_, (wk W (.laysFinal "java/lang/String" "java/lang/String" "value" "[B"))⟩) (Or.inl ⟨rfl, hnm⟩) f1 (Or.inl rfl) bl13 (t := (.array .byte)) (by decide +kernel) rfl (g := (mkF m 54 #[.val (.ref a), .val (.ref b), .val (.int (Int32.ofNat o)), .val (.int (Int32.ofNat len)), .val .null, .val (.ref s.heap.size)] [.ref s.heap.size, .ref a])) rfl (rest := []) rfl (hb hbytes d54)
  have c16 : Steps p.tables e below (s₁.setTop (entryFrame m #[.ref a, .ref b, .int (Int32.ofNat o), .int (Int32.ofNat len), .null] 6)) (T15.setTop (mkF m 57 #[.val (.ref a), .val (.ref b), .val (.int (Int32.ofNat o)), .val (.int (Int32.ofNat len)), .val .null, .val (.ref s.heap.size)] [])) := c14.trans (st15 _ (Steps.refl _))
  have ap := apart (Or.inr ⟨_, (wk W (.laysFinal "java/lang/String" "java/lang/String" "value" "[B"))⟩) (Or.inr ⟨_, (wk W (.laysFinal "java/lang/String" "java/lang/String" "coder" "B"))⟩) f1 f2 (t₁ := .array .byte) (t₂ := .byte) (by decide +kernel) (by decide +kernel) (by decide)
  have al := X8.warmed.alike.symm.trans X15.warmed.alike
  have n7 : T11.heap[s.heap.size]? = some N := by rw [q11]; exact n1.1
  exact ⟨T15, none, _, _, _, X15, by simp, rfl, by omega, (fun _ => rfl), ⟨rfl, _, N, bl15, ((Same.refl D _).set _ (by simp)).set _ (by simp), sl15, (Cell.slots_setSlot_ne _ ap).trans sl13, n1.keep al (p15.other hne (p13.other hne n7)), n2, by rw [al.findClass]; exact n3, n4, n5, fun y c h1 h2 => p15.other h1 (p13.other h1 (by rw [q11]; exact n6 y c h2)), by rw [p15.2.2, p13.2.2, q11]; exact z8⟩, fun fs hl => c16.trans (X15.returnOut hexec hret (hb hbytes d57) hl)⟩
end New4
namespace New1
def yN : MethodName := ⟨"java/lang/String", "<init>", "([C)V"⟩
abbrev yB : ByteArray := jdk_42_method_3_code
theorem d0 : decode yB 0 = .ok (.aload_n 0, 1) := by decide +kernel
theorem d1 : decode yB 1 = .ok (.aload_n 1, 1) := by decide +kernel
theorem d2 : decode yB 2 = .ok (.iconst 0, 1) := by decide +kernel
theorem d3 : decode yB 3 = .ok (.aload_n 1, 1) := by decide +kernel
theorem d4 : decode yB 4 = .ok (.arraylength, 1) := by decide +kernel
theorem d5 : decode yB 5 = .ok (.aconst_null, 1) := by decide +kernel
theorem d6 : decode yB 6 = .ok (.invokespecial 27, 3) := by decide +kernel
theorem d9 : decode yB 9 = .ok (.return_, 1) := by decide +kernel
def site : List Cond := [New4.tab] ++ initW "java/lang/String" 27 New4.yN
def tab : Cond := tabOf yN yB 2 none site
def P (a : Addr) (D : Cell) (fV fC : Field) (b : Addr) (A : Cell) (z : Int32) (args : Array Value) (s : State) : Prop := args = #[.ref a, .ref b] ∧ Blank "java/lang/String" a D s ∧ Found "java/lang/String" "value" "[B" fV s ∧ Found "java/lang/String" "coder" "B" fC s ∧ Ch b A s ∧ StaticIs s "java/lang/String" "COMPACT_STRINGS" "Z" (.int z) ∧ ¬ z = 0 ∧ 0 < A.slots.size ∧ A.slots.size ≤ 536870912 ∧ ∀ i, i < A.slots.size → ¬ 255 < cv A i
def E (a : Addr) (D : Cell) (fV fC : Field) (A : Cell) (r : Option Value) (s u : State) : Prop := Got a D fV fC A 0 A.slots.size r s u
/-- new String(chars), not empty, no char above 255: a Latin-1 String of their low bytes -/
theorem law (l : Launch) (a : Addr) (D : Cell) (fV fC : Field) (b : Addr) (A : Cell) (z : Int32) : Law l yN 2 1 3 52 yB 2 none site (P a D fV fC b A z) (E a D fV fC A) [⟨a, fC.slot⟩, ⟨a, fV.slot⟩] 1 A.slots.size := by
  refine Law.of_walk (plainFor_of_name (by decide +kernel)) (by decide +kernel) (by decide +kernel) (by decide) (fun _ _ h => by rw [h.1]; rfl) (fun _ U U' hal hh h => ⟨h.1, h.2.1.mv hal hh, h.2.2.1.al hal, h.2.2.2.1.al hal, h.2.2.2.2.1.mv hal hh, h.2.2.2.2.2.1.there hal hh, h.2.2.2.2.2.2⟩) (fun r U U' V V' h1 hal h2 h => Got.mv r U U' V V' h1 hal h2 h) ?_
  intro p e s m args below meth c s₁ X0 hexec hbytes hml hret hlk hnm hown hh0 W hP
  obtain ⟨rfl, hB, f1, f2, hA, s1, hz, l0, l2, hp⟩ := hP
  have c1 : Steps p.tables e below (s₁.setTop (entryFrame m #[.ref a, .ref b] 2)) (s₁.setTop (mkF m 0 #[.val (.ref a), .val (.ref b)] [])) := entry rfl
  have c2 : Steps p.tables e below (s₁.setTop (entryFrame m #[.ref a, .ref b] 2)) (s₁.setTop (mkF m 6 #[.val (.ref a), .val (.ref b)] [.null, .int (Int32.ofNat A.slots.size), .int 0, .ref b, .ref a])) := c1.trans (by
    refine XS.aloadN X0.here hexec rfl (hb hbytes d0) rfl rfl ?_
    refine XS.aloadN X0.here hexec rfl (hb hbytes d1) rfl rfl ?_
    refine iconstV X0.here hexec rfl 0 (hb hbytes d2) (by decide) ?_
    refine XS.aloadN X0.here hexec rfl (hb hbytes d3) rfl rfl ?_
    refine X0.alen hexec (hA.1.mv X0.warmed.alike hh0) rfl rfl (hb hbytes d4) ?_
    refine XS.aconstNull X0.here hexec rfl (hb hbytes d5) ?_
    exact Steps.refl _)
  obtain ⟨v3, T3, X3, E3, g3⟩ := X0.callN hexec (New4.law l a D fV fC b A z 0 A.slots.size) rfl hown (wks W (initW "java/lang/String" 27 New4.yN)) (W New4.tab (by simp only [site, List.mem_cons, List.mem_append, true_or, or_true])) (W := 0) (Nat.le_of_ble_eq_true rfl) (Nat.le_of_ble_eq_true rfl) (Nat.le_refl _) (by show 0 + A.slots.size ≤ A.slots.size; omega) (g := (mkF m 6 #[.val (.ref a), .val (.ref b)] [.null, .int (Int32.ofNat A.slots.size), .int (Int32.ofNat 0), .ref b, .ref a])) rfl (by rw [hml]; rfl) c2 (argsL := [.ref b, .int (Int32.ofNat 0), .int (Int32.ofNat A.slots.size), .null]) (rest := []) rfl rfl (by show 2 * 0 + 0 ≤ _; decide) (hb hbytes d6) (⟨rfl, hB.mv X0.warmed.alike hh0, f1.al X0.warmed.alike, f2.al X0.warmed.alike, hA.mv X0.warmed.alike hh0, s1.there X0.warmed.alike hh0, hz, l0, by omega, l2, fun i hi => by rw [Nat.zero_add]; exact hp i hi⟩)
  have e0 := Got.mv _ s₁ s _ _ hh0.symm (Vm.Alike.refl _) rfl E3
  obtain rfl := e0.1
  have c4 : Steps p.tables e below (s₁.setTop (entryFrame m #[.ref a, .ref b] 2)) (T3.setTop (mkF m 9 #[.val (.ref a), .val (.ref b)] [])) := g3
  exact ⟨T3, none, _, _, _, X3, by simp, rfl, by omega, (fun _ => rfl), e0, fun fs hl => c4.trans (X3.returnOut hexec hret (hb hbytes d9) hl)⟩
theorem pays {l : Launch} {R : Room} {p : Program} {e : Env} {below : List Frame} {s : State} {sargs : Array Value} {len W : Nat} (a : Addr) (D : Cell) (fV fC : Field) (b : Addr) (A : Cell) (z : Int32) (htab : tab.before sargs s = true) (hfr : 4 ≤ R.frames) (hlo : W + 65 ≤ R.locals) :
    Back l R p e below s sargs yN len W (fun A₁ a₁ => A₁.cells + 1 ≤ R.cells ∧ A₁.slots + A.slots.size ≤ R.slots ∧ P a D fV fC b A z a₁ A₁.U) (fun A₁ _ v₁ B₁ => E a D fV fC A v₁ A₁.U B₁.U ∧ B₁.locs = A₁.locs ++ [⟨a, fC.slot⟩, ⟨a, fV.slot⟩] ∧ B₁.cells = A₁.cells + 1 ∧ B₁.slots = A₁.slots + A.slots.size) :=
  (law l a D fV fC b A z).pays htab hfr (by omega)
end New1
/-- the byte, read back as charAt reads it, is the char -/
theorem lo8_mask {x : Int32} (h0 : ¬ x < 0) (h1 : ¬ 255 < x) : lo8 x &&& 255 = x := by
  have t : ∀ k : Fin 256, lo8 (Int32.ofNat k.val) &&& 255 = Int32.ofNat k.val := by decide +kernel
  rw [Int32.lt_iff_toInt_lt] at h0 h1
  have e0 : (0 : Int32).toInt = 0 := rfl
  have e1 : (255 : Int32).toInt = 255 := rfl
  obtain ⟨k, hk⟩ : ∃ k : Nat, x.toInt = k := ⟨x.toInt.toNat, by omega⟩
  have hx : x = Int32.ofNat k := Int32.toInt_inj.mp (by rw [hk, Int32.toInt_ofNat_small (by omega)])
  rw [hx]
  exact t ⟨k, by omega⟩
end StrChars
namespace StrChars.Road
open Jvm Sem ClassFile Op Lib Jvm.Stand Jvm.Free Jvm.Free.XT
open Jvm.Lib.Cold (StaticIs)
abbrev ST : String := "java/lang/String"
/-- every table word that New1's law asks, flat -/
abbrev words : List Jvm.Cond := [.code New1.yN New1.yB 2 none, .initialized ST, .methodLink ST 27 New4.yN, .instanceMethod New4.yN,
  .code New4.yN New4.yB 6 none, .fieldLink ST 38 ST "COMPACT_STRINGS" "Z", .laysFinal ST ST "value" "[B", .fieldLink ST 9 ST "value" "[B", .laysFinal ST ST "coder" "B", .fieldLink ST 15 ST "coder" "B",
  .methodLink ST 1 Lib.objectInit, .instanceMethod Lib.objectInit, .code Lib.objectInit ⟨#[0xb1]⟩ 1 none, .methodLink ST 177 Cmp3.yN, .static Cmp3.yN, .methodLink ST 47 CodL.yN, .static CodL.yN,
  .code Cmp3.yN Cmp3.yB 6 (some (.array .byte)), .initialized U16, .arrayClass .byte, .methodLink U16 115 Cmp5.yN, .static Cmp5.yN, .code Cmp5.yN Cmp5.yB 7 (some .int), .code CodL.yN CodL.yB 2 (some .byte)]
theorem tab_of {a : Array Value} {s : State} (h : ∀ w ∈ words, w.before a s = true) : New1.tab.before a s = true := by
  have h5 : Cmp5.tab.before a s = true := unparts (wk h (.code Cmp5.yN Cmp5.yB 7 (some .int))) (wks h (.initialized Cmp5.yN.cls :: Cmp5.site))
  have hc : CodL.tab.before a s = true := unparts (wk h (.code CodL.yN CodL.yB 2 (some .byte))) (wks h (.initialized CodL.yN.cls :: CodL.site))
  have q5 : ∀ w ∈ Cmp5.tab :: words, w.before a s = true := fun w hw => (List.mem_cons.mp hw).elim (fun e => e ▸ h5) (h w)
  have h3 : Cmp3.tab.before a s = true := unparts (wk q5 (.code Cmp3.yN Cmp3.yB 6 (some (.array .byte)))) (wks q5 (.initialized Cmp3.yN.cls :: Cmp3.site))
  have q3 : ∀ w ∈ Cmp3.tab :: CodL.tab :: words, w.before a s = true := fun w hw => (List.mem_cons.mp hw).elim (fun e => e ▸ h3) fun hw => (List.mem_cons.mp hw).elim (fun e => e ▸ hc) (h w)
  have h4 : New4.tab.before a s = true := unparts (wk q3 (.code New4.yN New4.yB 6 none)) (wks q3 (.initialized New4.yN.cls :: New4.site))
  have q4 : ∀ w ∈ New4.tab :: words, w.before a s = true := fun w hw => (List.mem_cons.mp hw).elim (fun e => e ▸ h4) (h w)
  exact unparts (wk q4 (.code New1.yN New1.yB 2 none)) (wks q4 (.initialized New1.yN.cls :: New1.site))
/-- the words ride from the start Z to the walk's own state -/
theorem moved {Z s : State} {a0 args : Array Value} (hZ : Z.Warmed39 s.vm) (hw : ∀ d ∈ words, d.before a0 Z = true) : ∀ d ∈ words, d.before args s = true := fun d hd => by
  have q := hw d hd
  have t : ∀ d ∈ words, d = .arrayClass .byte ∨ (d.onTables && d.keepsFace) = true := by decide +kernel
  rcases t d hd with rfl | t
  · exact RoadKit.mvA hZ q
  · exact RoadKit.mv hZ q t
/-- WHAT COMES BACK, over the tables of the start Z: h the heap at the call, h' behind it -/
def Q (Z : State) (x : Addr) (A : Cell) (h : Heap) (v : Option Value) (h' : Heap) (L : List Loc) : Prop := v = none ∧ (∀ y ∈ L, y.base = x) ∧ RoadKit.Keep h h' [x] ∧ h'.size = h.size + 1 ∧ RoadKit.Exa Z h' x ST ∧ RoadKit.Fld Z h' x ST "value" "[B" (.ref h.size) ∧ RoadKit.Fld Z h' x ST "coder" "B" (.int 0) ∧
  (∃ V : Cell, RoadKit.Arr Z h' h.size V .byte ∧ V.vm = .none ∧ Z.vm.findClass "[B" = some V.cls ∧ V.slots.size = A.slots.size ∧ ∀ j, j < A.slots.size → V.slots[j]? = some (.int (lo8 (cv A j)))) ∧
  ∀ (O n d : String) (w : Value), RoadKit.Fld Z h x O n d w → RoadKit.slotOf Z O n d ≠ RoadKit.slotOf Z ST "value" "[B" → RoadKit.slotOf Z O n d ≠ RoadKit.slotOf Z ST "coder" "B" → RoadKit.Fld Z h' x O n d w
/-- **new String(chars) AT A CALL, IN THE ROAD'S FORM**: for specialBack behind newO: x the fresh String, b the char[] with the cell A -/
theorem back {p : Program} {l : Launch} {e : Env} {R : Room} {s : State} {args : Array Value} {below : List Frame} {len W : Nat} {Z : State} {a0 : Array Value} {h : Heap} (hZ : Z.Warmed39 s.vm) (hw : ∀ d ∈ words, d.before a0 Z = true) {kI : Nat} (wi : (Jvm.Cond.instantiable ST kI).before a0 Z = true)
    {x b : Addr} {A : Cell} {z : Int32} {v0 c0 : Value} (E : RoadKit.Exa Z h x ST) (V : RoadKit.Fld Z h x ST "value" "[B" v0) (C : RoadKit.Fld Z h x ST "coder" "B" c0) (K : RoadKit.Arr Z h b A .char) (hty : Typed .char A) (S : RoadKit.Sta Z h ST "COMPACT_STRINGS" "Z" (.int z)) (hz : ¬ z = 0)
    (l0 : 0 < A.slots.size) (l2 : A.slots.size ≤ 536870912) (hp : ∀ i, i < A.slots.size → ¬ 255 < cv A i) (hfr : 4 ≤ R.frames) (hlo : W + 65 ≤ R.locals) :
    Back l R p e below s args New1.yN len W (fun P a => a = #[.ref x, .ref b] ∧ P.U.heap = h ∧ P.cells + 1 ≤ R.cells ∧ P.slots + A.slots.size ≤ R.slots)
      (fun P _ v B => ∃ L, Q Z x A h v B.U.heap L ∧ B.locs = P.locs ++ L ∧ B.cells = P.cells + 1 ∧ B.slots = P.slots + A.slots.size) := by
  intro m meth c P g ig mk a X hg hsize hdg hW hn hp'
  obtain ⟨rfl, rfl, r1, r2⟩ := hp'
  have al : Z.vm.Alike P.U.vm := hZ.alike.trans X.warmed.alike
  obtain ⟨D, cfV, kV, iV, fV, hD, gV, stV, knV, obV, asV, slV⟩ := id V
  obtain ⟨D', cfC, kC, iC, fC, hD', gC, stC, -, -, asC, slC⟩ := id C
  cases hD.symm.trans hD'
  obtain ⟨D2, kD, e1, e2, e3, e4, e5⟩ := id E
  cases hD.symm.trans e1
  obtain ⟨c2, k2, i1, i2, i3, -⟩ := Cond.instantiable_spec wi
  cases e2.symm.trans i1
  cases e3.symm.trans i2
  obtain ⟨kU, u1, u2⟩ := al.2.2 _ _ e3
  have hB : Blank ST x D P.U := ⟨hD, ⟨knV, fun q hq => by rw [hq] at obV; cases obV⟩, by rw [al.findClass]; exact e2, kU, u1, by rw [u2]; exact i3, by rw [u2]; exact e5 i3⟩
  have F1 : Found ST "value" "[B" fV P.U := ⟨SBG.found_only al ⟨cfV, kV, iV, gV⟩, stV⟩
  have F2 : Found ST "coder" "B" fC P.U := ⟨SBG.found_only al ⟨cfC, kC, iC, gC⟩, stC⟩
  have hA : Ch b A P.U := ⟨⟨K.1, State.isArrayOf_alike al K.2.1, K.2.2, by omega⟩, hty⟩
  have hS : StaticIs P.U ST "COMPACT_STRINGS" "Z" (.int z) := by
    obtain ⟨cfS, iS, kS, fS, st, cS, t1, t2, t3, t4, t5, t6, t7⟩ := S
    exact StaticIs.there (s := { Z with heap := P.U.heap }) ⟨cfS, iS, kS, fS, st, cS, t1, t2, t3, t4, t5, (fun q => by rw [q] at t6; cases t6), t7⟩ al rfl
  obtain ⟨v, B, X', ⟨⟨hv, E', V', q1, q2, q3, q4, q5, q6, q7, q8, q9, q10, q11⟩, hl, hc, hs⟩, st⟩ := New1.pays x D fV fC b A z (tab_of (moved hZ hw)) hfr hlo m meth c P g ig mk _ X hg hsize hdg hW hn ⟨r1, r2, rfl, hB, F1, F2, hA, hS, hz, l0, l2, hp⟩
  have al' : Z.vm.Alike B.U.vm := hZ.alike.trans X'.warmed.alike
  have hsz : E'.slots.size = D.slots.size := by
    obtain ⟨-, -, -, kB, w1, w2, w3⟩ := q1
    obtain ⟨kB', y1, y2⟩ := al'.2.2 _ _ e3
    rw [q2.2.1] at w1
    cases w1.symm.trans y1
    rw [w3, e5 i3, y2]
  refine ⟨v, B, X', ⟨_, ⟨hv, ?_, ⟨by omega, fun y cy hy hn' => q10 y cy (by simpa using hn') hy, fun y cy hy => ?_⟩, q11, ⟨E', _, q1.1, by rw [q2.2.1]; exact e2, by rw [q2.2.1]; exact e3, by rw [q2.1]; exact obV, fun _ => by rw [hsz]; exact e5 i3⟩,
    ⟨E', cfV, kV, iV, fV, q1.1, gV, stV, by rw [q2.1]; exact knV, by rw [q2.1]; exact obV, by rw [q2.2.1]; exact asV, q3⟩, ⟨E', cfC, kC, iC, fC, q1.1, gC, stC, by rw [q2.1]; exact knV, by rw [q2.1]; exact obV, by rw [q2.2.1]; exact asC, q4⟩,
    ⟨V', ⟨q5.1, State.isArrayOf_alike al'.symm q5.2.1, q5.2.2.1⟩, q6, by rw [← al'.findClass]; exact q7, q8, fun j hj => by have := q9 j hj; rwa [Nat.zero_add] at this⟩, fun O n d w F n1 n2 => ?_⟩, hl, hc, hs⟩, st⟩
  · intro y hy
    simp only [List.mem_cons, List.not_mem_nil, or_false] at hy
    rcases hy with rfl | rfl <;> rfl
  · by_cases q : y = x
    · subst q
      cases hD.symm.trans hy
      exact ⟨E', q1.1, q2.2.1, q2.1, hsz⟩
    · exact ⟨cy, q10 y cy q hy, rfl, rfl, rfl⟩
  · obtain ⟨D3, cf, k, i, f, g1, g2, g3, g4, g5, g6, g7⟩ := F
    cases hD.symm.trans g1
    simp only [RoadKit.slotOf, g2, gV, gC, Option.map_some, Option.getD_some] at n1 n2
    exact ⟨E', cf, k, i, f, q1.1, g2, g3, by rw [q2.1]; exact g4, by rw [q2.1]; exact g5, by rw [q2.2.1]; exact g6, by rw [q2.2.2 f.slot (by simp [n1, n2])]; exact g7⟩
end StrChars.Road
namespace StrChars.Road
open Jvm Sem ClassFile Op Lib Jvm.Stand Jvm.Free Jvm.Free.XT
/-- WHAT COMES BACK, the byte[] as a list of values -/
def QA (Z : State) (x : Addr) (zn : Int32) (cs : List Int32) (h : Heap) (v : Option Value) (h' : Heap) (L : List Loc) : Prop := v = none ∧ (∀ y ∈ L, y.base = x) ∧ RoadKit.Keep h h' [x] ∧ h'.size = h.size + 1 ∧ RoadKit.Exa Z h' x ST ∧ RoadKit.Fld Z h' x ST "value" "[B" (.ref h.size) ∧ RoadKit.Fld Z h' x ST "coder" "B" (.int 0) ∧
  (∃ kb, Z.vm.findClass "[B" = some kb ∧ RoadKit.Arv Z h' h.size kb .byte zn (cs.map fun c => .int (lo8 c)) (.int 0)) ∧
  ∀ (O n d : String) (w : Value), RoadKit.Fld Z h x O n d w → RoadKit.slotOf Z O n d ≠ RoadKit.slotOf Z ST "value" "[B" → RoadKit.slotOf Z O n d ≠ RoadKit.slotOf Z ST "coder" "B" → RoadKit.Fld Z h' x O n d w
/-- **new String(chars) AT A CALL, THE ARRAYS AS LISTS**: the char[] at b holds cs, not empty, no char above 255 -/
theorem backArv {p : Program} {l : Launch} {e : Env} {R : Room} {s : State} {args : Array Value} {below : List Frame} {len W : Nat} {Z : State} {a0 : Array Value} {h : Heap} (hZ : Z.Warmed39 s.vm) (hw : ∀ d ∈ words, d.before a0 Z = true) {kI : Nat} (wi : (Jvm.Cond.instantiable ST kI).before a0 Z = true)
    {x b : Addr} {k : ClassId} {zn z : Int32} {cs : List Int32} {dv v0 c0 : Value} (E : RoadKit.Exa Z h x ST) (V : RoadKit.Fld Z h x ST "value" "[B" v0) (C : RoadKit.Fld Z h x ST "coder" "B" c0) (K : RoadKit.Arv Z h b k .char zn (cs.map Value.int) dv) (S : RoadKit.Sta Z h ST "COMPACT_STRINGS" "Z" (.int z)) (hz : ¬ z = 0)
    (hlen : zn.toNatClampNeg = cs.length) (h0 : 0 < cs.length) (hbig : cs.length ≤ 536870912) (hall : ∀ c ∈ cs, ¬ 255 < c) (hfr : 4 ≤ R.frames) (hlo : W + 65 ≤ R.locals) :
    Back l R p e below s args New1.yN len W (fun P a => a = #[.ref x, .ref b] ∧ P.U.heap = h ∧ P.cells + 1 ≤ R.cells ∧ P.slots + cs.length ≤ R.slots)
      (fun P _ v B => ∃ L, QA Z x zn cs h v B.U.heap L ∧ B.locs = P.locs ++ L ∧ B.cells = P.cells + 1 ∧ B.slots = P.slots + cs.length) := by
  obtain ⟨A, K1, K2, K3, K4, K5, K6⟩ := K
  have e : A.slots.size = cs.length := K3.trans hlen
  have hat : ∀ (i : Nat) (hi : i < cs.length), A.slots[i]? = some (.int cs[i]) := fun i hi => by rw [K5 i (by omega)]; simp [List.getD_eq_getElem?_getD, hi]
  have hcv : ∀ (i : Nat) (hi : i < cs.length), cv A i = cs[i] := fun i hi => by unfold cv; rw [hat i hi]
  have hty : Typed .char A := fun i v hv => by
    have hi : i < A.slots.size := (Array.getElem?_eq_some_iff.mp hv).1
    have q := K5 i hi
    rw [hv] at q
    rw [Option.some.inj q]
    exact K6 i hi
  refine Back.mono (back hZ hw wi E V C K1 hty S hz (by omega) (by omega) (fun i hi => by rw [hcv i (by omega)]; exact hall _ (List.getElem_mem _)) hfr hlo) (fun P a hp => ⟨hp.1, hp.2.1, hp.2.2.1, by rw [e]; exact hp.2.2.2⟩) (fun P a v B hp hq => ?_)
  obtain ⟨L, ⟨q1, q2, q3, q4, q5, q6, q7, ⟨V', v1, v2, v3, v4, v5⟩, q9⟩, hl, hc, hs⟩ := hq
  refine ⟨L, ⟨q1, q2, q3, q4, q5, q6, q7, ⟨V'.cls, v3, V', v1, rfl, by rw [v4, e, hlen], K4, fun i hi => ?_, fun i hi => ?_⟩, q9⟩, hl, hc, by rw [hs, e]⟩
  · have hi' : i < cs.length := by omega
    rw [v5 i (by omega), hcv i hi']; simp [List.getD_eq_getElem?_getD, hi']
  · have hi' : i < cs.length := by omega
    simp only [List.getD_eq_getElem?_getD, List.getElem?_map, List.getElem?_eq_getElem hi', Option.map_some, Option.getD_some]
    exact fits_lo8 _
end StrChars.Road
namespace StrChars.Road
open Jvm Sem ClassFile Op Lib Jvm.Stand Jvm.Free Jvm.Free.XT
/-- WHAT COMES BACK, in the writer's own shape -/
def QV (Z : State) (x : Addr) (N : Int32) (bs : List Int32) (h : Heap) (n0 : Nat) (v : Option Value) (h' : Heap) (L : List Loc) : Prop := v = none ∧ RoadKit.Fr n0 L ∧ RoadKit.Keep h h' [x] ∧ RoadKit.Exa Z h' x ST ∧ RoadKit.Fld Z h' x ST "coder" "B" (.int 0) ∧
  ∃ (t : Addr) (kb : ClassId), n0 ≤ t ∧ h.size ≤ t ∧ ¬ t = x ∧ RoadKit.Fld Z h' x ST "value" "[B" (.ref t) ∧ RoadKit.Arv Z h' t kb .byte N (bs.map Value.int) (.int 0)
/-- **new String(chars) AT A CALL, FOR THE WRITER**: a char[] of n known ints, each 0 to 255 -/
theorem backV {p : Program} {l : Launch} {e : Env} {R : Room} {s : State} {args : Array Value} {below : List Frame} {len W : Nat} {Z : State} {a0 : Array Value} {h : Heap} (hZ : Z.Warmed39 s.vm) (hw : ∀ d ∈ words, d.before a0 Z = true) {kI : Nat} (wi : (Jvm.Cond.instantiable ST kI).before a0 Z = true)
    {x b : Addr} {kC : ClassId} {cs bs : List Int32} {d v0 c0 : Value} {z N : Int32} {n n0 : Nat} (hx0 : n0 ≤ x) (hh0 : n0 ≤ h.size) (E : RoadKit.Exa Z h x ST) (V : RoadKit.Fld Z h x ST "value" "[B" v0) (C : RoadKit.Fld Z h x ST "coder" "B" c0) (K : RoadKit.Arv Z h b kC .char N (cs.map Value.int) d) (S : RoadKit.Sta Z h ST "COMPACT_STRINGS" "Z" (.int z)) (hz : ¬ z = 0)
    (hn : cs.length = n) (hN : N = Int32.ofNat n) (l0 : 0 < n) (l2 : n ≤ 4000) (hp : ∀ c ∈ cs, ¬ c < 0 ∧ ¬ (255 : Int32) < c) (hb : bs = cs.map (fun c => c.toInt8.toInt32)) (hfr : 4 ≤ R.frames) (hlo : W + 65 ≤ R.locals) :
    Back l R p e below s args (⟨"java/lang/String", "<init>", "([C)V"⟩ : MethodName) len W (fun P a => a = #[.ref x, .ref b] ∧ P.U.heap = h ∧ P.cells + 1 ≤ R.cells ∧ P.slots + n ≤ R.slots)
      (fun P _ v B => ∃ L, QV Z x N bs h n0 v B.U.heap L ∧ B.locs = P.locs ++ L ∧ B.cells = P.cells + 1 ∧ B.slots = P.slots + n) := by
  subst hn hN hb
  refine Back.mono (backArv hZ hw wi E V C K S hz (n32 (by omega)) l0 (by omega) (fun c hc => (hp c hc).2) hfr hlo) (fun P a hp => hp) (fun P a v B hp hq => ?_)
  obtain ⟨L, ⟨q1, q2, q3, q4, q5, q6, q7, ⟨kb, v1, v2⟩, q9⟩, hl, hc, hs⟩ := hq
  exact ⟨L, ⟨q1, fun y hy => by rw [q2 y hy]; exact hx0, q3, q5, q7, h.size, kb, hh0, Nat.le_refl _, Nat.ne_of_gt E.lt, q6, by rw [List.map_map]; exact v2⟩, hl, hc, hs⟩
end StrChars.Road
namespace StrChars
open Jvm Sem ClassFile Op Lib Jvm.Stand Jvm.Free.XT Jvm.Free.ALB Jvm.Free.JM Jvm.Free
open Jvm.Lib.Cold (StaticIs)
def hi8 (x : Int32) : Int32 := lo8 (x >>> ((8 : Int32) &&& 31))
/-- what StringUTF16.getChar makes of two bytes -/
def pairCh (u v : Int32) : Int32 := (((u &&& 255) <<< ((0 : Int32) &&& 31)) ||| ((v &&& 255) <<< ((8 : Int32) &&& 31))).toUInt32.toUInt16.toUInt32.toInt32
theorem shr0 (c : Int32) : c >>> ((0 : Int32) &&& 31) = c := by
  have e : ((0 : Int32) &&& 31) = 0 := by decide
  rw [e]
  apply Int32.toBitVec_inj.mp
  rw [Int32.toBitVec_shiftRight]
  have e1 : ((0 : Int32).toBitVec.smod 32) = 0#32 := by decide
  rw [e1, BitVec.sshiftRight_eq']
  exact BitVec.sshiftRight_zero
theorem lo8_and (x : Int32) : (lo8 x &&& 255).toBitVec.toNat = x.toBitVec.toNat % 256 := by
  have h : (lo8 x).toBitVec = (x.toBitVec.signExtend 8).signExtend 32 := by rw [lo8, Int8.toBitVec_toInt32, Int32.toBitVec_toInt8]
  rw [Int32.toBitVec_and, BitVec.toNat_and, h]
  have e : ((x.toBitVec.signExtend 8).signExtend 32).toNat % 256 = x.toBitVec.toNat % 256 := by
    rw [BitVec.toNat_signExtend]
    have hlt := x.toBitVec.isLt
    simp only [BitVec.toNat_setWidth, BitVec.toNat_signExtend]
    split <;> split <;> omega
  rw [← e]
  exact Nat.and_two_pow_sub_one_eq_mod _ 8
theorem pair_says {c : Int32} (h0 : ¬ c < 0) (h1 : ¬ 65535 < c) : pairCh (lo8 c) (hi8 c) = c := by
  rw [Int32.lt_iff_toInt_lt] at h0 h1
  have e0 : (0 : Int32).toInt = 0 := rfl
  have e1 : (65535 : Int32).toInt = 65535 := rfl
  have hc : c.toInt = c.toBitVec.toNat := by
    have := c.toBitVec.isLt
    have e : c.toInt = c.toBitVec.toInt := rfl
    rw [e] at h0 h1
    rw [e]
    rw [BitVec.toInt_eq_toNat_cond] at h0 h1 ⊢
    split at h0 <;> split <;> omega
  have hn : c.toBitVec.toNat < 65536 := by omega
  have a1 := lo8_and c
  have a2 : (hi8 c &&& 255).toBitVec.toNat = c.toBitVec.toNat / 256 := by
    rw [hi8, lo8_and]
    have e : ((8 : Int32) &&& 31) = 8 := by decide
    rw [e, Int32.toBitVec_shiftRight]
    have e2 : ((8 : Int32).toBitVec.smod 32) = 8#32 := by decide
    rw [e2, BitVec.sshiftRight_eq', BitVec.toNat_sshiftRight_of_msb_false (by rw [BitVec.msb_eq_false_iff_two_mul_lt]; omega)]
    show c.toBitVec.toNat >>> 8 % 256 = _
    rw [Nat.shiftRight_eq_div_pow]
    omega
  unfold pairCh
  apply Int32.toBitVec_inj.mp
  apply BitVec.eq_of_toNat_eq
  have f0 : ((0 : Int32) &&& 31) = 0 := by decide
  have f8 : ((8 : Int32) &&& 31) = 8 := by decide
  rw [f0, f8]
  have g : (((lo8 c &&& 255) <<< (0 : Int32)) ||| ((hi8 c &&& 255) <<< (8 : Int32))).toBitVec.toNat = c.toBitVec.toNat := by
    rw [Int32.toBitVec_or, Int32.toBitVec_shiftLeft, Int32.toBitVec_shiftLeft]
    have s0 : ((0 : Int32).toBitVec.smod 32) = 0#32 := by decide
    have s8 : ((8 : Int32).toBitVec.smod 32) = 8#32 := by decide
    rw [s0, s8, BitVec.toNat_or]
    simp only [BitVec.shiftLeft_eq', BitVec.toNat_shiftLeft, a1, a2]
    show (c.toBitVec.toNat % 256) <<< 0 % 2 ^ 32 ||| (c.toBitVec.toNat / 256) <<< 8 % 2 ^ 32 = _
    rw [Nat.shiftLeft_zero, Nat.mod_eq_of_lt (show c.toBitVec.toNat % 256 < 2 ^ 32 by omega), Nat.mod_eq_of_lt (show (c.toBitVec.toNat / 256) <<< 8 < 2 ^ 32 by rw [Nat.shiftLeft_eq]; omega), Nat.or_comm, ← Nat.shiftLeft_add_eq_or_of_lt (by omega), Nat.shiftLeft_eq]
    omega
  show BitVec.toNat (((((lo8 c &&& 255) <<< (0 : Int32)) ||| ((hi8 c &&& 255) <<< (8 : Int32))).toBitVec.setWidth 16).setWidth 32) = _
  rw [BitVec.toNat_setWidth, BitVec.toNat_setWidth, g]
  omega
end StrChars
namespace StrChars
open Jvm Sem ClassFile Op Lib Jvm.Stand Jvm.Free.XT Jvm.Free.ALB Jvm.Free.JM Jvm.Free
open Jvm.Lib.Cold (StaticIs)
theorem shr1 {n : Nat} (h : 2 * n < 2 ^ 31) : Int32.ofNat (2 * n) >>> ((1 : Int32) &&& 31) = Int32.ofNat n := by
  have e : ((1 : Int32) &&& 31) = 1 := by decide
  rw [e]
  apply Int32.toBitVec_inj.mp
  rw [Int32.toBitVec_shiftRight]
  have e1 : ((1 : Int32).toBitVec.smod 32) = 1#32 := by decide
  have hm : (BitVec.ofNat 32 (2 * n)).toNat = 2 * n := by rw [BitVec.toNat_ofNat, Nat.mod_eq_of_lt (by omega)]
  rw [e1, BitVec.sshiftRight_eq']
  apply BitVec.eq_of_toNat_eq
  show ((BitVec.ofNat 32 (2 * n)).sshiftRight 1).toNat = (BitVec.ofNat 32 n).toNat
  rw [BitVec.toNat_sshiftRight_of_msb_false (by rw [BitVec.msb_eq_false_iff_two_mul_lt, hm]; omega), hm, BitVec.toNat_ofNat, Nat.shiftRight_eq_div_pow]
  omega
/-- charAt's cast of a byte read back -/
def chr8 (u : Int32) : Int32 := (u &&& 255).toUInt32.toUInt16.toUInt32.toInt32
theorem chr8_lo8 {c : Int32} (h0 : ¬ c < 0) (h1 : ¬ 255 < c) : chr8 (lo8 c) = c := by
  have t : ∀ k : Fin 256, (Int32.ofNat k.val).toUInt32.toUInt16.toUInt32.toInt32 = Int32.ofNat k.val := by decide +kernel
  unfold chr8
  rw [lo8_mask h0 h1]
  rw [Int32.lt_iff_toInt_lt] at h0 h1
  have e0 : (0 : Int32).toInt = 0 := rfl
  have e1 : (255 : Int32).toInt = 255 := rfl
  obtain ⟨k, hk⟩ : ∃ k : Nat, c.toInt = k := ⟨c.toInt.toNat, by omega⟩
  have hx : c = Int32.ofNat k := Int32.toInt_inj.mp (by rw [hk, Int32.toInt_ofNat_small (by omega)])
  rw [hx]
  exact t ⟨k, by omega⟩
theorem narrow_ch {c : Int32} (h0 : ¬ c < 0) (h1 : ¬ 65535 < c) : narrow .char (.int c) = .int c := by
  have q : narrow .char (.int (pairCh (lo8 c) (hi8 c))) = .int (pairCh (lo8 c) (hi8 c)) := narrow_c _
  rwa [pair_says h0 h1] at q
/-- the array's cell V codes the n chars f 0 .. f (n - 1) by the coder cd, as the JDK does: coder 1 just where some char is above 255 -/
def Cod (cd : Int32) (n : Nat) (f : Nat → Int32) (V : Cell) : Prop := (cd = 0 ∧ V.slots.size = n ∧ ∀ j, j < n → V.slots[j]? = some (.int (lo8 (f j))) ∧ ¬ 255 < f j) ∨ (cd = 1 ∧ V.slots.size = 2 * n ∧ (∀ j, j < n → V.slots[2 * j]? = some (.int (lo8 (f j))) ∧ V.slots[2 * j + 1]? = some (.int (hi8 (f j)))) ∧ ∃ j, j < n ∧ 255 < f j)
theorem Cod.cd {cd : Int32} {n : Nat} {f : Nat → Int32} {V : Cell} (h : Cod cd n f V) : cd = 0 ∨ cd = 1 := h.imp (fun q => q.1) fun q => q.1
theorem Cod.len {cd : Int32} {n : Nat} {f : Nat → Int32} {V : Cell} (h : Cod cd n f V) (hs : V.slots.size < 2 ^ 31) : Int32.ofNat V.slots.size >>> (cd &&& 31) = Int32.ofNat n := by
  rcases h with ⟨rfl, h, -⟩ | ⟨rfl, h, -⟩
  · rw [shr0, h]
  · rw [h, shr1 (by omega)]
/-- **x is a String of the n chars f 0 .. f (n - 1)**, Latin-1 or UTF-16; its array at t has the cell V -/
def Txt (x t : Addr) (V : Cell) (cd : Int32) (n : Nat) (f : Nat → Int32) (U : State) : Prop := Exact "java/lang/String" x U ∧ Has x "java/lang/String" "value" "[B" (.ref t) U ∧ Has x "java/lang/String" "coder" "B" (.int cd) U ∧ XT.Arr .byte t V U ∧ Cod cd n f V ∧ ∀ j, j < n → ¬ f j < 0 ∧ ¬ 65535 < f j
theorem Txt.mv {x t : Addr} {V : Cell} {cd : Int32} {n : Nat} {f : Nat → Int32} {U U' : State} (h : Txt x t V cd n f U) (hal : U.vm.Alike U'.vm) (hh : U'.heap = U.heap) : Txt x t V cd n f U' := ⟨h.1.mv hal hh, h.2.1.mv hal hh, h.2.2.1.mv hal hh, h.2.2.2.1.mv hal hh, h.2.2.2.2⟩
namespace Cdr
def yN : MethodName := ⟨"java/lang/String", "coder", "()B"⟩
abbrev yB : ByteArray := jdk_42_method_152_code
theorem d0 : decode yB 0 = .ok (.getstatic 38, 3) := by decide +kernel
theorem d3 : decode yB 3 = .ok (.ifCond (.eq) 10, 3) := by decide +kernel
theorem d6 : decode yB 6 = .ok (.aload_n 0, 1) := by decide +kernel
theorem d7 : decode yB 7 = .ok (.getfield 15, 3) := by decide +kernel
theorem d10 : decode yB 10 = .ok (.goto 4, 3) := by decide +kernel
theorem d14 : decode yB 14 = .ok (.ireturn, 1) := by decide +kernel
def site : List Cond := [.fieldLink "java/lang/String" 38 "java/lang/String" "COMPACT_STRINGS" "Z", .fieldLink "java/lang/String" 15 "java/lang/String" "coder" "B"]
def tab : Cond := tabOf yN yB 1 (some .byte) site
def P (x : Addr) (cd z : Int32) (args : Array Value) (s : State) : Prop := args = #[.ref x] ∧ Has x "java/lang/String" "coder" "B" (.int cd) s ∧ (cd = 0 ∨ cd = 1) ∧ StaticIs s "java/lang/String" "COMPACT_STRINGS" "Z" (.int z) ∧ ¬ z = 0
def E (cd : Int32) (r : Option Value) (s u : State) : Prop := XT.PureE (some (.int cd)) r s u
theorem law (l : Launch) (x : Addr) (cd z : Int32) : Law l yN 1 0 0 0 yB 1 (some .byte) site (P x cd z) (E cd) [] 0 0 := by
  refine Law.of_walk (plainFor_of_name (by decide +kernel)) (by decide +kernel) (by decide +kernel) (by decide) (fun _ _ h => by rw [h.1]; rfl) (fun _ U U' hal hh h => ⟨h.1, h.2.1.mv hal hh, h.2.2.1, h.2.2.2.1.there hal hh, h.2.2.2.2⟩) (fun r U U' V V' h1 hal h2 h => XT.PureE.mv r U U' V V' h1 hal h2 h) ?_
  intro p e s m args below meth c s₁ X0 hexec hbytes hml hret hlk hnm hown hh0 W hP
  obtain ⟨rfl, hx, hc, s1, hz⟩ := hP
  have c1 : Steps p.tables e below (s₁.setTop (entryFrame m #[.ref x] 1)) (s₁.setTop (mkF m 0 #[.val (.ref x)] [])) := entry rfl
  obtain ⟨T2, X2, q2, st2⟩ := X0.sget hexec hown (wk W (.fieldLink "java/lang/String" 38 "java/lang/String" "COMPACT_STRINGS" "Z")) s1 (fun _ _ h => by rw [hh0]; exact h) (g := (mkF m 0 #[.val (.ref x)] [])) rfl (hb hbytes d0)
  have hh2 := q2.trans hh0
  have c3 : Steps p.tables e below (s₁.setTop (entryFrame m #[.ref x] 1)) (T2.setTop (mkF m 7 #[.val (.ref x)] [.ref x])) := (c1.trans (st2 _ (Steps.refl _))).trans (by
    refine XS.ifNo X2.here hexec rfl (hb hbytes d3) rfl (i0_eq_f hz) ?_
    refine XS.aloadN X2.here hexec rfl (hb hbytes d6) rfl rfl ?_
    exact Steps.refl _)
  obtain ⟨T4, X4, q4, st4⟩ := X2.hget hexec hown (wk W (.fieldLink "java/lang/String" 15 "java/lang/String" "coder" "B")) (hx.mv X2.warmed.alike hh2) (g := (mkF m 7 #[.val (.ref x)] [.ref x])) rfl (rest := []) rfl (hb hbytes d7)
  have c5 : Steps p.tables e below (s₁.setTop (entryFrame m #[.ref x] 1)) (T4.setTop (mkF m 14 #[.val (.ref x)] [.int cd])) := (c3.trans (st4 _ (Steps.refl _))).trans (by
    refine XS.goto X4.here hexec rfl (pc0 := 10) rfl (hb hbytes d10) (by decide) rfl ?_
    exact Steps.refl _)
  exact ⟨T4, some (.int cd), _, _, _, X4, rfl, rfl, rfl, (fun h => by cases h), ⟨rfl, q4.trans hh2⟩, fun fs hl => c5.trans (X4.ireturnOut hexec hret (by rcases hc with rfl | rfl <;> rfl) (Or.inr (Or.inr (Or.inl rfl))) (hb hbytes d14) hl)⟩
end Cdr
namespace Len
def yN : MethodName := ⟨"java/lang/String", "length", "()I"⟩
abbrev yB : ByteArray := jdk_42_method_54_code
theorem d0 : decode yB 0 = .ok (.aload_n 0, 1) := by decide +kernel
theorem d1 : decode yB 1 = .ok (.getfield 9, 3) := by decide +kernel
theorem d4 : decode yB 4 = .ok (.arraylength, 1) := by decide +kernel
theorem d5 : decode yB 5 = .ok (.aload_n 0, 1) := by decide +kernel
theorem d6 : decode yB 6 = .ok (.invokevirtual 335, 3) := by decide +kernel
theorem d9 : decode yB 9 = .ok (.ishr, 1) := by decide +kernel
theorem d10 : decode yB 10 = .ok (.ireturn, 1) := by decide +kernel
def site : List Cond := [.fieldLink "java/lang/String" 9 "java/lang/String" "value" "[B", Cdr.tab] ++ virtW "java/lang/String" 335 "java/lang/String" Cdr.yN Cdr.yN
def tab : Cond := tabOf yN yB 1 (some .int) site
def P (x t : Addr) (V : Cell) (cd : Int32) (n : Nat) (f : Nat → Int32) (z : Int32) (args : Array Value) (s : State) : Prop := args = #[.ref x] ∧ Txt x t V cd n f s ∧ StaticIs s "java/lang/String" "COMPACT_STRINGS" "Z" (.int z) ∧ ¬ z = 0
def E (n : Nat) (r : Option Value) (s u : State) : Prop := XT.PureE (some (.int (Int32.ofNat n))) r s u
/-- length() of a String of n chars, in either coding -/
theorem law (l : Launch) (x t : Addr) (V : Cell) (cd : Int32) (n : Nat) (f : Nat → Int32) (z : Int32) : Law l yN 1 0 1 13 yB 1 (some .int) site (P x t V cd n f z) (E n) [] 0 0 := by
  refine Law.of_walk (plainFor_of_name (by decide +kernel)) (by decide +kernel) (by decide +kernel) (by decide) (fun _ _ h => by rw [h.1]; rfl) (fun _ U U' hal hh h => ⟨h.1, h.2.1.mv hal hh, h.2.2.1.there hal hh, h.2.2.2⟩) (fun r U U' V V' h1 hal h2 h => XT.PureE.mv r U U' V V' h1 hal h2 h) ?_
  intro p e s m args below meth c s₁ X0 hexec hbytes hml hret hlk hnm hown hh0 W hP
  obtain ⟨rfl, hx, s1, hz⟩ := hP
  have v31 := hx.2.2.2.1.2.2.2
  have c1 : Steps p.tables e below (s₁.setTop (entryFrame m #[.ref x] 1)) (s₁.setTop (mkF m 1 #[.val (.ref x)] [.ref x])) := Steps.trans (entry rfl) (by
    show Steps p.tables e below (s₁.setTop (mkF m 0 #[.val (.ref x)] [])) _
    refine XS.aloadN X0.here hexec rfl (hb hbytes d0) rfl rfl ?_
    exact Steps.refl _)
  obtain ⟨T2, X2, q2, st2⟩ := X0.hget hexec hown (wk W (.fieldLink "java/lang/String" 9 "java/lang/String" "value" "[B")) (hx.mv X0.warmed.alike hh0).2.1 (g := (mkF m 1 #[.val (.ref x)] [.ref x])) rfl (rest := []) rfl (hb hbytes d1)
  have hh2 := q2.trans hh0
  have hx2 := hx.mv X2.warmed.alike hh2
  have c3 : Steps p.tables e below (s₁.setTop (entryFrame m #[.ref x] 1)) (T2.setTop (mkF m 6 #[.val (.ref x)] [.ref x, .int (Int32.ofNat V.slots.size)])) := (c1.trans (st2 _ (Steps.refl _))).trans (by
    refine X2.alen hexec hx2.2.2.2.1 rfl rfl (hb hbytes d4) ?_
    refine XS.aloadN X2.here hexec rfl (hb hbytes d5) rfl rfl ?_
    exact Steps.refl _)
  obtain ⟨v4, T4, X4, E4, g4⟩ := X2.callV hexec (Cdr.law l x cd z) hown (wks W (virtW "java/lang/String" 335 "java/lang/String" Cdr.yN Cdr.yN)) rfl (by decide) (wk W Cdr.tab) (W := 1) (Nat.le_of_ble_eq_true rfl) (Nat.le_of_ble_eq_true rfl) (Nat.le_refl _) (Nat.le_refl _) (hx2.1.fc X2.warmed.alike) hx2.1.is (g := (mkF m 6 #[.val (.ref x)] [.ref x, .int (Int32.ofNat V.slots.size)])) rfl (by rw [hml]; rfl) c3 (argsL := []) (rest := [.int (Int32.ofNat V.slots.size)]) rfl rfl (by show 2 * 0 + (1 + 0) ≤ _; decide) (hb hbytes d6) (⟨rfl, hx2.2.2.1, hx.2.2.2.2.1.cd, s1.there X2.warmed.alike hh2, hz⟩)
  obtain ⟨rfl, q4⟩ := E4
  have c5 : Steps p.tables e below (s₁.setTop (entryFrame m #[.ref x] 1)) (T4.setTop (mkF m 10 #[.val (.ref x)] [.int (Int32.ofNat V.slots.size >>> (cd &&& 31))])) := Steps.trans g4 (by
    refine ishr X4.here hexec rfl (hb hbytes d9) rfl ?_
    exact Steps.refl _)
  rw [hx.2.2.2.2.1.len v31] at c5
  exact ⟨T4, some (.int (Int32.ofNat n)), _, _, _, X4, rfl, rfl, rfl, (fun h => by cases h), ⟨rfl, q4.trans hh2⟩, fun fs hl => c5.trans (X4.ireturnOut hexec hret rfl (Or.inl rfl) (hb hbytes d10) hl)⟩
theorem pays {l : Launch} {R : Room} {p : Program} {e : Env} {below : List Frame} {s : State} {sargs : Array Value} {len W : Nat} (x t : Addr) (V : Cell) (cd : Int32) (n : Nat) (f : Nat → Int32) (z : Int32) (htab : tab.before sargs s = true) (hfr : 2 ≤ R.frames) (hlo : W + 25 ≤ R.locals) :
    Back l R p e below s sargs yN len W (fun A₁ a₁ => A₁.cells + 0 ≤ R.cells ∧ A₁.slots + 0 ≤ R.slots ∧ P x t V cd n f z a₁ A₁.U) (fun A₁ _ v₁ B₁ => E n v₁ A₁.U B₁.U ∧ B₁.locs = A₁.locs ++ [] ∧ B₁.cells = A₁.cells + 0 ∧ B₁.slots = A₁.slots + 0) :=
  (law l x t V cd n f z).pays htab hfr (by omega)
end Len
namespace IsL
def yN : MethodName := ⟨"java/lang/String", "isLatin1", "()Z"⟩
abbrev yB : ByteArray := jdk_42_method_154_code
theorem d0 : decode yB 0 = .ok (.getstatic 38, 3) := by decide +kernel
theorem d3 : decode yB 3 = .ok (.ifCond (.eq) 14, 3) := by decide +kernel
theorem d6 : decode yB 6 = .ok (.aload_n 0, 1) := by decide +kernel
theorem d7 : decode yB 7 = .ok (.getfield 15, 3) := by decide +kernel
theorem d10 : decode yB 10 = .ok (.ifCond (.ne) 7, 3) := by decide +kernel
theorem d13 : decode yB 13 = .ok (.iconst 1, 1) := by decide +kernel
theorem d14 : decode yB 14 = .ok (.goto 4, 3) := by decide +kernel
theorem d17 : decode yB 17 = .ok (.iconst 0, 1) := by decide +kernel
theorem d18 : decode yB 18 = .ok (.ireturn, 1) := by decide +kernel
def site : List Cond := [.fieldLink "java/lang/String" 38 "java/lang/String" "COMPACT_STRINGS" "Z", .fieldLink "java/lang/String" 15 "java/lang/String" "coder" "B"]
def tab : Cond := tabOf yN yB 1 (some .boolean) site
def P (x : Addr) (cd z : Int32) (args : Array Value) (s : State) : Prop := args = #[.ref x] ∧ Has x "java/lang/String" "coder" "B" (.int cd) s ∧ (cd = 0 ∨ cd = 1) ∧ StaticIs s "java/lang/String" "COMPACT_STRINGS" "Z" (.int z) ∧ ¬ z = 0
def E (cd : Int32) (r : Option Value) (s u : State) : Prop := XT.PureE (some (.int (1 - cd))) r s u
theorem law (l : Launch) (x : Addr) (cd z : Int32) : Law l yN 1 0 0 0 yB 1 (some .boolean) site (P x cd z) (E cd) [] 0 0 := by
  refine Law.of_walk (plainFor_of_name (by decide +kernel)) (by decide +kernel) (by decide +kernel) (by decide) (fun _ _ h => by rw [h.1]; rfl) (fun _ U U' hal hh h => ⟨h.1, h.2.1.mv hal hh, h.2.2.1, h.2.2.2.1.there hal hh, h.2.2.2.2⟩) (fun r U U' V V' h1 hal h2 h => XT.PureE.mv r U U' V V' h1 hal h2 h) ?_
  intro p e s m args below meth c s₁ X0 hexec hbytes hml hret hlk hnm hown hh0 W hP
  obtain ⟨rfl, hx, hc, s1, hz⟩ := hP
  have c1 : Steps p.tables e below (s₁.setTop (entryFrame m #[.ref x] 1)) (s₁.setTop (mkF m 0 #[.val (.ref x)] [])) := entry rfl
  obtain ⟨T2, X2, q2, st2⟩ := X0.sget hexec hown (wk W (.fieldLink "java/lang/String" 38 "java/lang/String" "COMPACT_STRINGS" "Z")) s1 (fun _ _ h => by rw [hh0]; exact h) (g := (mkF m 0 #[.val (.ref x)] [])) rfl (hb hbytes d0)
  have hh2 := q2.trans hh0
  have c3 : Steps p.tables e below (s₁.setTop (entryFrame m #[.ref x] 1)) (T2.setTop (mkF m 7 #[.val (.ref x)] [.ref x])) := (c1.trans (st2 _ (Steps.refl _))).trans (by
    refine XS.ifNo X2.here hexec rfl (hb hbytes d3) rfl (i0_eq_f hz) ?_
    refine XS.aloadN X2.here hexec rfl (hb hbytes d6) rfl rfl ?_
    exact Steps.refl _)
  obtain ⟨T4, X4, q4, st4⟩ := X2.hget hexec hown (wk W (.fieldLink "java/lang/String" 15 "java/lang/String" "coder" "B")) (hx.mv X2.warmed.alike hh2) (g := (mkF m 7 #[.val (.ref x)] [.ref x])) rfl (rest := []) rfl (hb hbytes d7)
  have c5 : Steps p.tables e below (s₁.setTop (entryFrame m #[.ref x] 1)) (T4.setTop (mkF m 10 #[.val (.ref x)] [.int cd])) := c3.trans (st4 _ (Steps.refl _))
  have c6 : Steps p.tables e below (s₁.setTop (entryFrame m #[.ref x] 1)) (T4.setTop (mkF m 18 #[.val (.ref x)] [.int (1 - cd)])) := by
    rcases hc with rfl | rfl
    · exact c5.trans (by
        refine XS.ifNo X4.here hexec rfl (hb hbytes d10) rfl (i0_ne_f rfl) ?_
        refine iconstV X4.here hexec rfl 1 (hb hbytes d13) (by decide) ?_
        refine XS.goto X4.here hexec rfl (pc0 := 14) rfl (hb hbytes d14) (by decide) rfl ?_
        exact Steps.refl _)
    · exact c5.trans (by
        refine XS.ifYes X4.here hexec rfl (pc0 := 10) rfl (hb hbytes d10) rfl (i0_ne_t (by decide)) (by decide) rfl ?_
        refine iconstV X4.here hexec rfl 0 (hb hbytes d17) (by decide) ?_
        exact Steps.refl _)
  exact ⟨T4, some (.int (1 - cd)), _, _, _, X4, rfl, rfl, rfl, (fun h => by cases h), ⟨rfl, q4.trans hh2⟩, fun fs hl => c6.trans (X4.ireturnOut hexec hret (by rcases hc with rfl | rfl <;> rfl) (Or.inr (Or.inl rfl)) (hb hbytes d18) hl)⟩
end IsL
namespace LChA
def yN : MethodName := ⟨"java/lang/StringLatin1", "charAt", "([BI)C"⟩
abbrev yB : ByteArray := jdk_43_method_2_code
theorem d0 : decode yB 0 = .ok (.iload_n 1, 1) := by decide +kernel
theorem d1 : decode yB 1 = .ok (.aload_n 0, 1) := by decide +kernel
theorem d2 : decode yB 2 = .ok (.arraylength, 1) := by decide +kernel
theorem d3 : decode yB 3 = .ok (.invokestatic 9, 3) := by decide +kernel
theorem d6 : decode yB 6 = .ok (.aload_n 0, 1) := by decide +kernel
theorem d7 : decode yB 7 = .ok (.iload_n 1, 1) := by decide +kernel
theorem d8 : decode yB 8 = .ok (.baload, 1) := by decide +kernel
theorem d9 : decode yB 9 = .ok (.sipush 255, 3) := by decide +kernel
theorem d12 : decode yB 12 = .ok (.iand, 1) := by decide +kernel
theorem d13 : decode yB 13 = .ok (.i2c, 1) := by decide +kernel
theorem d14 : decode yB 14 = .ok (.ireturn, 1) := by decide +kernel
def site : List Cond := [JO.Str_checkIndex.tab] ++ staticW "java/lang/StringLatin1" 9 JO.Str_checkIndex.yN
def tab : Cond := tabOf yN yB 2 (some .char) site
def P (t : Addr) (V : Cell) (i : Nat) (u : Int32) (fm : Value) (args : Array Value) (s : State) : Prop := args = #[.ref t, .int (Int32.ofNat i)] ∧ XT.Arr .byte t V s ∧ V.slots[i]? = some (.int u) ∧ (StaticIs s "jdk/internal/util/Preconditions" "SIOOBE_FORMATTER" "Ljava/util/function/BiFunction;" fm ∧ fm.isRef = true)
def E (u : Int32) (r : Option Value) (s w : State) : Prop := XT.PureE (some (.int (chr8 u))) r s w
theorem law (l : Launch) (t : Addr) (V : Cell) (i : Nat) (u : Int32) (fm : Value) : Law l yN 2 2 2 27 yB 2 (some .char) site (P t V i u fm) (E u) [] 0 0 := by
  refine Law.of_walk (plainFor_of_name (by decide +kernel)) (by decide +kernel) (by decide +kernel) (by decide) (fun _ _ h => by rw [h.1]; rfl) (fun _ U U' hal hh h => ⟨h.1, h.2.1.mv hal hh, h.2.2.1, h.2.2.2.1.there hal hh, h.2.2.2.2⟩) (fun r U U' V V' h1 hal h2 h => XT.PureE.mv r U U' V V' h1 hal h2 h) ?_
  intro p e s m args below meth c s₁ X0 hexec hbytes hml hret hlk hnm hown hh0 W hP
  obtain ⟨rfl, hV, hu, s1, rf⟩ := hP
  have v31 := hV.2.2.2
  have hi : i < V.slots.size := (Array.getElem?_eq_some_iff.mp hu).1
  have c1 : Steps p.tables e below (s₁.setTop (entryFrame m #[.ref t, .int (Int32.ofNat i)] 2)) (s₁.setTop (mkF m 0 #[.val (.ref t), .val (.int (Int32.ofNat i))] [])) := entry rfl
  have c2 : Steps p.tables e below (s₁.setTop (entryFrame m #[.ref t, .int (Int32.ofNat i)] 2)) (s₁.setTop (mkF m 3 #[.val (.ref t), .val (.int (Int32.ofNat i))] [.int (Int32.ofNat V.slots.size), .int (Int32.ofNat i)])) := c1.trans (by
    refine XS.iloadN X0.here hexec rfl (hb hbytes d0) rfl ?_
    refine XS.aloadN X0.here hexec rfl (hb hbytes d1) rfl rfl ?_
    refine X0.alen hexec (hV.mv X0.warmed.alike hh0) rfl rfl (hb hbytes d2) ?_
    exact Steps.refl _)
  obtain ⟨v3, T3, X3, E3, g3⟩ := X0.callS hexec (JO.Str_checkIndex.law l (Int32.ofNat i) (Int32.ofNat V.slots.size) fm) hown (wks W (staticW "java/lang/StringLatin1" 9 JO.Str_checkIndex.yN)) (wk W JO.Str_checkIndex.tab) (W := 0) (Nat.le_of_ble_eq_true rfl) (Nat.le_of_ble_eq_true rfl) (Nat.le_refl _) (Nat.le_refl _) (g := (mkF m 3 #[.val (.ref t), .val (.int (Int32.ofNat i))] [.int (Int32.ofNat V.slots.size), .int (Int32.ofNat i)])) rfl (by rw [hml]; rfl) c2 (argsL := [.int (Int32.ofNat i), .int (Int32.ofNat V.slots.size)]) (rest := []) rfl rfl (by show 2 * 0 + 0 ≤ _; decide) (hb hbytes d3) (⟨rfl, rf, s1.there X0.warmed.alike hh0, Int32.ofNat_not_neg (by omega), lt32 v31 hi⟩)
  obtain ⟨rfl, q3⟩ := E3
  have hh3 := q3.trans hh0
  have c4 : Steps p.tables e below (s₁.setTop (entryFrame m #[.ref t, .int (Int32.ofNat i)] 2)) (T3.setTop (mkF m 14 #[.val (.ref t), .val (.int (Int32.ofNat i))] [.int (chr8 u)])) := Steps.trans g3 (by
    refine XS.aloadN X3.here hexec rfl (hb hbytes d6) rfl rfl ?_
    refine XS.iloadN X3.here hexec rfl (hb hbytes d7) rfl ?_
    refine X3.aget hexec (hV.mv X3.warmed.alike hh3) rfl hu rfl rfl (hb hbytes d8) ?_
    refine sipushV X3.here hexec rfl 255 (hb hbytes d9) (by decide) ?_
    refine XS.iand X3.here hexec rfl (hb hbytes d12) rfl ?_
    refine i2c X3.here hexec rfl (hb hbytes d13) rfl ?_
    exact Steps.refl _)
  exact ⟨T3, some (.int (chr8 u)), _, _, _, X3, rfl, rfl, rfl, (fun h => by cases h), ⟨rfl, hh3⟩, fun fs hl => c4.trans (X3.ireturnOut hexec hret (narrow_c _) (Or.inr (Or.inr (Or.inr (Or.inl rfl)))) (hb hbytes d14) hl)⟩
end LChA
end StrChars
namespace StrChars.Road
open Jvm Sem ClassFile Op Lib Jvm.Stand Jvm.Free Jvm.Free.XT
open Jvm.Lib.Cold (StaticIs)
theorem consq {a : Array Value} {s : State} {c : Jvm.Cond} {L : List Jvm.Cond} (h0 : c.before a s = true) (h : ∀ w ∈ L, w.before a s = true) : ∀ w ∈ c :: L, w.before a s = true := fun w hw => (List.mem_cons.mp hw).elim (fun e => e ▸ h0) (h w)
/-- the words of String.length(), either coding -/
abbrev wordsLen : List Jvm.Cond := [.code Len.yN Len.yB 1 (some .int), .initialized ST, .fieldLink ST 9 ST "value" "[B", .fieldLink ST 38 ST "COMPACT_STRINGS" "Z", .fieldLink ST 15 ST "coder" "B", .code Cdr.yN Cdr.yB 1 (some .byte), .methodLink ST 335 Cdr.yN, .declares Cdr.yN, .selects ST Cdr.yN Cdr.yN, .instanceMethod Cdr.yN]
theorem tabLen_of {a : Array Value} {s : State} (h : ∀ w ∈ wordsLen, w.before a s = true) : Len.tab.before a s = true := by
  have hc : Cdr.tab.before a s = true := unparts (wk h (.code Cdr.yN Cdr.yB 1 (some .byte))) (wks h (.initialized Cdr.yN.cls :: Cdr.site))
  have q := consq hc h
  exact unparts (wk q (.code Len.yN Len.yB 1 (some .int))) (wks q (.initialized Len.yN.cls :: Len.site))
theorem movedLen {Z s : State} {a0 args : Array Value} (hZ : Z.Warmed39 s.vm) (hw : ∀ d ∈ wordsLen, d.before a0 Z = true) : ∀ d ∈ wordsLen, d.before args s = true := fun d hd => by
  have q := hw d hd
  have t : ∀ d ∈ wordsLen, d = .arrayClass .byte ∨ (d.onTables && d.keepsFace) = true := by decide +kernel
  rcases t d hd with rfl | t
  · exact RoadKit.mvA hZ q
  · exact RoadKit.mv hZ q t
/-- the bytes of the chars cs, low before high -/
def wideBytes : List Int32 → List Value
  | [] => []
  | c :: cs => .int (lo8 c) :: .int (hi8 c) :: wideBytes cs
theorem wide_lo (d : Value) : ∀ (cs : List Int32) (j : Nat), j < cs.length → (wideBytes cs).getD (2 * j) d = .int (lo8 (cs.getD j 0))
  | [], j, h => absurd h (Nat.not_lt_zero j)
  | c :: cs, 0, _ => rfl
  | c :: cs, j + 1, h => by
    have q := wide_lo d cs j (by simpa using h)
    rw [show 2 * (j + 1) = 2 * j + 1 + 1 from by omega]
    simpa [wideBytes] using q
theorem wide_hi (d : Value) : ∀ (cs : List Int32) (j : Nat), j < cs.length → (wideBytes cs).getD (2 * j + 1) d = .int (hi8 (cs.getD j 0))
  | [], j, h => absurd h (Nat.not_lt_zero j)
  | c :: cs, 0, _ => rfl
  | c :: cs, j + 1, h => by
    have q := wide_hi d cs j (by simpa using h)
    rw [show 2 * (j + 1) + 1 = 2 * j + 1 + 1 + 1 from by omega]
    simpa [wideBytes] using q
theorem low_at (d : Value) (cs : List Int32) (j : Nat) (h : j < cs.length) : (cs.map fun c => Value.int (lo8 c)).getD j d = .int (lo8 (cs.getD j 0)) := by
  simp [List.getD_eq_getElem?_getD, h]
/-- an array of N2 bytes vs codes the chars cs by the coder cd -/
def CodA (cs : List Int32) (cd N2 : Int32) (vs : List Value) : Prop := (cd = 0 ∧ N2 = Int32.ofNat cs.length ∧ vs = (cs.map fun c => Value.int (lo8 c)) ∧ ∀ c ∈ cs, ¬ 255 < c) ∨ (cd = 1 ∧ N2 = Int32.ofNat (2 * cs.length) ∧ vs = wideBytes cs ∧ ∃ c ∈ cs, 255 < c)
theorem CodA.cod {cs : List Int32} {cd N2 : Int32} {vs : List Value} {V : Cell} (h : CodA cs cd N2 vs) (hn : 2 * cs.length < 2 ^ 31) (hs : V.slots.size = N2.toNatClampNeg) (hv : RoadKit.Has V vs (.int 0)) : Cod cd cs.length (fun j => cs.getD j 0) V := by
  rcases h with ⟨rfl, rfl, rfl, h⟩ | ⟨rfl, rfl, rfl, c, hc, hw⟩
  · rw [n32 (by omega)] at hs
    exact Or.inl ⟨rfl, hs, fun j hj => ⟨by rw [hv j (by omega), low_at _ _ _ hj], by
      have e : cs.getD j 0 = cs[j] := by simp [List.getD_eq_getElem?_getD, hj]
      show ¬ 255 < cs.getD j 0
      rw [e]; exact h _ (List.getElem_mem _)⟩⟩
  · rw [n32 (by omega)] at hs
    obtain ⟨j, hj, rfl⟩ := List.getElem_of_mem hc
    exact Or.inr ⟨rfl, hs, fun j hj => ⟨by rw [hv _ (by omega), wide_lo _ _ _ hj], by rw [hv _ (by omega), wide_hi _ _ _ hj]⟩, j, hj, by
      have e : cs.getD j 0 = cs[j] := by simp [List.getD_eq_getElem?_getD, hj]
      show 255 < cs.getD j 0
      rw [e]; exact hw⟩
/-- an object of exactly java/lang/String, its two fields found: as the laws ask it -/
theorem strObj {Z U : State} {a0 : Array Value} {kI : Nat} (wi : (Jvm.Cond.instantiable ST kI).before a0 Z = true) (al : Z.vm.Alike U.vm) {x : Addr} {v0 c0 : Value} (E : RoadKit.Exa Z U.heap x ST) (V : RoadKit.Fld Z U.heap x ST "value" "[B" v0) (C : RoadKit.Fld Z U.heap x ST "coder" "B" c0) :
    ∃ (D : Cell) (fV fC : Field), Blank ST x D U ∧ Found ST "value" "[B" fV U ∧ Found ST "coder" "B" fC U ∧ D.slots[fV.slot]? = some v0 ∧ D.slots[fC.slot]? = some c0 ∧ RoadKit.slotOf Z ST "value" "[B" = fV.slot ∧ RoadKit.slotOf Z ST "coder" "B" = fC.slot := by
  obtain ⟨D, cfV, kV, iV, fV, hD, gV, stV, knV, obV, asV, slV⟩ := V
  obtain ⟨D', cfC, kC, iC, fC, hD', gC, stC, -, -, asC, slC⟩ := C
  cases hD.symm.trans hD'
  obtain ⟨D2, kD, e1, e2, e3, e4, e5⟩ := E
  cases hD.symm.trans e1
  obtain ⟨c2, k2, i1, i2, i3, -⟩ := Cond.instantiable_spec wi
  cases e2.symm.trans i1
  cases e3.symm.trans i2
  obtain ⟨kU, u1, u2⟩ := al.2.2 _ _ e3
  exact ⟨D, fV, fC, ⟨hD, ⟨knV, fun q hq => by rw [hq] at obV; cases obV⟩, by rw [al.findClass]; exact e2, kU, u1, by rw [u2]; exact i3, by rw [u2]; exact e5 i3⟩, ⟨SBG.found_only al ⟨cfV, kV, iV, gV⟩, stV⟩, ⟨SBG.found_only al ⟨cfC, kC, iC, gC⟩, stC⟩, slV, slC, by simp [RoadKit.slotOf, gV], by simp [RoadKit.slotOf, gC]⟩
theorem sta_is {Z U : State} (al : Z.vm.Alike U.vm) {C n d : String} {v : Value} (S : RoadKit.Sta Z U.heap C n d v) : StaticIs U C n d v := by
  obtain ⟨cfS, iS, kS, fS, st, cS, t1, t2, t3, t4, t5, t6, t7⟩ := S
  exact StaticIs.there (s := { Z with heap := U.heap }) ⟨cfS, iS, kS, fS, st, cS, t1, t2, t3, t4, t5, (fun q => by rw [q] at t6; cases t6), t7⟩ al rfl
/-- **length() OF SUCH A STRING** -/
theorem lenW {p : Program} {l : Launch} {e : Env} {R : Room} {s : State} {args : Array Value} {below : List Frame} {len W : Nat} {Z : State} {a0 : Array Value} {h : Heap} (hZ : Z.Warmed39 s.vm) (hw : ∀ d ∈ wordsLen, d.before a0 Z = true) {kI : Nat} (wi : (Jvm.Cond.instantiable ST kI).before a0 Z = true)
    {x t : Addr} {kb : ClassId} {cs : List Int32} {cd N2 z : Int32} {vs : List Value} (E : RoadKit.Exa Z h x ST) (V : RoadKit.Fld Z h x ST "value" "[B" (.ref t)) (C : RoadKit.Fld Z h x ST "coder" "B" (.int cd)) (K : RoadKit.Arv Z h t kb .byte N2 vs (.int 0)) (hc : CodA cs cd N2 vs) (hb : ∀ c ∈ cs, ¬ c < 0 ∧ ¬ (65535 : Int32) < c)
    (S : RoadKit.Sta Z h ST "COMPACT_STRINGS" "Z" (.int z)) (hz : ¬ z = 0) (l2 : cs.length ≤ 4000) (hfr : 2 ≤ R.frames) (hlo : W + 25 ≤ R.locals) :
    Back l R p e below s args (⟨"java/lang/String", "length", "()I"⟩ : MethodName) len W (fun P a => a = #[.ref x] ∧ P.U.heap = h ∧ P.cells + 0 ≤ R.cells ∧ P.slots + 0 ≤ R.slots)
      (fun P _ v B => ∃ L, (v = some (.int (Int32.ofNat cs.length)) ∧ L = [] ∧ B.U.heap = h) ∧ B.locs = P.locs ++ L ∧ B.cells = P.cells + 0 ∧ B.slots = P.slots + 0) := by
  obtain ⟨A, K1, K2, K3, K4, K5, K6⟩ := K
  have hcod := hc.cod (by omega) K3 K5
  intro m meth c P g ig mk a X hg hsize hdg hW hn hp'
  obtain ⟨rfl, rfl, r1, r2⟩ := hp'
  have al : Z.vm.Alike P.U.vm := hZ.alike.trans X.warmed.alike
  obtain ⟨D, fV, fC, hB, F1, F2, g1, g2, -, -⟩ := strObj wi al E V C
  have hx : Txt x t A cd cs.length (fun j => cs.getD j 0) P.U := ⟨⟨_, hB.2.2.1, D, hB.1, rfl, by cases q : D.vm <;> first | rfl | exact absurd q (hB.2.1.2 _)⟩, Has.of hB F1 g1, Has.of hB F2 g2, ⟨K1.1, State.isArrayOf_alike al K1.2.1, K1.2.2, by rcases hcod with ⟨-, q, -⟩ | ⟨-, q, -⟩ <;> omega⟩, hcod, fun j hj => by
    have e : cs.getD j 0 = cs[j] := by simp [List.getD_eq_getElem?_getD, hj]
    show ¬ cs.getD j 0 < 0 ∧ ¬ 65535 < cs.getD j 0
    rw [e]; exact hb _ (List.getElem_mem _)⟩
  obtain ⟨v, B, X', ⟨⟨hv, hh⟩, hl, hk, hs⟩, st⟩ := Len.pays x t A cd cs.length (fun j => cs.getD j 0) z (tabLen_of (movedLen hZ hw)) hfr hlo m meth c P g ig mk _ X hg hsize hdg hW hn ⟨r1, r2, rfl, hx, sta_is al S, hz⟩
  exact ⟨v, B, X', ⟨[], ⟨hv, rfl, hh⟩, hl, hk, hs⟩, st⟩
end StrChars.Road
namespace StrChars.Road
open Jvm Sem ClassFile Op Lib Jvm.Stand Jvm.Free Jvm.Free.XT
open Jvm.Lib.Cold (StaticIs)
/-- the road's facts of a String, as the laws ask it -/
theorem txt_of {Z U : State} {a0 : Array Value} {kI : Nat} (wi : (Jvm.Cond.instantiable ST kI).before a0 Z = true) (al : Z.vm.Alike U.vm) {x t : Addr} {kb : ClassId} {cs : List Int32} {cd N2 : Int32} {vs : List Value} (E : RoadKit.Exa Z U.heap x ST) (V : RoadKit.Fld Z U.heap x ST "value" "[B" (.ref t)) (C : RoadKit.Fld Z U.heap x ST "coder" "B" (.int cd)) (K : RoadKit.Arv Z U.heap t kb .byte N2 vs (.int 0)) (hc : CodA cs cd N2 vs) (hb : ∀ c ∈ cs, ¬ c < 0 ∧ ¬ (65535 : Int32) < c) (l2 : cs.length ≤ 4000) :
    ∃ A, Txt x t A cd cs.length (fun j => cs.getD j 0) U := by
  obtain ⟨A, K1, K2, K3, K4, K5, K6⟩ := K
  have hcod := hc.cod (by omega) K3 K5
  obtain ⟨D, fV, fC, hB, F1, F2, g1, g2, -, -⟩ := strObj wi al E V C
  exact ⟨A, ⟨_, hB.2.2.1, D, hB.1, rfl, by cases q : D.vm <;> first | rfl | exact absurd q (hB.2.1.2 _)⟩, Has.of hB F1 g1, Has.of hB F2 g2, ⟨K1.1, State.isArrayOf_alike al K1.2.1, K1.2.2, by rcases hcod with ⟨-, q, -⟩ | ⟨-, q, -⟩ <;> omega⟩, hcod, fun j hj => by
    have e : cs.getD j 0 = cs[j] := by simp [List.getD_eq_getElem?_getD, hj]
    show ¬ cs.getD j 0 < 0 ∧ ¬ 65535 < cs.getD j 0
    rw [e]; exact hb _ (List.getElem_mem _)⟩
end StrChars.Road
namespace StrChars
open Jvm Sem ClassFile Op Lib Jvm.Stand Jvm.Free.XT Jvm.Free.ALB Jvm.Free.JM Jvm.Free
open Jvm.Lib.Cold (StaticIs)
namespace ChN
def yN : MethodName := ⟨"java/lang/String", "charAt", "(I)C"⟩
abbrev yB : ByteArray := jdk_42_method_56_code
theorem d0 : decode yB 0 = .ok (.aload_n 0, 1) := by decide +kernel
theorem d1 : decode yB 1 = .ok (.invokevirtual 492, 3) := by decide +kernel
theorem d4 : decode yB 4 = .ok (.ifCond (.eq) 12, 3) := by decide +kernel
theorem d7 : decode yB 7 = .ok (.aload_n 0, 1) := by decide +kernel
theorem d8 : decode yB 8 = .ok (.getfield 9, 3) := by decide +kernel
theorem d11 : decode yB 11 = .ok (.iload_n 1, 1) := by decide +kernel
theorem d12 : decode yB 12 = .ok (.invokestatic 495, 3) := by decide +kernel
theorem d15 : decode yB 15 = .ok (.ireturn, 1) := by decide +kernel
def site : List Cond := [.fieldLink "java/lang/String" 9 "java/lang/String" "value" "[B", IsL.tab, LChA.tab] ++ virtW "java/lang/String" 492 "java/lang/String" IsL.yN IsL.yN ++ staticW "java/lang/String" 495 LChA.yN
def tab : Cond := tabOf yN yB 2 (some .char) site
def P (x t : Addr) (V : Cell) (n : Nat) (f : Nat → Int32) (z : Int32) (fm : Value) (i : Nat) (args : Array Value) (s : State) : Prop := args = #[.ref x, .int (Int32.ofNat i)] ∧ Txt x t V 0 n f s ∧ i < n ∧ StaticIs s "java/lang/String" "COMPACT_STRINGS" "Z" (.int z) ∧ ¬ z = 0 ∧ StaticIs s "jdk/internal/util/Preconditions" "SIOOBE_FORMATTER" "Ljava/util/function/BiFunction;" fm ∧ fm.isRef = true
def E (f : Nat → Int32) (i : Nat) (r : Option Value) (s u : State) : Prop := XT.PureE (some (.int (f i))) r s u
/-- charAt(i) of a Latin-1 String of n chars, i < n: f i -/
theorem law (l : Launch) (x t : Addr) (V : Cell) (n : Nat) (f : Nat → Int32) (z : Int32) (fm : Value) (i : Nat) : Law l yN 2 1 3 40 yB 2 (some .char) site (P x t V n f z fm i) (E f i) [] 0 0 := by
  refine Law.of_walk (plainFor_of_name (by decide +kernel)) (by decide +kernel) (by decide +kernel) (by decide) (fun _ _ h => by rw [h.1]; rfl) (fun _ U U' hal hh h => ⟨h.1, h.2.1.mv hal hh, h.2.2.1, h.2.2.2.1.there hal hh, h.2.2.2.2.1, h.2.2.2.2.2.1.there hal hh, h.2.2.2.2.2.2⟩) (fun r U U' V V' h1 hal h2 h => XT.PureE.mv r U U' V V' h1 hal h2 h) ?_
  intro p e s m args below meth c s₁ X0 hexec hbytes hml hret hlk hnm hown hh0 W hP
  obtain ⟨rfl, hx, hi, s1, hz, s3, rf⟩ := hP
  have v31 := hx.2.2.2.1.2.2.2
  have hr := hx.2.2.2.2.2 i hi
  have hx0 := hx.mv X0.warmed.alike hh0
  have c1 : Steps p.tables e below (s₁.setTop (entryFrame m #[.ref x, .int (Int32.ofNat i)] 2)) (s₁.setTop (mkF m 1 #[.val (.ref x), .val (.int (Int32.ofNat i))] [.ref x])) := Steps.trans (entry rfl) (by
    show Steps p.tables e below (s₁.setTop (mkF m 0 #[.val (.ref x), .val (.int (Int32.ofNat i))] [])) _
    refine XS.aloadN X0.here hexec rfl (hb hbytes d0) rfl rfl ?_
    exact Steps.refl _)
  obtain ⟨v2, T2, X2, E2, g2⟩ := X0.callV hexec (IsL.law l x 0 z) hown (wks W (virtW "java/lang/String" 492 "java/lang/String" IsL.yN IsL.yN)) rfl (by decide) (wk W IsL.tab) (W := 0) (Nat.le_of_ble_eq_true rfl) (Nat.le_of_ble_eq_true rfl) (Nat.le_refl _) (Nat.le_refl _) (hx0.1.fc X0.warmed.alike) hx0.1.is (g := (mkF m 1 #[.val (.ref x), .val (.int (Int32.ofNat i))] [.ref x])) rfl (by rw [hml]; rfl) c1 (argsL := []) (rest := []) rfl rfl (by show 2 * 0 + 0 ≤ _; decide) (hb hbytes d1) (⟨rfl, hx0.2.2.1, hx.2.2.2.2.1.cd, s1.there X0.warmed.alike hh0, hz⟩)
  obtain ⟨rfl, q2⟩ := E2
  have hh2 := q2.trans hh0
  have hx2 := hx.mv X2.warmed.alike hh2
  obtain ⟨-, k1, k2⟩ | ⟨k0, -⟩ := hx.2.2.2.2.1
  · have c3 : Steps p.tables e below (s₁.setTop (entryFrame m #[.ref x, .int (Int32.ofNat i)] 2)) (T2.setTop (mkF m 8 #[.val (.ref x), .val (.int (Int32.ofNat i))] [.ref x])) := Steps.trans g2 (by
      refine XS.ifNo X2.here hexec rfl (hb hbytes d4) rfl (i0_eq_f (by decide)) ?_
      refine XS.aloadN X2.here hexec rfl (hb hbytes d7) rfl rfl ?_
      exact Steps.refl _)
    obtain ⟨T4, X4, q4, st4⟩ := X2.hget hexec hown (wk W (.fieldLink "java/lang/String" 9 "java/lang/String" "value" "[B")) hx2.2.1 (g := (mkF m 8 #[.val (.ref x), .val (.int (Int32.ofNat i))] [.ref x])) rfl (rest := []) rfl (hb hbytes d8)
    have hh4 := q4.trans hh2
    have c5 : Steps p.tables e below (s₁.setTop (entryFrame m #[.ref x, .int (Int32.ofNat i)] 2)) (T4.setTop (mkF m 12 #[.val (.ref x), .val (.int (Int32.ofNat i))] [.int (Int32.ofNat i), .ref t])) := (c3.trans (st4 _ (Steps.refl _))).trans (by
      refine XS.iloadN X4.here hexec rfl (hb hbytes d11) rfl ?_
      exact Steps.refl _)
    obtain ⟨v6, T6, X6, E6, g6⟩ := X4.callS hexec (LChA.law l t V i (lo8 (f i)) fm) hown (wks W (staticW "java/lang/String" 495 LChA.yN)) (wk W LChA.tab) (W := 0) (Nat.le_of_ble_eq_true rfl) (Nat.le_of_ble_eq_true rfl) (Nat.le_refl _) (Nat.le_refl _) (g := (mkF m 12 #[.val (.ref x), .val (.int (Int32.ofNat i))] [.int (Int32.ofNat i), .ref t])) rfl (by rw [hml]; rfl) c5 (argsL := [.ref t, .int (Int32.ofNat i)]) (rest := []) rfl rfl (by show 2 * 0 + 0 ≤ _; decide) (hb hbytes d12) (⟨rfl, hx.2.2.2.1.mv X4.warmed.alike hh4, (k2 i hi).1, s3.there X4.warmed.alike hh4, rf⟩)
    obtain ⟨rfl, q6⟩ := E6
    rw [chr8_lo8 hr.1 (k2 i hi).2] at g6
    exact ⟨T6, some (.int (f i)), _, _, _, X6, rfl, rfl, rfl, (fun h => by cases h), ⟨rfl, q6.trans hh4⟩, fun fs hl => Steps.trans g6 (X6.ireturnOut hexec hret (narrow_ch hr.1 hr.2) (Or.inr (Or.inr (Or.inr (Or.inl rfl)))) (hb hbytes d15) hl)⟩
  · exact absurd k0 (by decide)
theorem pays {l : Launch} {R : Room} {p : Program} {e : Env} {below : List Frame} {s : State} {sargs : Array Value} {len W : Nat} (x t : Addr) (V : Cell) (n : Nat) (f : Nat → Int32) (z : Int32) (fm : Value) (i : Nat) (htab : tab.before sargs s = true) (hfr : 4 ≤ R.frames) (hlo : W + 53 ≤ R.locals) :
    Back l R p e below s sargs yN len W (fun A₁ a₁ => A₁.cells + 0 ≤ R.cells ∧ A₁.slots + 0 ≤ R.slots ∧ P x t V n f z fm i a₁ A₁.U) (fun A₁ _ v₁ B₁ => E f i v₁ A₁.U B₁.U ∧ B₁.locs = A₁.locs ++ [] ∧ B₁.cells = A₁.cells + 0 ∧ B₁.slots = A₁.slots + 0) :=
  (law l x t V n f z fm i).pays htab hfr (by omega)
end ChN
end StrChars
namespace StrChars.Road
open Jvm Sem ClassFile Op Lib Jvm.Stand Jvm.Free Jvm.Free.XT
open Jvm.Lib.Cold (StaticIs)
/-- the words of String.charAt(int), the Latin-1 road alone -/
abbrev wordsChN : List Jvm.Cond := [.code ChN.yN ChN.yB 2 (some .char), .initialized ST, .fieldLink ST 9 ST "value" "[B", .fieldLink ST 38 ST "COMPACT_STRINGS" "Z", .fieldLink ST 15 ST "coder" "B", .code IsL.yN IsL.yB 1 (some .boolean), .methodLink ST 492 IsL.yN, .declares IsL.yN, .selects ST IsL.yN IsL.yN, .instanceMethod IsL.yN,
  .methodLink ST 495 LChA.yN, .static LChA.yN, .code LChA.yN LChA.yB 2 (some .char), .initialized "java/lang/StringLatin1", .methodLink "java/lang/StringLatin1" 9 JO.Str_checkIndex.yN, .static JO.Str_checkIndex.yN, .code JO.Str_checkIndex.yN JO.Str_checkIndex.yB 2 none,
  .fieldLink ST 1053 "jdk/internal/util/Preconditions" "SIOOBE_FORMATTER" "Ljava/util/function/BiFunction;", .methodLink ST 1059 JC.PreCheck.yN, .static JC.PreCheck.yN, .code JC.PreCheck.yN JC.PreCheck.yB 3 (some .int), .initialized "jdk/internal/util/Preconditions"]
theorem tabChN_of {a : Array Value} {s : State} (h : ∀ w ∈ wordsChN, w.before a s = true) : ChN.tab.before a s = true := by
  have hp : JC.PreCheck.tab.before a s = true := unparts (wk h (.code JC.PreCheck.yN JC.PreCheck.yB 3 (some .int))) (wks h (.initialized JC.PreCheck.yN.cls :: JC.PreCheck.site))
  have qk := consq hp h
  have hk : JO.Str_checkIndex.tab.before a s = true := unparts (wk qk (.code JO.Str_checkIndex.yN JO.Str_checkIndex.yB 2 none)) (wks qk (.initialized JO.Str_checkIndex.yN.cls :: JO.Str_checkIndex.site))
  have ql := consq hk h
  have hl : LChA.tab.before a s = true := unparts (wk ql (.code LChA.yN LChA.yB 2 (some .char))) (wks ql (.initialized LChA.yN.cls :: LChA.site))
  have hi : IsL.tab.before a s = true := unparts (wk h (.code IsL.yN IsL.yB 1 (some .boolean))) (wks h (.initialized IsL.yN.cls :: IsL.site))
  have q := consq hi (consq hl h)
  exact unparts (wk q (.code ChN.yN ChN.yB 2 (some .char))) (wks q (.initialized ChN.yN.cls :: ChN.site))
theorem movedChN {Z s : State} {a0 args : Array Value} (hZ : Z.Warmed39 s.vm) (hw : ∀ d ∈ wordsChN, d.before a0 Z = true) : ∀ d ∈ wordsChN, d.before args s = true := fun d hd => by
  have t : ∀ d ∈ wordsChN, (d.onTables && d.keepsFace) = true := by decide +kernel
  exact RoadKit.mv hZ (hw d hd) (t d hd)
/-- **charAt(i) OF A LATIN-1 STRING**, i < n: the char -/
theorem chN {p : Program} {l : Launch} {e : Env} {R : Room} {s : State} {args : Array Value} {below : List Frame} {len W : Nat} {Z : State} {a0 : Array Value} {h : Heap} (hZ : Z.Warmed39 s.vm) (hw : ∀ d ∈ wordsChN, d.before a0 Z = true) {kI : Nat} (wi : (Jvm.Cond.instantiable ST kI).before a0 Z = true)
    {x t : Addr} {kb : ClassId} {cs : List Int32} {N2 z : Int32} {vs : List Value} {fm : Value} {i : Nat} {j : Int32} (E : RoadKit.Exa Z h x ST) (V : RoadKit.Fld Z h x ST "value" "[B" (.ref t)) (C : RoadKit.Fld Z h x ST "coder" "B" (.int 0)) (K : RoadKit.Arv Z h t kb .byte N2 vs (.int 0)) (hc : CodA cs 0 N2 vs) (hb : ∀ c ∈ cs, ¬ c < 0 ∧ ¬ (65535 : Int32) < c)
    (S : RoadKit.Sta Z h ST "COMPACT_STRINGS" "Z" (.int z)) (hz : ¬ z = 0) (F : RoadKit.Sta Z h "jdk/internal/util/Preconditions" "SIOOBE_FORMATTER" "Ljava/util/function/BiFunction;" fm) (rf : fm.isRef = true) (l2 : cs.length ≤ 4000) (hi : i < cs.length) (hj : j = Int32.ofNat i) (hfr : 4 ≤ R.frames) (hlo : W + 53 ≤ R.locals) :
    Back l R p e below s args (⟨"java/lang/String", "charAt", "(I)C"⟩ : MethodName) len W (fun P a => a = #[.ref x, .int j] ∧ P.U.heap = h ∧ P.cells + 0 ≤ R.cells ∧ P.slots + 0 ≤ R.slots)
      (fun P _ v B => ∃ L, (v = some (.int (cs.getD i 0)) ∧ L = [] ∧ B.U.heap = h) ∧ B.locs = P.locs ++ L ∧ B.cells = P.cells + 0 ∧ B.slots = P.slots + 0) := by
  subst hj
  intro m meth c P g ig mk a X hg hsize hdg hW hn hp'
  obtain ⟨rfl, rfl, r1, r2⟩ := hp'
  have al : Z.vm.Alike P.U.vm := hZ.alike.trans X.warmed.alike
  obtain ⟨A, hx⟩ := txt_of wi al E V C K hc hb l2
  obtain ⟨v, B, X', ⟨⟨hv, hh⟩, hl, hk, hs⟩, st⟩ := ChN.pays x t A cs.length (fun j => cs.getD j 0) z fm i (tabChN_of (movedChN hZ hw)) hfr hlo m meth c P g ig mk _ X hg hsize hdg hW hn ⟨r1, r2, rfl, hx, hi, sta_is al S, hz, sta_is al F, rf⟩
  exact ⟨v, B, X', ⟨[], ⟨hv, rfl, hh⟩, hl, hk, hs⟩, st⟩
/-- what backV says of its String, as the contracts of this text ask it: cs's low bytes, coder 0 -/
theorem codOf {cs : List Int32} {n : Nat} (hn : cs.length = n) (hb : ∀ c ∈ cs, ¬ 255 < c) : CodA cs 0 (Int32.ofNat n) ((cs.map lo8).map Value.int) := Or.inl ⟨rfl, by rw [hn], by simp [List.map_map, Function.comp_def], hb⟩
end StrChars.Road
end Jvm.Pilot.@@N@@
namespace Jvm.Pilot.@@N@@
open Jvm Jvm.ClassFile Sem Op Lib Jvm.Free Jvm.Stand Jvm.LawKit Jvm.RoadKit Bundle Jvm.Pilot.@@N@@.Jvm.D
namespace Wk
open Jvm Jvm.ClassFile Sem Op Lib Jvm.Free Jvm.Stand Jvm.LawKit Jvm.RoadKit
/-- the fixed part of a walk: program, environment, the state at the invocation, the method, its arguments, the frames below, the method's record, its code -/
abbrev Wd : Type := Program × Env × State × MethodId × Array Value × List Frame × Method × Code
abbrev Wd.p (W : Wd) : Program := W.1
abbrev Wd.e (W : Wd) : Env := W.2.1
abbrev Wd.s (W : Wd) : State := W.2.2.1
abbrev Wd.m (W : Wd) : MethodId := W.2.2.2.1
abbrev Wd.a (W : Wd) : Array Value := W.2.2.2.2.1
abbrev Wd.b (W : Wd) : List Frame := W.2.2.2.2.2.1
abbrev Wd.t (W : Wd) : Method := W.2.2.2.2.2.2.1
abbrev Wd.c (W : Wd) : Code := W.2.2.2.2.2.2.2
abbrev Post : Type := Option Value → Heap → Prop
def Go (R : Room) (Z : State) (W : Wd) (Q : Post) (A : State) : Prop :=
  ∃ s₂ o, Steps W.p.tables W.e W.b A s₂ ∧ s₂.status = .running ∧ Ended s₂ W.b o ∧ ∃ v L, o = .returned v ∧ (Q v s₂.heap ∧ Ext Z.heap s₂.heap ∧ Fr Z.heap.size L) ∧ FrameEnd W.s o s₂ L R.cells R.slots
abbrev Std (l : Launch) (R : Room) (W : Wd) (T : State) (locs : List Loc) (k n : Nat) : Prop := Stand W.p l W.e R W.s W.m W.a W.b W.t W.c T locs k n
def Run (l : Launch) (R : Room) (Z : State) (W : Wd) (Q : Post) (h : Heap) (k n : Nat) (f : JFrame) : Prop :=
  ∀ T locs, Std l R W T locs k n → T.heap = h → Fr Z.heap.size locs → Ext Z.heap h → Go R Z W Q (T.setTop f)
def Cx (Z : State) (W : Wd) (own nm : String) (code : ByteArray) (maxL : Nat) (ret : Option FieldType) : Prop :=
  W.p.tables.exec = Jvm.exec ∧ W.c.code = code ∧ W.c.maxLocals = maxL ∧ W.s.vm.findClass own = some W.m.cls ∧ Z.Warmed39 W.s.vm ∧ W.t.sig.returnType = ret ∧ W.t.name = nm ∧ W.t.locks = false
section Kit
variable {l : Launch} {R : Room} {Z : State} {W : Wd} {Q : Post} {h : Heap} {k n : Nat} {own nm : String} {code : ByteArray} {maxL : Nat} {ret : Option FieldType} {a0 : Array Value} {pc pc' : Nat} {Ls : Array Slot} {st : List Value}
theorem Cx.hx (C : Cx Z W own nm code maxL ret) : W.p.tables.exec = Jvm.exec := C.1
theorem Cx.hb (C : Cx Z W own nm code maxL ret) {pc : Nat} {r : Except ClassFile.DecodeError (ClassFile.Instr × Nat)} (h2 : decode code pc = r) : decode W.c.code pc = r := C.2.1 ▸ h2
theorem Cx.ow (C : Cx Z W own nm code maxL ret) : W.s.vm.findClass own = some W.m.cls := C.2.2.2.1
theorem Cx.hZ (C : Cx Z W own nm code maxL ret) : Z.Warmed39 W.s.vm := C.2.2.2.2.1
theorem Cx.ml (C : Cx Z W own nm code maxL ret) : W.c.maxLocals = maxL := C.2.2.1
theorem Cx.rt (C : Cx Z W own nm code maxL ret) : W.t.sig.returnType = ret := C.2.2.2.2.2.1
theorem Cx.nme (C : Cx Z W own nm code maxL ret) : W.t.name = nm := C.2.2.2.2.2.2.1
theorem Cx.lk (C : Cx Z W own nm code maxL ret) : W.t.locks = false := C.2.2.2.2.2.2.2
theorem old_of (O : Ext Z.heap h) : Old Z Z.heap.size h := ⟨rfl, O⟩
theorem Go.step {A B : State} (f : ∀ t, Steps W.p.tables W.e W.b B t → Steps W.p.tables W.e W.b A t) (g : Go R Z W Q B) : Go R Z W Q A := by
  obtain ⟨t, o, h1, r⟩ := g
  exact ⟨t, o, f t h1, r⟩
theorem Run.one {g g' : JFrame} (f : ∀ T locs, Std l R W T locs k n → T.heap = h → ∀ t, Steps W.p.tables W.e W.b (T.setTop g') t → Steps W.p.tables W.e W.b (T.setTop g) t) (r : Run l R Z W Q h k n g') : Run l R Z W Q h k n g :=
  fun T locs X eT N O => Go.step (f T locs X eT) (r T locs X eT N O)
theorem Run.old {f : JFrame} (r : Ext Z.heap h → Run l R Z W Q h k n f) : Run l R Z W Q h k n f := fun T locs X eT N O => r O T locs X eT N O
theorem iloadN (C : Cx Z W own nm code maxL ret) {i : Fin 4} {v : Int32} (hd : decode code pc = .ok (.iload_n i, 1)) (hl : Ls[i.val]? = some (.val (.int v))) (hp : pc + 1 = pc')
    (r : Run l R Z W Q h k n (mkF W.m pc' Ls (.int v :: st))) : Run l R Z W Q h k n (mkF W.m pc Ls (st)) := by
  subst hp
  exact Run.one (fun T locs X _ t g => XS.iloadN X.here C.hx rfl (C.hb hd) hl g) r
theorem iload (C : Cx Z W own nm code maxL ret) {i : Nat} {v : Int32} (hd : decode code pc = .ok (.iload i, 2)) (hl : Ls[i]? = some (.val (.int v))) (hp : pc + 2 = pc')
    (r : Run l R Z W Q h k n (mkF W.m pc' Ls (.int v :: st))) : Run l R Z W Q h k n (mkF W.m pc Ls (st)) := by
  subst hp
  exact Run.one (fun T locs X _ t g => XS.iload X.here C.hx rfl (C.hb hd) hl g) r
theorem aloadN (C : Cx Z W own nm code maxL ret) {i : Fin 4} {v : Value} (hd : decode code pc = .ok (.aload_n i, 1)) (hl : Ls[i.val]? = some (.val v)) (hv : v.isRef = true) (hp : pc + 1 = pc')
    (r : Run l R Z W Q h k n (mkF W.m pc' Ls (v :: st))) : Run l R Z W Q h k n (mkF W.m pc Ls (st)) := by
  subst hp
  exact Run.one (fun T locs X _ t g => XS.aloadN X.here C.hx rfl (C.hb hd) hl hv g) r
theorem aload (C : Cx Z W own nm code maxL ret) {i : Nat} {v : Value} (hd : decode code pc = .ok (.aload i, 2)) (hl : Ls[i]? = some (.val v)) (hv : v.isRef = true) (hp : pc + 2 = pc')
    (r : Run l R Z W Q h k n (mkF W.m pc' Ls (v :: st))) : Run l R Z W Q h k n (mkF W.m pc Ls (st)) := by
  subst hp
  exact Run.one (fun T locs X _ t g => XS.aload X.here C.hx rfl (C.hb hd) hl hv g) r
theorem istoreN (C : Cx Z W own nm code maxL ret) {i : Fin 4} {v : Int32} {Ls' : Array Slot} (hd : decode code pc = .ok (.istore_n i, 1)) (hl : storeLocals Ls i.val (.int v) = some Ls') (hp : pc + 1 = pc')
    (r : Run l R Z W Q h k n (mkF W.m pc' Ls' (st))) : Run l R Z W Q h k n (mkF W.m pc Ls (.int v :: st)) := by
  subst hp
  exact Run.one (fun T locs X _ t g => XS.istoreN X.here C.hx rfl (C.hb hd) rfl hl g) r
theorem istore (C : Cx Z W own nm code maxL ret) {i : Nat} {v : Int32} {Ls' : Array Slot} (hd : decode code pc = .ok (.istore i, 2)) (hl : storeLocals Ls i (.int v) = some Ls') (hp : pc + 2 = pc')
    (r : Run l R Z W Q h k n (mkF W.m pc' Ls' (st))) : Run l R Z W Q h k n (mkF W.m pc Ls (.int v :: st)) := by
  subst hp
  exact Run.one (fun T locs X _ t g => XS.istore X.here C.hx rfl (C.hb hd) rfl hl g) r
theorem astoreN (C : Cx Z W own nm code maxL ret) {i : Fin 4} {v : Value} {Ls' : Array Slot} (hd : decode code pc = .ok (.astore_n i, 1)) (hv : v.isRef = true) (hl : storeLocals Ls i.val v = some Ls') (hp : pc + 1 = pc')
    (r : Run l R Z W Q h k n (mkF W.m pc' Ls' (st))) : Run l R Z W Q h k n (mkF W.m pc Ls (v :: st)) := by
  subst hp
  exact Run.one (fun T locs X _ t g => XS.astoreN X.here C.hx rfl (C.hb hd) rfl hv hl g) r
theorem astore (C : Cx Z W own nm code maxL ret) {i : Nat} {v : Value} {Ls' : Array Slot} (hd : decode code pc = .ok (.astore i, 2)) (hv : v.isRef = true) (hl : storeLocals Ls i v = some Ls') (hp : pc + 2 = pc')
    (r : Run l R Z W Q h k n (mkF W.m pc' Ls' (st))) : Run l R Z W Q h k n (mkF W.m pc Ls (v :: st)) := by
  subst hp
  exact Run.one (fun T locs X _ t g => XS.astore X.here C.hx rfl (C.hb hd) rfl hv hl g) r
theorem iconst (C : Cx Z W own nm code maxL ret) {i : Int} {v : Int32} (hd : decode code pc = .ok (.iconst i, 1)) (hv : Int32.ofInt i = v) (hp : pc + 1 = pc')
    (r : Run l R Z W Q h k n (mkF W.m pc' Ls (.int v :: st))) : Run l R Z W Q h k n (mkF W.m pc Ls (st)) := by
  subst hp
  exact Run.one (fun T locs X _ t g => XS.iconst X.here C.hx rfl (C.hb hd) (hv ▸ g)) r
theorem bipush (C : Cx Z W own nm code maxL ret) {i : Int} {v : Int32} (hd : decode code pc = .ok (.bipush i, 2)) (hv : (Int8.ofInt i).toInt32 = v) (hp : pc + 2 = pc')
    (r : Run l R Z W Q h k n (mkF W.m pc' Ls (.int v :: st))) : Run l R Z W Q h k n (mkF W.m pc Ls (st)) := by
  subst hp
  exact Run.one (fun T locs X _ t g => XS.bipush X.here C.hx rfl (C.hb hd) (hv ▸ g)) r
theorem sipush (C : Cx Z W own nm code maxL ret) {i : Int} {v : Int32} (hd : decode code pc = .ok (.sipush i, 3)) (hv : (Int16.ofInt i).toInt32 = v) (hp : pc + 3 = pc')
    (r : Run l R Z W Q h k n (mkF W.m pc' Ls (.int v :: st))) : Run l R Z W Q h k n (mkF W.m pc Ls (st)) := by
  subst hp
  exact Run.one (fun T locs X _ t g => XS.sipush X.here C.hx rfl (C.hb hd) (hv ▸ g)) r
theorem aconstNull (C : Cx Z W own nm code maxL ret)  (hd : decode code pc = .ok (.aconst_null, 1)) (hp : pc + 1 = pc')
    (r : Run l R Z W Q h k n (mkF W.m pc' Ls (.null :: st))) : Run l R Z W Q h k n (mkF W.m pc Ls (st)) := by
  subst hp
  exact Run.one (fun T locs X _ t g => XS.aconstNull X.here C.hx rfl (C.hb hd) g) r
theorem iadd (C : Cx Z W own nm code maxL ret) {x y v : Int32} (hd : decode code pc = .ok (.iadd, 1)) (hv : x + y = v) (hp : pc + 1 = pc')
    (r : Run l R Z W Q h k n (mkF W.m pc' Ls (.int v :: st))) : Run l R Z W Q h k n (mkF W.m pc Ls (.int y :: .int x :: st)) := by
  subst hp
  exact Run.one (fun T locs X _ t g => XS.iadd X.here C.hx rfl (C.hb hd) rfl (hv ▸ g)) r
theorem isub (C : Cx Z W own nm code maxL ret) {x y v : Int32} (hd : decode code pc = .ok (.isub, 1)) (hv : x - y = v) (hp : pc + 1 = pc')
    (r : Run l R Z W Q h k n (mkF W.m pc' Ls (.int v :: st))) : Run l R Z W Q h k n (mkF W.m pc Ls (.int y :: .int x :: st)) := by
  subst hp
  exact Run.one (fun T locs X _ t g => XS.isub X.here C.hx rfl (C.hb hd) rfl (hv ▸ g)) r
theorem iand (C : Cx Z W own nm code maxL ret) {x y v : Int32} (hd : decode code pc = .ok (.iand, 1)) (hv : x &&& y = v) (hp : pc + 1 = pc')
    (r : Run l R Z W Q h k n (mkF W.m pc' Ls (.int v :: st))) : Run l R Z W Q h k n (mkF W.m pc Ls (.int y :: .int x :: st)) := by
  subst hp
  exact Run.one (fun T locs X _ t g => XS.iand X.here C.hx rfl (C.hb hd) rfl (hv ▸ g)) r
theorem irem (C : Cx Z W own nm code maxL ret) {x y v : Int32} (hd : decode code pc = .ok (.irem, 1)) (hy : ¬ y = 0) (hv : x % y = v) (hp : pc + 1 = pc')
    (r : Run l R Z W Q h k n (mkF W.m pc' Ls (.int v :: st))) : Run l R Z W Q h k n (mkF W.m pc Ls (.int y :: .int x :: st)) := by
  subst hp
  exact Run.one (fun T locs X _ t g => iremM X C.hx rfl (C.hb hd) rfl hy (hv ▸ g)) r
theorem ishr (C : Cx Z W own nm code maxL ret) {x y v : Int32} (hd : decode code pc = .ok (.ishr, 1)) (hv : x >>> (y &&& 31) = v) (hp : pc + 1 = pc')
    (r : Run l R Z W Q h k n (mkF W.m pc' Ls (.int v :: st))) : Run l R Z W Q h k n (mkF W.m pc Ls (.int y :: .int x :: st)) := by
  subst hp
  exact Run.one (fun T locs X _ t g => XS.ishr X.here C.hx rfl (C.hb hd) rfl (hv ▸ g)) r
theorem iushr (C : Cx Z W own nm code maxL ret) {x y v : Int32} (hd : decode code pc = .ok (.iushr, 1)) (hv : (x.toUInt32 >>> (y &&& 31).toUInt32).toInt32 = v) (hp : pc + 1 = pc')
    (r : Run l R Z W Q h k n (mkF W.m pc' Ls (.int v :: st))) : Run l R Z W Q h k n (mkF W.m pc Ls (.int y :: .int x :: st)) := by
  subst hp
  exact Run.one (fun T locs X _ t g => XS.iushr X.here C.hx rfl (C.hb hd) rfl (hv ▸ g)) r
theorem i2b (C : Cx Z W own nm code maxL ret) {x : Int32} {v : Int32} (hd : decode code pc = .ok (.i2b, 1)) (hv : x.toInt8.toInt32 = v) (hp : pc + 1 = pc')
    (r : Run l R Z W Q h k n (mkF W.m pc' Ls (.int v :: st))) : Run l R Z W Q h k n (mkF W.m pc Ls (.int x :: st)) := by
  subst hp
  exact Run.one (fun T locs X _ t g => XS.i2b X.here C.hx rfl (C.hb hd) rfl (hv ▸ g)) r
theorem i2c (C : Cx Z W own nm code maxL ret) {x : Int32} {v : Int32} (hd : decode code pc = .ok (.i2c, 1)) (hv : x.toUInt32.toUInt16.toUInt32.toInt32 = v) (hp : pc + 1 = pc')
    (r : Run l R Z W Q h k n (mkF W.m pc' Ls (.int v :: st))) : Run l R Z W Q h k n (mkF W.m pc Ls (.int x :: st)) := by
  subst hp
  exact Run.one (fun T locs X _ t g => XS.i2c X.here C.hx rfl (C.hb hd) rfl (hv ▸ g)) r
theorem dup (C : Cx Z W own nm code maxL ret) {v : Value} (hd : decode code pc = .ok (.dup, 1)) (hc : v.category = 1) (hp : pc + 1 = pc')
    (r : Run l R Z W Q h k n (mkF W.m pc' Ls (v :: v :: st))) : Run l R Z W Q h k n (mkF W.m pc Ls (v :: st)) := by
  subst hp
  exact Run.one (fun T locs X _ t g => XS.dup X.here C.hx rfl (C.hb hd) rfl hc g) r
theorem pop (C : Cx Z W own nm code maxL ret) {v : Value} (hd : decode code pc = .ok (.pop, 1)) (hc : v.category = 1) (hp : pc + 1 = pc')
    (r : Run l R Z W Q h k n (mkF W.m pc' Ls (st))) : Run l R Z W Q h k n (mkF W.m pc Ls (v :: st)) := by
  subst hp
  exact Run.one (fun T locs X _ t g => XS.pop X.here C.hx rfl (C.hb hd) rfl hc g) r
theorem iinc (C : Cx Z W own nm code maxL ret) {i : Nat} {d : Int} {x v : Int32} {Ls' : Array Slot} (hd : decode code pc = .ok (.iinc i d, 3)) (hl : Ls[i]? = some (.val (.int x))) (hv : x + Int32.ofInt d = v) (hl' : storeLocals Ls i (.int v) = some Ls') (hp : pc + 3 = pc')
    (r : Run l R Z W Q h k n (mkF W.m pc' Ls' st)) : Run l R Z W Q h k n (mkF W.m pc Ls st) := by
  subst hp hv
  exact Run.one (fun T locs X _ t g => XS.iinc X.here C.hx rfl (C.hb hd) hl hl' g) r
theorem goto (C : Cx Z W own nm code maxL ret) {o : Int} (hd : decode code pc = .ok (.goto o, 3)) (ho : 0 ≤ (pc : Int) + o) (hp : ((pc : Int) + o).toNat = pc')
    (r : Run l R Z W Q h k n (mkF W.m pc' Ls st)) : Run l R Z W Q h k n (mkF W.m pc Ls st) :=
  Run.one (fun T locs X _ t g => XS.goto X.here C.hx rfl rfl (C.hb hd) ho hp g) r
theorem icmp_eq (C : Cx Z W own nm code maxL ret) {x y : Int32} {o : Int} {pcT : Nat} (hd : decode code pc = .ok (.if_icmp .eq o, 3)) (ho : 0 ≤ (pc : Int) + o) (hp : ((pc : Int) + o).toNat = pcT) (hp' : pc + 3 = pc')
    (rt : x = y → Run l R Z W Q h k n (mkF W.m pcT Ls st)) (rf : ¬ x = y → Run l R Z W Q h k n (mkF W.m pc' Ls st)) : Run l R Z W Q h k n (mkF W.m pc Ls (.int y :: .int x :: st)) := by
  subst hp'
  by_cases q : x = y
  · exact Run.one (fun T locs X _ t g => XS.icmpYes X.here C.hx rfl rfl (C.hb hd) rfl (teq q).1 ho hp g) (rt q)
  · exact Run.one (fun T locs X _ t g => XS.icmpNo X.here C.hx rfl (C.hb hd) rfl (feq q).1 g) (rf q)
theorem if_eq (C : Cx Z W own nm code maxL ret) {x : Int32} {o : Int} {pcT : Nat} (hd : decode code pc = .ok (.ifCond .eq o, 3)) (ho : 0 ≤ (pc : Int) + o) (hp : ((pc : Int) + o).toNat = pcT) (hp' : pc + 3 = pc')
    (rt : x = (0 : Int32) → Run l R Z W Q h k n (mkF W.m pcT Ls st)) (rf : ¬ x = (0 : Int32) → Run l R Z W Q h k n (mkF W.m pc' Ls st)) : Run l R Z W Q h k n (mkF W.m pc Ls (.int x :: st)) := by
  subst hp'
  by_cases q : x = (0 : Int32)
  · exact Run.one (fun T locs X _ t g => XS.ifYes X.here C.hx rfl rfl (C.hb hd) rfl ((if0 _ _).trans (teq q).1) ho hp g) (rt q)
  · exact Run.one (fun T locs X _ t g => XS.ifNo X.here C.hx rfl (C.hb hd) rfl ((if0 _ _).trans (feq q).1) g) (rf q)
theorem icmp_ne (C : Cx Z W own nm code maxL ret) {x y : Int32} {o : Int} {pcT : Nat} (hd : decode code pc = .ok (.if_icmp .ne o, 3)) (ho : 0 ≤ (pc : Int) + o) (hp : ((pc : Int) + o).toNat = pcT) (hp' : pc + 3 = pc')
    (rt : ¬ x = y → Run l R Z W Q h k n (mkF W.m pcT Ls st)) (rf : x = y → Run l R Z W Q h k n (mkF W.m pc' Ls st)) : Run l R Z W Q h k n (mkF W.m pc Ls (.int y :: .int x :: st)) := by
  subst hp'
  by_cases q : x = y
  · exact Run.one (fun T locs X _ t g => XS.icmpNo X.here C.hx rfl (C.hb hd) rfl (teq q).2 g) (rf q)
  · exact Run.one (fun T locs X _ t g => XS.icmpYes X.here C.hx rfl rfl (C.hb hd) rfl (feq q).2 ho hp g) (rt q)
theorem if_ne (C : Cx Z W own nm code maxL ret) {x : Int32} {o : Int} {pcT : Nat} (hd : decode code pc = .ok (.ifCond .ne o, 3)) (ho : 0 ≤ (pc : Int) + o) (hp : ((pc : Int) + o).toNat = pcT) (hp' : pc + 3 = pc')
    (rt : ¬ x = (0 : Int32) → Run l R Z W Q h k n (mkF W.m pcT Ls st)) (rf : x = (0 : Int32) → Run l R Z W Q h k n (mkF W.m pc' Ls st)) : Run l R Z W Q h k n (mkF W.m pc Ls (.int x :: st)) := by
  subst hp'
  by_cases q : x = (0 : Int32)
  · exact Run.one (fun T locs X _ t g => XS.ifNo X.here C.hx rfl (C.hb hd) rfl ((if0 _ _).trans (teq q).2) g) (rf q)
  · exact Run.one (fun T locs X _ t g => XS.ifYes X.here C.hx rfl rfl (C.hb hd) rfl ((if0 _ _).trans (feq q).2) ho hp g) (rt q)
theorem if_lt (C : Cx Z W own nm code maxL ret) {x : Int32} {o : Int} {pcT : Nat} (hd : decode code pc = .ok (.ifCond .lt o, 3)) (ho : 0 ≤ (pc : Int) + o) (hp : ((pc : Int) + o).toNat = pcT) (hp' : pc + 3 = pc')
    (rt : x < (0 : Int32) → Run l R Z W Q h k n (mkF W.m pcT Ls st)) (rf : ¬ x < (0 : Int32) → Run l R Z W Q h k n (mkF W.m pc' Ls st)) : Run l R Z W Q h k n (mkF W.m pc Ls (.int x :: st)) := by
  subst hp'
  by_cases q : x < (0 : Int32)
  · exact Run.one (fun T locs X _ t g => XS.ifYes X.here C.hx rfl rfl (C.hb hd) rfl ((if0 _ _).trans (tlt q).1) ho hp g) (rt q)
  · exact Run.one (fun T locs X _ t g => XS.ifNo X.here C.hx rfl (C.hb hd) rfl ((if0 _ _).trans (flt q).1) g) (rf q)
theorem icmp_ge (C : Cx Z W own nm code maxL ret) {x y : Int32} {o : Int} {pcT : Nat} (hd : decode code pc = .ok (.if_icmp .ge o, 3)) (ho : 0 ≤ (pc : Int) + o) (hp : ((pc : Int) + o).toNat = pcT) (hp' : pc + 3 = pc')
    (rt : ¬ x < y → Run l R Z W Q h k n (mkF W.m pcT Ls st)) (rf : x < y → Run l R Z W Q h k n (mkF W.m pc' Ls st)) : Run l R Z W Q h k n (mkF W.m pc Ls (.int y :: .int x :: st)) := by
  subst hp'
  by_cases q : x < y
  · exact Run.one (fun T locs X _ t g => XS.icmpNo X.here C.hx rfl (C.hb hd) rfl (tlt q).2.1 g) (rf q)
  · exact Run.one (fun T locs X _ t g => XS.icmpYes X.here C.hx rfl rfl (C.hb hd) rfl (flt q).2.1 ho hp g) (rt q)
theorem icmp_gt (C : Cx Z W own nm code maxL ret) {x y : Int32} {o : Int} {pcT : Nat} (hd : decode code pc = .ok (.if_icmp .gt o, 3)) (ho : 0 ≤ (pc : Int) + o) (hp : ((pc : Int) + o).toNat = pcT) (hp' : pc + 3 = pc')
    (rt : y < x → Run l R Z W Q h k n (mkF W.m pcT Ls st)) (rf : ¬ y < x → Run l R Z W Q h k n (mkF W.m pc' Ls st)) : Run l R Z W Q h k n (mkF W.m pc Ls (.int y :: .int x :: st)) := by
  subst hp'
  by_cases q : y < x
  · exact Run.one (fun T locs X _ t g => XS.icmpYes X.here C.hx rfl rfl (C.hb hd) rfl (tlt q).2.2.1 ho hp g) (rt q)
  · exact Run.one (fun T locs X _ t g => XS.icmpNo X.here C.hx rfl (C.hb hd) rfl (flt q).2.2.1 g) (rf q)
theorem icmp_le (C : Cx Z W own nm code maxL ret) {x y : Int32} {o : Int} {pcT : Nat} (hd : decode code pc = .ok (.if_icmp .le o, 3)) (ho : 0 ≤ (pc : Int) + o) (hp : ((pc : Int) + o).toNat = pcT) (hp' : pc + 3 = pc')
    (rt : ¬ y < x → Run l R Z W Q h k n (mkF W.m pcT Ls st)) (rf : y < x → Run l R Z W Q h k n (mkF W.m pc' Ls st)) : Run l R Z W Q h k n (mkF W.m pc Ls (.int y :: .int x :: st)) := by
  subst hp'
  by_cases q : y < x
  · exact Run.one (fun T locs X _ t g => XS.icmpNo X.here C.hx rfl (C.hb hd) rfl (tlt q).2.2.2 g) (rf q)
  · exact Run.one (fun T locs X _ t g => XS.icmpYes X.here C.hx rfl rfl (C.hb hd) rfl (flt q).2.2.2 ho hp g) (rt q)
theorem if_le (C : Cx Z W own nm code maxL ret) {x : Int32} {o : Int} {pcT : Nat} (hd : decode code pc = .ok (.ifCond .le o, 3)) (ho : 0 ≤ (pc : Int) + o) (hp : ((pc : Int) + o).toNat = pcT) (hp' : pc + 3 = pc')
    (rt : ¬ (0 : Int32) < x → Run l R Z W Q h k n (mkF W.m pcT Ls st)) (rf : (0 : Int32) < x → Run l R Z W Q h k n (mkF W.m pc' Ls st)) : Run l R Z W Q h k n (mkF W.m pc Ls (.int x :: st)) := by
  subst hp'
  by_cases q : (0 : Int32) < x
  · exact Run.one (fun T locs X _ t g => XS.ifNo X.here C.hx rfl (C.hb hd) rfl ((if0 _ _).trans (tlt q).2.2.2) g) (rf q)
  · exact Run.one (fun T locs X _ t g => XS.ifYes X.here C.hx rfl rfl (C.hb hd) rfl ((if0 _ _).trans (flt q).2.2.2) ho hp g) (rt q)
theorem Run.via {g g' : JFrame} (f : ∀ T locs, Std l R W T locs k n → T.heap = h → ∃ T', Std l R W T' locs k n ∧ T'.heap = h ∧ ∀ t, Steps W.p.tables W.e W.b (T'.setTop g') t → Steps W.p.tables W.e W.b (T.setTop g) t) (r : Run l R Z W Q h k n g') : Run l R Z W Q h k n g :=
  fun T locs X eT N O => by
    obtain ⟨T', X', e', s'⟩ := f T locs X eT
    exact Go.step s' (r T' locs X' e' N O)
theorem getF (C : Cx Z W own nm code maxL ret) {R0 O nmF d : String} {ix : Nat} (hd : decode code pc = .ok (.getfield ix, 3)) (w : (Cond.fieldLink own ix R0 nmF d).before a0 Z = true) (via : Via Z R0 O nmF d) {a : Addr} {v : Value} (F : Fld Z h a O nmF d v) (hp : pc + 3 = pc')
    (r : Run l R Z W Q h k n (mkF W.m pc' Ls (v :: st))) : Run l R Z W Q h k n (mkF W.m pc Ls (.ref a :: st)) := by
  subst hp
  exact Run.via (fun T locs X eT => RoadKit.getF X C.hx C.hZ C.ow (host := "") (Or.inl w) via eT F (g := mkF W.m pc Ls (.ref a :: st)) rfl rfl (C.hb hd)) r
theorem getS (C : Cx Z W own nm code maxL ret) {R0 O nmF d : String} {ix : Nat} (hd : decode code pc = .ok (.getstatic ix, 3)) (w : (Cond.fieldLink own ix R0 nmF d).before a0 Z = true) (via : Via Z R0 O nmF d) {v : Value} (F : Sta Z h O nmF d v) (hp : pc + 3 = pc')
    (r : Run l R Z W Q h k n (mkF W.m pc' Ls (v :: st))) : Run l R Z W Q h k n (mkF W.m pc Ls st) := by
  subst hp
  exact Run.via (fun T locs X eT => getS2 X C.hx C.hZ C.ow (host := "") (Or.inl w) via eT F (g := mkF W.m pc Ls st) rfl (C.hb hd)) r
/-- an array as a list: its kind, its length, its elements -/
def Ary (Z : State) (h : Heap) (a : Addr) (ty : FieldType) (vs : List Value) : Prop := ∃ c : Cell, Arr Z h a c ty ∧ c.slots = vs.toArray ∧ vs.length < 2 ^ 31 ∧ ∀ v ∈ vs, fits ty v = true
theorem Ary.lt {a : Addr} {ty : FieldType} {vs : List Value} (F : Ary Z h a ty vs) : a < h.size := by obtain ⟨c, A, -⟩ := F; exact A.lt
theorem Ary.ext {h' : Heap} {a : Addr} {ty : FieldType} {vs : List Value} (F : Ary Z h a ty vs) (E : Ext h h') : Ary Z h' a ty vs := by obtain ⟨c, A, r⟩ := F; exact ⟨c, A.ext E, r⟩
theorem Ary.other {h' : Heap} {a b : Addr} {sl : Nat} {v : Value} {ty : FieldType} {vs : List Value} (F : Ary Z h b ty vs) (X : Wr h h' a sl v) (q : b ≠ a) : Ary Z h' b ty vs := by obtain ⟨c, A, r⟩ := F; exact ⟨c, A.other X q, r⟩
theorem Ary.keep {h' : Heap} {a : Addr} {ws : List Addr} {ty : FieldType} {vs : List Value} (F : Ary Z h a ty vs) (K : Keep h h' ws) (q : a ∉ ws) : Ary Z h' a ty vs := by obtain ⟨c, A, r⟩ := F; exact ⟨c, ⟨K.2.1 a c A.1 q, A.2⟩, r⟩
theorem Ary.set {h' : Heap} {a : Addr} {i : Nat} {v : Value} {ty : FieldType} {vs : List Value} (F : Ary Z h a ty vs) (X : Wr h h' a i v) (hv : fits ty v = true) : Ary Z h' a ty (vs.set i v) := by
  obtain ⟨c, A, e, q, f⟩ := F
  refine ⟨_, A.same X, ?_, by simpa using q, fun w hw => ?_⟩
  · show (c.slots.setIfInBounds i v) = _
    rw [e]; simp
  · rcases List.mem_or_eq_of_mem_set hw with hw | rfl
    · exact f w hw
    · exact hv
theorem Ary.inb {a : Addr} {ty : FieldType} {vs : List Value} {c : Cell} {j : Int32} (e : c.slots = vs.toArray) (h0 : ¬ j < 0) (h1 : j.toNatClampNeg < vs.length) : ¬ (j < 0 ∨ c.slots.size ≤ j.toNatClampNeg) := by
  rw [e]
  rintro (q | q)
  · exact h0 q
  · simp at q; omega
theorem Ary.arv {a : Addr} {ty : FieldType} {vs : List Value} {d : Value} (F : Ary Z h a ty vs) : ∃ kc, Arv Z h a kc ty (Int32.ofNat vs.length) vs d := by
  obtain ⟨c, A, e, q, f⟩ := F
  have hn : (Int32.ofNat vs.length).toNatClampNeg = vs.length := by
    rw [Int32.toNatClampNeg_ofNat_of_lt q]
  refine ⟨c.cls, c, A, rfl, by rw [hn, e]; simp, ?_, fun i hi => ?_, fun i hi => ?_⟩
  · rw [Int32.lt_iff_toInt_lt, Int32.toInt_ofNat_of_lt q]; simp
  · have hi' : i < vs.length := by rw [e] at hi; simpa using hi
    rw [e]; simp [List.getD_eq_getElem?_getD, hi']
  · have hi' : i < vs.length := by rw [e] at hi; simpa using hi
    have := f _ (List.getElem_mem hi')
    simpa [List.getD_eq_getElem?_getD, hi'] using this
theorem Ary.of_arv {a : Addr} {kc : ClassId} {ty : FieldType} {z : Int32} {vs : List Value} {d : Value} (F : Arv Z h a kc ty z vs d) (hz : z.toNatClampNeg = vs.length) : Ary Z h a ty vs := by
  obtain ⟨c, A, -, S, z0, H, G⟩ := F
  have hs : c.slots.size = vs.length := S.trans hz
  refine ⟨c, A, ?_, by rw [← hz]; exact (back32 z0).2, fun v hv => ?_⟩
  · apply Array.ext
    · simpa using hs
    · intro i h1 h2
      have q := H i h1
      rw [Array.getElem?_eq_getElem h1] at q
      have h3 : i < vs.length := by omega
      simpa [List.getD_eq_getElem?_getD, h3] using q
  · obtain ⟨i, hi, rfl⟩ := List.getElem_of_mem hv
    have := G i (by omega)
    simpa [List.getD_eq_getElem?_getD, hi] using this
theorem alen (C : Cx Z W own nm code maxL ret) (hd : decode code pc = .ok (.arraylength, 1)) {a : Addr} {ty : FieldType} {vs : List Value} {z : Int32} (F : Ary Z h a ty vs) (hz : Int32.ofNat vs.length = z) (hp : pc + 1 = pc')
    (r : Run l R Z W Q h k n (mkF W.m pc' Ls (.int z :: st))) : Run l R Z W Q h k n (mkF W.m pc Ls (.ref a :: st)) := by
  subst hp hz
  obtain ⟨c, A, e, -⟩ := F
  have e2 : c.slots.size.toInt32 = Int32.ofNat vs.length := by rw [e]; simp
  exact Run.one (fun T locs X eT t g => X.arraylength C.hx (by rw [eT]; exact A.1) (State.isArrayOf_alike C.hZ.alike A.2.1) (g := mkF W.m pc Ls (.ref a :: st)) rfl rfl (C.hb hd) t (by rw [e2]; exact g)) r
theorem caload (C : Cx Z W own nm code maxL ret) (hd : decode code pc = .ok (.caload, 1)) {a : Addr} {vs : List Value} {j : Int32} {v : Value} (F : Ary Z h a .char vs) (h0 : ¬ j < 0) (hv : vs[j.toNatClampNeg]? = some v) (hp : pc + 1 = pc')
    (r : Run l R Z W Q h k n (mkF W.m pc' Ls (v :: st))) : Run l R Z W Q h k n (mkF W.m pc Ls (.int j :: .ref a :: st)) := by
  subst hp
  obtain ⟨c, A, e, -⟩ := F
  have h1 : j.toNatClampNeg < vs.length := (List.getElem?_eq_some_iff.mp hv).1
  exact Run.one (fun T locs X eT t g => X.caload C.hx (by rw [eT]; exact A.1) (State.isArrayOf_alike C.hZ.alike A.2.1) A.2.2 (Ary.inb (a := a) (ty := .char) e h0 h1) (by rw [e]; simpa using hv) (g := mkF W.m pc Ls (.int j :: .ref a :: st)) rfl rfl (C.hb hd) t g) r
theorem baload (C : Cx Z W own nm code maxL ret) (hd : decode code pc = .ok (.baload, 1)) {a : Addr} {vs : List Value} {j : Int32} {v : Value} (F : Ary Z h a .byte vs) (h0 : ¬ j < 0) (hv : vs[j.toNatClampNeg]? = some v) (hp : pc + 1 = pc')
    (r : Run l R Z W Q h k n (mkF W.m pc' Ls (v :: st))) : Run l R Z W Q h k n (mkF W.m pc Ls (.int j :: .ref a :: st)) := by
  subst hp
  obtain ⟨c, A, e, -⟩ := F
  have h1 : j.toNatClampNeg < vs.length := (List.getElem?_eq_some_iff.mp hv).1
  exact Run.one (fun T locs X eT t g => X.baloadBytes C.hx (by rw [eT]; exact A.1) (State.isArrayOf_alike C.hZ.alike A.2.1) A.2.2 (Ary.inb (a := a) (ty := .byte) e h0 h1) (by rw [e]; simpa using hv) (g := mkF W.m pc Ls (.int j :: .ref a :: st)) rfl rfl (C.hb hd) t g) r
theorem Run.wrote {a : Addr} {sl : Nat} {v : Value} {g g' : JFrame} (ha : Z.heap.size ≤ a) (f : ∀ T locs, Std l R W T locs k n → T.heap = h → ∃ T' h', Std l R W T' (locs ++ [⟨a, sl⟩]) k n ∧ T'.heap = h' ∧ Wr h h' a sl v ∧ ∀ t, Steps W.p.tables W.e W.b (T'.setTop g') t → Steps W.p.tables W.e W.b (T.setTop g) t)
    (r : ∀ h', Wr h h' a sl v → Ext Z.heap h' → Run l R Z W Q h' k n g') : Run l R Z W Q h k n g := fun T locs X eT N O => by
  obtain ⟨T', h', X', e', w', s'⟩ := f T locs X eT
  have O' : Ext Z.heap h' := ((old_of O).wr w' ha).2
  exact Go.step s' (r h' w' O' T' _ X' e' (Fr.snoc X' N ha) O')
theorem putF (C : Cx Z W own nm code maxL ret) {R0 O nmF d K : String} {ix kk : Nat} {ty : FieldType} (hd : decode code pc = .ok (.putfield ix, 3)) (w : (Cond.fieldLink own ix R0 nmF d).before a0 Z = true) (via : Via Z R0 O nmF d) {a : Addr} {v old : Value} (F : Fld Z h a O nmF d old) (E : Exa Z h a K)
    (L : (Cond.lays K O nmF d).before a0 Z = true ∨ ((Cond.laysFinal K O nmF d).before a0 Z = true ∧ own = O ∧ nm = "<init>")) (wi : (Cond.instantiable K kk).before a0 Z = true) (hty : parseFieldDescriptor d = some ty) (hn : narrow ty v = v) (hf : fits ty v = true) (ha : Z.heap.size ≤ a) (hp : pc + 3 = pc')
    (r : ∀ h', Wr h h' a (RoadKit.slotOf Z O nmF d) v → Ext Z.heap h' → Run l R Z W Q h' k n (mkF W.m pc' Ls st)) : Run l R Z W Q h k n (mkF W.m pc Ls (v :: .ref a :: st)) := by
  subst hp
  exact Run.wrote ha (fun T locs X eT => RoadKit.putF X C.hx C.hZ C.ow (host := "") (Or.inl w) via eT F E (L.imp id fun q => ⟨q.1, q.2.1, C.nme.trans q.2.2⟩) wi hty hn hf (g := mkF W.m pc Ls (v :: .ref a :: st)) rfl rfl (C.hb hd)) r
theorem castore (C : Cx Z W own nm code maxL ret) (hd : decode code pc = .ok (.castore, 1)) {a : Addr} {vs vs' : List Value} {j x : Int32} (F : Ary Z h a .char vs) (h0 : ¬ j < 0) (h1 : j.toNatClampNeg < vs.length) (hx : nar .char x = x) (hs : vs.set j.toNatClampNeg (.int x) = vs') (ha : Z.heap.size ≤ a) (hp : pc + 1 = pc')
    (r : ∀ h', Wr h h' a j.toNatClampNeg (.int x) → Ary Z h' a .char vs' → Ext Z.heap h' → Run l R Z W Q h' k n (mkF W.m pc' Ls st)) : Run l R Z W Q h k n (mkF W.m pc Ls (.int x :: .int j :: .ref a :: st)) := by
  subst hp hs
  have F' := F
  obtain ⟨c, A, e, -⟩ := F'
  exact Run.wrote ha (fun T locs X eT => by have w0 := RoadKit.stC X C.hx C.hZ eT A (Ary.inb (a := a) (ty := .char) e h0 h1) (g := mkF W.m pc Ls (.int x :: .int j :: .ref a :: st)) rfl rfl (C.hb hd); rw [hx] at w0; exact w0) (fun h' w' O' => r h' w' (F.set w' (hx ▸ fits_nar_char x)) O')
theorem bastore (C : Cx Z W own nm code maxL ret) (hd : decode code pc = .ok (.bastore, 1)) {a : Addr} {vs vs' : List Value} {j x : Int32} (F : Ary Z h a .byte vs) (h0 : ¬ j < 0) (h1 : j.toNatClampNeg < vs.length) (hs : vs.set j.toNatClampNeg (.int (nar .byte x)) = vs') (ha : Z.heap.size ≤ a) (hp : pc + 1 = pc')
    (r : ∀ h', Wr h h' a j.toNatClampNeg (.int (nar .byte x)) → Ary Z h' a .byte vs' → Ext Z.heap h' → Run l R Z W Q h' k n (mkF W.m pc' Ls st)) : Run l R Z W Q h k n (mkF W.m pc Ls (.int x :: .int j :: .ref a :: st)) := by
  subst hp hs
  have F' := F
  obtain ⟨c, A, e, -⟩ := F'
  exact Run.wrote ha (fun T locs X eT => by have w0 := RoadKit.stB X C.hx C.hZ eT A (Ary.inb (a := a) (ty := .byte) e h0 h1) (g := mkF W.m pc Ls (.int x :: .int j :: .ref a :: st)) rfl rfl (C.hb hd); exact w0) (fun h' w' O' => r h' w' (F.set w' (fits_nar_byte x)) O')
/-- what a fresh object holds -/
abbrev Fresh (Z : State) (a0 : Array Value) (h' : Heap) (a : Addr) (K : String) : Prop := ∀ {O nm d : String} {ty : FieldType}, Laid Z a0 K O nm d → parseFieldDescriptor d = some ty → Fld Z h' a O nm d (defaultValue ty)
theorem newO (C : Cx Z W own nm code maxL ret) {K : String} {ix sl k' n' : Nat} (hd : decode code pc = .ok (.new ix, 3)) (w : (Cond.classLink own ix K).before a0 Z = true) (wi : (Cond.instantiable K sl).before a0 Z = true) (wz : (Cond.initialized K).before a0 Z = true) (hc : k + 1 = k') (hl : n + sl = n') (hc' : k' ≤ R.cells) (hl' : n' ≤ R.slots) (hp : pc + 3 = pc')
    (r : ∀ a h', a = h.size → Z.heap.size ≤ a → Ext h h' → Exa Z h' a K → Fresh Z a0 h' a K → Unt h' a → Ext Z.heap h' → Run l R Z W Q h' k' n' (mkF W.m pc' Ls (.ref a :: st))) : Run l R Z W Q h k n (mkF W.m pc Ls st) := by
  subst hp hc hl
  intro T locs X eT N O
  obtain ⟨T', h', X', e', E', A', D', U', s'⟩ := RoadKit.newO X C.hx C.hZ C.ow w wi wz eT (g := mkF W.m pc Ls st) rfl (C.hb hd) hc' hl'
  have O' : Ext Z.heap h' := ((old_of O).ext E').2
  exact Go.step s' (r h.size h' rfl O.1 E' A' D' U' O' T' locs X' e' N O')
theorem newA (C : Cx Z W own nm code maxL ret) {aty : ArrayType} {ty : FieldType} {z : Int32} {k' n' cap : Nat} (hd : decode code pc = .ok (.newarray aty, 2)) (ht : newarray.typeOf aty = ty) (w : (Cond.arrayClass ty).before a0 Z = true) (hz : ¬ z < 0) (hcap : z.toNatClampNeg ≤ cap) (hb : cap * 8 ≤ 536870912) (hc : k + 1 = k') (hl : n + cap = n') (hc' : k' ≤ R.cells) (hl' : n' ≤ R.slots) (hdf : fits ty (defaultValue ty) = true) (hp : pc + 2 = pc')
    (r : ∀ a h', a = h.size → Z.heap.size ≤ a → Ext h h' → Ary Z h' a ty (List.replicate z.toNatClampNeg (defaultValue ty)) → Ext Z.heap h' → Run l R Z W Q h' k' n' (mkF W.m pc' Ls (.ref a :: st))) : Run l R Z W Q h k n (mkF W.m pc Ls (.int z :: st)) := by
  subst hp hc hl ht
  intro T locs X eT N O
  obtain ⟨T', h', cA, X', e', E', A', s'⟩ := newP X C.hx C.hZ w eT (g := mkF W.m pc Ls (.int z :: st)) rfl (C.hb hd) rfl hz hcap hb hc' hl'
  have O' : Ext Z.heap h' := ((old_of O).ext E').2
  have hz2 : z.toNatClampNeg < 2 ^ 31 := (back32 hz).2
  refine Go.step s' (r h.size h' rfl O.1 E' ⟨_, A', ?_, by simpa using hz2, fun v hv => ?_⟩ O' T' locs X' e' N O')
  · show Array.replicate _ _ = _
    simp
  · rw [(List.mem_replicate.mp hv).2]; exact hdf
/-- an array of references to K: its class -/
def RefA (Z : State) (h : Heap) (a : Addr) (K : String) : Prop := ∃ cl : Cell, h[a]? = some cl ∧ Ovr Z cl.cls K
theorem RefA.ext {h' : Heap} {a : Addr} {K : String} (F : RefA Z h a K) (E : Ext h h') : RefA Z h' a K := by
  obtain ⟨cl, h1, r⟩ := F
  exact ⟨cl, E.2 _ _ h1, r⟩
theorem RefA.wr {h' : Heap} {a b : Addr} {K : String} {sl : Nat} {v : Value} (F : RefA Z h a K) (W : Wr h h' b sl v) : RefA Z h' a K := by
  obtain ⟨cl, h1, r⟩ := F
  obtain ⟨d, d1, d2, -⟩ := wr_at W h1
  exact ⟨d, d1, by rw [d2]; exact r⟩
theorem initO (C : Cx Z W own nm code maxL ret) {ix Wn : Nat} (hd : decode code pc = .ok (.invokespecial ix, 3)) (w1 : (Cond.methodLink own ix Lib.objectInit).before a0 Z = true) (w2 : (Cond.instanceMethod Lib.objectInit).before a0 Z = true) (w3 : (Cond.code Lib.objectInit ⟨#[0xb1]⟩ 1 none).before a0 Z = true) {a : Addr} (hsz : Ls.size = maxL) (hf : 1 ≤ R.frames) (hW : (st.map fun v => v.category).sum ≤ Wn) (hl : Wn + 12 ≤ R.locals) (hp : pc + 3 = pc')
    (r : Run l R Z W Q h k n (mkF W.m pc' Ls st)) : Run l R Z W Q h k n (mkF W.m pc Ls (.ref a :: st)) := by
  subst hp
  exact Run.via (fun T locs X eT => RoadKit.initO X C.hx C.hZ C.ow w1 w2 w3 eT (g := mkF W.m pc Ls (.ref a :: st)) rfl (hsz.trans C.ml.symm) rfl (C.hb hd) hf (W := Wn) (by show 2 * 0 + _ ≤ _; omega) hl) r
/-! ## contracts and calls -/
/-- the method y, called with these arguments at the heap h0, returns with Q -/
def Con (l : Launch) (Z : State) (y : MethodName) (bytes : ByteArray) (maxL : Nat) (ret : Option FieldType) (rm : Room) (as' : Array Value) (h0 : Heap) (Q : Post) : Prop :=
  ∀ ws, MetFree l y (head1 (Jvm.Cond.code y bytes maxL ret :: ws) rm) (fun a U => a = as' ∧ Z.Warmed39 U.vm ∧ U.heap = h0) (fun _ _ _ _ _ => True) (fun _ U o U' => ∃ v L, o = .returned v ∧ (Q v U'.heap ∧ Ext Z.heap U'.heap ∧ Fr Z.heap.size L) ∧ FrameEnd U o U' L rm.cells rm.slots)
theorem Con.intro {y : MethodName} {bytes : ByteArray} {rm : Room} {as' : Array Value} {Ls0 : Array Slot} (hy : plainFor y = true) (O : Ext Z.heap h) (he : ∀ m, entryFrame m as' maxL = mkF m 0 Ls0 [])
    (body : ∀ W : Wd, Cx Z W y.cls y.name bytes maxL ret → Run l rm Z W Q h 0 0 (mkF W.m 0 Ls0 [])) : Con l Z y bytes maxL ret rm as' h Q := by
  intro ws
  refine MetFree.of_bodySF hy hisR ?_
  intro p e s m args below meth c s₁ Bd hml0 hP hK
  obtain ⟨rfl, hZ, hh⟩ := hP
  have e0 : s₁.heap = h := by rw [← hh, Bd.state]; rfl
  have X0 : Stand p l e rm s m args below meth c s₁ [] 0 0 := Stand.of_body Bd
  have r := body (p, e, s, m, args, below, meth, c) ⟨Bd.exec, Bd.bytes, hml0, findClass_of_methodNamed Bd.named, hZ, Bd.returns, (name_of_methodNamed Bd.named Bd.method).1, Bd.notSynchronized⟩ s₁ [] X0 e0 (Fr.nil _) O
  rw [he m]
  exact r
theorem Con.mono {y : MethodName} {bytes : ByteArray} {rm : Room} {as' : Array Value} {Q' : Post} (c : Con l Z y bytes maxL ret rm as' h Q) (f : ∀ v h', Q v h' → Q' v h') : Con l Z y bytes maxL ret rm as' h Q' := by
  intro ws p e ha hc hk s m args below hf happ hP hK
  obtain ⟨n, o, h1, h2, h3, v, L, h4, ⟨h5, h6⟩, h7⟩ := c ws p e ha hc hk s m args below hf happ hP hK
  exact ⟨n, o, h1, h2, h3, v, L, h4, ⟨f _ _ h5, h6⟩, h7⟩
section Calls
variable {y : MethodName} {bytes : ByteArray} {mxL : Nat} {rt : Option FieldType} {rm : Room} {Qc : Post} {argsL : List Value} {as' : Array Value} {ix Wn k' n' kc nc : Nat} {st' : List Value}
/-- a law of the library, or a contract, as a call takes it -/
abbrev Pays (l : Launch) (R : Room) (W : Wd) (y : MethodName) (ln Wn : Nat) (as' : Array Value) (h : Heap) (kc nc : Nat) (Qv : Option Value → Heap → List Loc → Prop) : Prop :=
  Back l R W.p W.e W.b W.s W.a y ln Wn (fun P a => a = as' ∧ P.U.heap = h ∧ P.cells + kc ≤ R.cells ∧ P.slots + nc ≤ R.slots) (fun P _ v B => ∃ L, Qv v B.U.heap L ∧ B.locs = P.locs ++ L ∧ B.cells = P.cells + kc ∧ B.slots = P.slots + nc)
abbrev Clean (Z : State) (Qc : Post) (Qv : Option Value → Heap → List Loc → Prop) : Prop := ∀ v h' L, Qv v h' L → Qc v h' ∧ Ext Z.heap h' ∧ Fr Z.heap.size L
theorem Con.pays (C : Cx Z W own nm code maxL ret) {ln : Nat} (K : Con l Z y bytes mxL rt rm as' h Qc) (w4 : (Cond.code y bytes mxL rt).before a0 Z = true) (wz : (Cond.initialized y.cls).before a0 Z = true) (hf : rm.frames + 1 ≤ R.frames) (hl : Wn + (mxL + 11) + rm.locals ≤ R.locals) :
    Pays l R W y ln Wn as' h rm.cells rm.slots (fun v h' L => Qc v h' ∧ Ext Z.heap h' ∧ Fr Z.heap.size L) := backOf (W := Wn) (Q := fun v h' L => Qc v h' ∧ Ext Z.heap h' ∧ Fr Z.heap.size L) (K []) C.hZ w4 wz hf hl
theorem callS (C : Cx Z W own nm code maxL ret) (hd : decode code pc = .ok (.invokestatic ix, 3)) {Qv : Option Value → Heap → List Loc → Prop} (K : Pays l R W y 3 Wn as' h kc nc Qv) (hQ : Clean Z Qc Qv) (w1 : (Cond.methodLink own ix y).before a0 Z = true) (w2 : (Cond.static y).before a0 Z = true) (w3 : (Cond.initialized y.cls).before a0 Z = true) (w4 : (Cond.code y bytes mxL rt).before a0 Z = true) (hy : y.cls ≠ "java/lang/invoke/MethodHandle" ∧ y.cls ≠ "java/lang/invoke/VarHandle")
    (has : argsL.toArray = as') (hst : argsL.reverse ++ st = st') (hlen : ∀ sig, parseMethodDescriptor y.desc = some sig → argsL.length = sig.parameters.length) (hsz : Ls.size = maxL) (hW : (st.map fun v => v.category).sum ≤ Wn) (hk : k + kc = k') (hn : n + nc = n') (hk' : k' ≤ R.cells) (hn' : n' ≤ R.slots) (hp : pc + 3 = pc')
    (r : ∀ v h', Qc v h' → Ext Z.heap h' → Run l R Z W Q h' k' n' (mkF W.m pc' Ls (v.toList ++ st))) : Run l R Z W Q h k n (mkF W.m pc Ls st') := by
  subst hp hk hn has hst
  intro T locs X eT N O
  obtain ⟨v, vm₁, ⟨T', L', k', n'⟩, -, X', ⟨L, q0, l1, y1, z1⟩, s'⟩ := Jvm.LawKit.callS X C.hx (y := y) C.ow (mvT C.hZ w1) (mvT C.hZ w2) (mvT C.hZ w3) (mvT C.hZ w4) hy K (g := mkF W.m pc Ls (argsL.reverse ++ st)) rfl (hsz.trans C.ml.symm) (argsL := argsL) (rest := st) hlen rfl (by show 2 * 0 + _ ≤ _; omega) (C.hb hd) (fun _ _ => ⟨rfl, eT, hk', hn'⟩)
  dsimp only [Pt.U, Pt.locs, Pt.cells, Pt.slots] at X' l1 y1 z1 s' q0
  subst l1 y1 z1
  obtain ⟨q1, q2, q3⟩ := hQ _ _ _ q0
  exact Go.step s' (r v T'.heap q1 q2 T' _ X' rfl (N.app q3) q2)
theorem callI (C : Cx Z W own nm code maxL ret) (hd : decode code pc = .ok (.invokespecial ix, 3)) {a : Addr} {Qv : Option Value → Heap → List Loc → Prop} (K : Pays l R W y 3 Wn as' h kc nc Qv) (hQ : Clean Z Qc Qv) (hi : y.name = "<init>") (w1 : (Cond.methodLink own ix y).before a0 Z = true) (w2 : (Cond.instanceMethod y).before a0 Z = true) (w4 : (Cond.code y bytes mxL none).before a0 Z = true) (hy : y.cls ≠ "java/lang/invoke/MethodHandle" ∧ y.cls ≠ "java/lang/invoke/VarHandle")
    (has : (Value.ref a :: argsL).toArray = as') (hst : argsL.reverse ++ .ref a :: st = st') (hlen : ∀ sig, parseMethodDescriptor y.desc = some sig → argsL.length = sig.parameters.length) (hsz : Ls.size = maxL) (hW : (st.map fun v => v.category).sum ≤ Wn) (hk : k + kc = k') (hn : n + nc = n') (hk' : k' ≤ R.cells) (hn' : n' ≤ R.slots) (hp : pc + 3 = pc')
    (r : ∀ v h', Qc v h' → Ext Z.heap h' → Run l R Z W Q h' k' n' (mkF W.m pc' Ls (v.toList ++ st))) : Run l R Z W Q h k n (mkF W.m pc Ls st') := by
  subst hp hk hn has hst
  intro T locs X eT N O
  obtain ⟨v, vm₁, ⟨T', L', k', n'⟩, -, X', ⟨L, q0, l1, y1, z1⟩, s'⟩ := X.specialBack C.hx (y := y) hi C.ow (mvT C.hZ w1) (mvT C.hZ w2) (mvT C.hZ w4) hy K (g := mkF W.m pc Ls (argsL.reverse ++ .ref a :: st)) rfl (hsz.trans C.ml.symm) (Steps.refl _) (a := a) (argsL := argsL) (rest := st) hlen rfl (by show 2 * 0 + _ ≤ _; omega) (C.hb hd) (fun _ _ => ⟨rfl, eT, hk', hn'⟩)
  dsimp only [Pt.U, Pt.locs, Pt.cells, Pt.slots] at X' l1 y1 z1 s' q0
  subst l1 y1 z1
  obtain ⟨q1, q2, q3⟩ := hQ _ _ _ q0
  exact Go.step (fun t => s'.trans) (r v T'.heap q1 q2 T' _ X' rfl (N.app q3) q2)
theorem callV (C : Cx Z W own nm code maxL ret) (hd : decode code pc = .ok (.invokevirtual ix, 3)) {y0 : MethodName} {K0 : String} {a : Addr} {Qv : Option Value → Heap → List Loc → Prop} (K : Pays l R W y 3 Wn as' h kc nc Qv) (hQ : Clean Z Qc Qv) (E : Exa Z h a K0) (w1 : (Cond.methodLink own ix y0).before a0 Z = true) (w2 : (Cond.declares y0).before a0 Z = true) (nf : NotFace W.s y0) (w3 : (Cond.selects K0 y0 y).before a0 Z = true) (w5 : (Cond.instanceMethod y).before a0 Z = true) (hy : y0.cls ≠ "java/lang/invoke/MethodHandle" ∧ y0.cls ≠ "java/lang/invoke/VarHandle")
    (has : (Value.ref a :: argsL).toArray = as') (hst : argsL.reverse ++ .ref a :: st = st') (hlen : ∀ sig, parseMethodDescriptor y0.desc = some sig → argsL.length = sig.parameters.length) (hsz : Ls.size = maxL) (hW : (st.map fun v => v.category).sum ≤ Wn) (hk : k + kc = k') (hn : n + nc = n') (hk' : k' ≤ R.cells) (hn' : n' ≤ R.slots) (hp : pc + 3 = pc')
    (r : ∀ v h', Qc v h' → Ext Z.heap h' → Run l R Z W Q h' k' n' (mkF W.m pc' Ls (v.toList ++ st))) : Run l R Z W Q h k n (mkF W.m pc Ls st') := by
  subst hp hk hn has hst
  intro T locs X eT N O
  obtain ⟨cq, kq, qa, qb, qc⟩ := isOf C.hZ eT E
  obtain ⟨v, vm₁, ⟨T', L', k', n'⟩, -, X', ⟨L, q0, l1, y1, z1⟩, s'⟩ := X.virtualBack C.hx (y := y0) (z := y) C.ow (mvT C.hZ w1) (mvT C.hZ w2) nf (mvT C.hZ w3) (mvT C.hZ w5) hy K qa qc (g := mkF W.m pc Ls (argsL.reverse ++ .ref a :: st)) rfl (hsz.trans C.ml.symm) (Steps.refl _) (argsL := argsL) (rest := st) hlen rfl (by show 2 * 0 + _ ≤ _; omega) (C.hb hd) (fun _ _ => ⟨rfl, eT, hk', hn'⟩)
  dsimp only [Pt.U, Pt.locs, Pt.cells, Pt.slots] at X' l1 y1 z1 s' q0
  subst l1 y1 z1
  obtain ⟨q1, q2, q3⟩ := hQ _ _ _ q0
  exact Go.step (fun t => s'.trans) (r v T'.heap q1 q2 T' _ X' rfl (N.app q3) q2)
theorem cleanC {Qc : Post} : Clean Z Qc (fun v h' L => Qc v h' ∧ Ext Z.heap h' ∧ Fr Z.heap.size L) := fun v h' L q => q
end Calls
theorem Ext.refl (h : Heap) : Ext h h := ⟨Nat.le_refl _, fun _ _ q => q⟩
theorem Ext.trans {h1 h2 h3 : Heap} (A : Ext h1 h2) (B : Ext h2 h3) : Ext h1 h3 := ⟨Nat.le_trans A.1 B.1, fun a c q => B.2 a c (A.2 a c q)⟩
theorem Ext.wr {Z : State} {h1 h2 h3 : Heap} {a : Addr} {sl : Nat} {v : Value} (A : Ext h1 h2) (B : Wr h2 h3 a sl v) (q : h1.size ≤ a) : Ext h1 h3 := ((old_of (Z := { Z with heap := h1 }) A).wr B q).2
theorem Ext.keep1 {Z : State} {h1 h2 h3 : Heap} {a : Addr} (A : Ext h1 h2) (B : Keep h2 h3 [a]) (q : h1.size ≤ a) : Ext h1 h3 := ((old_of (Z := { Z with heap := h1 }) A).keep B (allS q all0)).2
/-- System.arraycopy of primitive components, between two arrays -/
theorem acopy (C : Cx Z W own nm code maxL ret) {ix Wn : Nat} (hd : decode code pc = .ok (.invokestatic ix, 3)) (w1 : (Cond.methodLink own ix Jvm.Stand.acN).before a0 Z = true) (w2 : (Cond.native Jvm.Stand.acN).before a0 Z = true) (w3 : (Cond.static Jvm.Stand.acN).before a0 Z = true) (w4 : (Cond.initialized "java/lang/System").before a0 Z = true)
    {a b : Addr} {ty : FieldType} {vs vd vd' : List Value} {sp dp nn : Int32} (F : Ary Z h a ty vs) (G : Ary Z h b ty vd) (hty : refKind ty = false) (h1 : ¬ sp < 0) (h2 : ¬ dp < 0) (h3 : ¬ nn < 0) (h4 : sp.toNatClampNeg + nn.toNatClampNeg ≤ vs.length) (h5 : dp.toNatClampNeg + nn.toNatClampNeg ≤ vd.length)
    (hv : vd.take dp.toNatClampNeg ++ (vs.drop sp.toNatClampNeg).take nn.toNatClampNeg ++ vd.drop (dp.toNatClampNeg + nn.toNatClampNeg) = vd') (ha : Z.heap.size ≤ b) (hsz : Ls.size = maxL) (hf : 1 ≤ R.frames) (hW : (st.map fun v => v.category).sum ≤ Wn) (hlo : Wn + 18 ≤ R.locals) (hp : pc + 3 = pc')
    (r : ∀ h', Keep h h' [b] → Ary Z h' b ty vd' → Ext Z.heap h' → Run l R Z W Q h' k n (mkF W.m pc' Ls st)) : Run l R Z W Q h k n (mkF W.m pc Ls (.int nn :: .int dp :: .ref b :: .int sp :: .ref a :: st)) := by
  subst hp
  intro T locs X eT N O
  have l1 : vs.length < 2 ^ 31 := by obtain ⟨_, _, _, q, _⟩ := F; exact q
  have l2 : vd.length < 2 ^ 31 := by obtain ⟨_, _, _, q, _⟩ := G; exact q
  obtain ⟨ka, A⟩ := F.arv (d := .int 0)
  obtain ⟨kb, B⟩ := G.arv (d := .int 0)
  have n1 : (Int32.ofNat vs.length).toNatClampNeg = vs.length := Int32.toNatClampNeg_ofNat_of_lt l1
  have n2 : (Int32.ofNat vd.length).toNatClampNeg = vd.length := Int32.toNatClampNeg_ofNat_of_lt l2
  obtain ⟨T', h', L, X', e', N', K', V', s'⟩ := cpA X C.hx C.hZ C.ow w1 w2 w3 w4 eT A B (Or.inl ⟨rfl, hty⟩) h1 h2 h3 (by rw [n1]; exact h4) (by rw [n2]; exact h5) rfl h5 N ha (g := mkF W.m pc Ls (.int nn :: .int dp :: .ref b :: .int sp :: .ref a :: st)) rfl (hsz.trans C.ml.symm) rfl (C.hb hd) hf (W := Wn) (by show 2 * 0 + _ ≤ _; omega) hlo
  have O' : Ext Z.heap h' := Ext.keep1 (Z := Z) O K' ha
  have eu : ((List.range nn.toNatClampNeg).map fun i => vs.getD (sp.toNatClampNeg + i) (.int 0)) = (vs.drop sp.toNatClampNeg).take nn.toNatClampNeg := by
    apply List.ext_getElem
    · simp; omega
    · intro i q1 q2
      have q3 : sp.toNatClampNeg + i < vs.length := by simp at q1; omega
      simp [List.getD_eq_getElem?_getD, q3]
  rw [eu, hv] at V'
  have hlen : (Int32.ofNat vd.length).toNatClampNeg = vd'.length := by rw [n2, ← hv]; simp; omega
  exact Go.step s' (r h' K' (Ary.of_arv V' hlen) O' T' L X' e' N' O')
/-! ## returns -/
theorem Run.leave (C : Cx Z W own nm code maxL ret) {v : Option Value} {f : JFrame} (hv : ret = none → v = none) (q : Q v h) (hk : k ≤ R.cells) (hn : n ≤ R.slots)
    (s' : ∀ T locs, Std l R W T locs k n → ∀ fs, (∀ (f : JFrame) (acts : List Action), f.method = W.m → f.locked = none → f.entered = [] → (doReturn W.e (T.setTop f) acts v).1 = T.setFrames fs) → Steps W.p.tables W.e W.b (T.setTop f) (T.setFrames fs)) : Run l R Z W Q h k n f := by
  intro T locs X eT N O
  have hlk : W.t.locks = false := C.lk
  obtain ⟨fs, hr, hrun, hended, hW, hsame⟩ := X.leave (v := v) (fun hh => hv (C.rt.symm.trans hh))
  have e2 : (T.setFrames fs).heap = h := eT
  exact ⟨_, _, s' T locs X fs hr, hrun, hended, _, _, rfl, ⟨by rw [e2]; exact q, by rw [e2]; exact O, N⟩, ⟨_, rfl⟩, hW, hsame.mono hk hn⟩
theorem retV (C : Cx Z W own nm code maxL none) (hd : decode code pc = .ok (.return_, 1)) (hk : k ≤ R.cells) (hn : n ≤ R.slots) (q : Q none h) : Run l R Z W Q h k n (mkF W.m pc Ls []) :=
  Run.leave C (fun _ => rfl) q hk hn (fun T locs X fs hr => X.returnOut C.hx C.rt (C.hb hd) hr)
theorem retI (C : Cx Z W own nm code maxL (some .int)) (hd : decode code pc = .ok (.ireturn, 1)) {z : Int32} (hk : k ≤ R.cells) (hn : n ≤ R.slots) (q : Q (some (.int z)) h) : Run l R Z W Q h k n (mkF W.m pc Ls (.int z :: st)) :=
  Run.leave C (fun hh => nomatch hh) q hk hn (fun T locs X fs hr => retOut X C.hx C.rt rfl (Or.inl ⟨rfl, Or.inl rfl, z, rfl⟩) (C.hb hd) hr)
theorem retNar {ty : FieldType} (C : Cx Z W own nm code maxL (some ty)) (ht : ty = .boolean ∨ ty = .byte ∨ ty = .char ∨ ty = .short) (hd : decode code pc = .ok (.ireturn, 1)) {z z' : Int32} (hz : nar ty z = z') (hk : k ≤ R.cells) (hn : n ≤ R.slots) (q : Q (some (.int z')) h) : Run l R Z W Q h k n (mkF W.m pc Ls (.int z :: st)) := by
  subst hz
  exact Run.leave C (fun hh => nomatch hh) q hk hn (fun T locs X fs hr => retN X C.hx C.rt ht (C.hb hd) hr)
theorem retA {ty : FieldType} {v : Value} (C : Cx Z W own nm code maxL (some ty)) (ht : ty.isReference = true) (hv : v.isRef = true) (hd : decode code pc = .ok (.areturn, 1)) (hk : k ≤ R.cells) (hn : n ≤ R.slots) (q : Q (some v) h) : Run l R Z W Q h k n (mkF W.m pc Ls (v :: st)) :=
  Run.leave C (fun hh => nomatch hh) q hk hn (fun T locs X fs hr => retOut X C.hx C.rt (by rcases ref_cases hv with rfl | ⟨a, rfl⟩ <;> cases ty <;> simp [FieldType.isReference] at ht <;> rfl) (Or.inr (Or.inr (Or.inr (Or.inr ⟨rfl, ht, hv⟩)))) (C.hb hd) hr)
end Kit
end Wk

def Ws (a0 : Array Value) (Z : State) : Prop := ∀ d ∈ tables_1, d.before a0 Z = true
theorem Wk.nar_i2c {x v : Int32} (h : x.toUInt32.toUInt16.toUInt32.toInt32 = v) : nar .char v = v := by subst h; simp only [nar, UInt32.toUInt32_toInt32, UInt16.toUInt16_toUInt32]
theorem Wk.rng255 {p v w : Int32} (h : p &&& 255 = v) (h' : v.toUInt32.toUInt16.toUInt32.toInt32 = w) : ¬ w < 0 ∧ ¬ (255 : Int32) < w := by
  subst h h'
  rw [i2c_mask, Int32.lt_iff_toInt_lt, Int32.lt_iff_toInt_lt, c_mask p 255 8 (by decide) (by decide)]
  have : (0 : Int32).toInt = 0 := by decide
  have : (255 : Int32).toInt = 255 := by decide
  omega
theorem Wk.nar_rng {c : Int32} (h : ¬ c < 0 ∧ ¬ (255 : Int32) < c) : nar .char c = c := by
  show c.toUInt32.toUInt16.toUInt32.toInt32 = c
  have h1 := c_i2c c
  obtain ⟨h2, h3⟩ := h
  rw [Int32.lt_iff_toInt_lt] at h2 h3
  have e0 : (0 : Int32).toInt = 0 := by decide
  have e1 : (255 : Int32).toInt = 255 := by decide
  exact Int32.toInt_inj.mp (by omega)
theorem Wk.modr {v d w : Int32} (h0 : 0 ≤ v.toInt) (hd : 0 < d.toInt) (h : v % d = w) : 0 ≤ w.toInt ∧ w.toInt < d.toInt := by
  subst h
  have q := (c_iremV v d).1 h0 hd
  exact ⟨q.1, q.2.1⟩
theorem Wk.addI {x y v : Int32} (h : x + y = v) : (v.toInt - (x.toInt + y.toInt)) % 4294967296 = 0 := h ▸ c_iadd x y
theorem Wk.subI {x y v : Int32} (h : x - y = v) : (v.toInt - (x.toInt - y.toInt)) % 4294967296 = 0 := h ▸ c_isub x y
theorem Wk.eqI {x y : Int32} (h : x.toInt = y.toInt) : x = y := Int32.toInt_inj.mp h
theorem Wk.ltI {x y : Int32} : x < y ↔ x.toInt < y.toInt := Int32.lt_iff_toInt_lt
theorem Wk.nn {x : Int32} (h : 0 ≤ x.toInt) : ¬ x < 0 := by
  have e0 : (0 : Int32).toInt = 0 := by decide
  rw [Wk.ltI]; omega
theorem Wk.ofNat {x : Int32} (h : 0 ≤ x.toInt) : x = Int32.ofNat x.toNatClampNeg := ((back32 (Wk.nn h)).1).symm
theorem Wk.nat32 {n : Nat} (h : n ≤ 4000) : (Int32.ofNat n).toInt = n ∧ (Int32.ofNat n).toNatClampNeg = n := ⟨Int32.toInt_ofNat_of_lt (by omega), Int32.toNatClampNeg_ofNat_of_lt (by omega)⟩
theorem Wk.succ32 {n : Nat} (h : n < 4000) : Int32.ofNat n + Int32.ofInt 1 = Int32.ofNat (n + 1) := by
  have a := c_iadd (Int32.ofNat n) 1
  have b := rng32 (Int32.ofNat n + 1)
  have c1 : (1 : Int32).toInt = 1 := by decide
  have c2 := (Wk.nat32 (n := n) (by omega)).1
  have c3 := (Wk.nat32 (n := n + 1) (by omega)).1
  exact Wk.eqI (by show (Int32.ofNat n + 1).toInt = _; omega)
theorem Wk.lt32 {a b : Nat} (ha : a ≤ 4000) (hb : b ≤ 4000) : Int32.ofNat a < Int32.ofNat b ↔ a < b := by rw [Wk.ltI, (Wk.nat32 ha).1, (Wk.nat32 hb).1]; omega
theorem Wk.eq32 {a b : Nat} (ha : a ≤ 4000) (hb : b ≤ 4000) : Int32.ofNat a = Int32.ofNat b ↔ a = b := by
  constructor
  · intro h; have q := congrArg Int32.toInt h; rw [(Wk.nat32 ha).1, (Wk.nat32 hb).1] at q; omega
  · rintro rfl; rfl
theorem Wk.sub32 {a b : Nat} {v : Int32} (h : b ≤ a) (ha : a ≤ 4000) (hv : Int32.ofNat a - Int32.ofNat b = v) : v = Int32.ofNat (a - b) := by
  have q := Wk.subI hv
  have r := rng32 v
  rw [(Wk.nat32 ha).1, (Wk.nat32 (n := b) (by omega)).1] at q
  exact Wk.eqI (by rw [(Wk.nat32 (n := a - b) (by omega)).1]; omega)
theorem Wk.add32 {a b : Nat} {v : Int32} (h : a + b ≤ 4000) (hv : Int32.ofNat a + Int32.ofNat b = v) : v = Int32.ofNat (a + b) := by
  have q := Wk.addI hv
  have r := rng32 v
  rw [(Wk.nat32 (n := a) (by omega)).1, (Wk.nat32 (n := b) (by omega)).1] at q
  exact Wk.eqI (by rw [(Wk.nat32 (n := a + b) (by omega)).1]; omega)
theorem Wk.dec32 {a : Nat} {v : Int32} (ha : a < 4000) (hv : Int32.ofNat (a + 1) + Int32.ofInt (-1) = v) : v = Int32.ofNat a := by
  have q := Wk.addI hv
  have r := rng32 v
  have c : (Int32.ofInt (-1)).toInt = -1 := by decide
  rw [(Wk.nat32 (n := a + 1) (by omega)).1, c] at q
  exact Wk.eqI (by rw [(Wk.nat32 (n := a) (by omega)).1]; omega)
theorem Wk.nn32 {a : Nat} (ha : a ≤ 4000) : ¬ Int32.ofNat a < 0 := Wk.nn (by rw [(Wk.nat32 ha).1]; omega)
abbrev StN : String := "java/lang/String"
abbrev PcN : String := "jdk/internal/util/Preconditions"
/-- null, or a String -/
def SN (Z : State) (h : Heap) (v : Value) : Prop := v = .null ∨ ∃ x, v = .ref x ∧ Exa Z h x StN
theorem SN.ext {Z : State} {h h' : Heap} {v : Value} (F : SN Z h v) (E : Ext h h') : SN Z h' v := F.imp id fun ⟨x, e, A⟩ => ⟨x, e, A.ext E⟩
theorem SN.wr {Z : State} {h h' : Heap} {v u : Value} {b : Addr} {sl : Nat} (F : SN Z h v) (W : Wr h h' b sl u) : SN Z h' v := F.imp id fun ⟨x, e, A⟩ => ⟨x, e, A.wr W⟩
theorem SN.keep {Z : State} {h h' : Heap} {v : Value} {ws : List Addr} (F : SN Z h v) (K : Keep h h' ws) : SN Z h' v := F.imp id fun ⟨x, e, A⟩ => ⟨x, e, A.keep K⟩
theorem SN.ref {Z : State} {h : Heap} {v : Value} (F : SN Z h v) : v.isRef = true := by rcases F with rfl | ⟨x, rfl, -⟩ <;> rfl
/-- the named sets of the JDK's statics, at the start -/
def Sets (Z : State) : Prop := ∃ (z : Int32) (fm : Value), Sta Z Z.heap StN "COMPACT_STRINGS" "Z" (.int z) ∧ ¬ z = 0 ∧ Sta Z Z.heap PcN "SIOOBE_FORMATTER" "Ljava/util/function/BiFunction;" fm ∧ fm.isRef = true
theorem w0 {a0 : Array Value} {Z : State} (hw : Ws a0 Z) : (Jvm.Cond.methodLink "com/example/shelfmark/shelfmark/model/MarcRecordWithoutOuterSpacesPinLaw" (7 : Nat) ({ cls := "com/example/shelfmark/shelfmark/model/MarcRecordWithoutOuterSpacesPinLaw", name := "draw", desc := "(I)C" } : Jvm.MethodName)).before a0 Z = true := hw _ (List.mem_of_getElem? (i := 0) rfl)
theorem w1 {a0 : Array Value} {Z : State} (hw : Ws a0 Z) : (Jvm.Cond.static ({ cls := "com/example/shelfmark/shelfmark/model/MarcRecordWithoutOuterSpacesPinLaw", name := "draw", desc := "(I)C" } : Jvm.MethodName)).before a0 Z = true := hw _ (List.mem_of_getElem? (i := 1) rfl)
theorem w2 {a0 : Array Value} {Z : State} (hw : Ws a0 Z) : (Jvm.Cond.initialized "com/example/shelfmark/shelfmark/model/MarcRecordWithoutOuterSpacesPinLaw").before a0 Z = true := hw _ (List.mem_of_getElem? (i := 2) rfl)
theorem w3 {a0 : Array Value} {Z : State} (hw : Ws a0 Z) : (Jvm.Cond.code ({ cls := "com/example/shelfmark/shelfmark/model/MarcRecordWithoutOuterSpacesPinLaw", name := "draw", desc := "(I)C" } : Jvm.MethodName) method_2_code (1 : Nat) (Option.some Jvm.ClassFile.FieldType.char)).before a0 Z = true := hw _ (List.mem_of_getElem? (i := 3) rfl)
theorem w4 {a0 : Array Value} {Z : State} (hw : Ws a0 Z) : (Jvm.Cond.arrayClass Jvm.ClassFile.FieldType.char).before a0 Z = true := hw _ (List.mem_of_getElem? (i := 4) rfl)
theorem w5 {a0 : Array Value} {Z : State} (hw : Ws a0 Z) : (Jvm.Cond.classLink "com/example/shelfmark/shelfmark/model/MarcRecordWithoutOuterSpacesPinLaw" (17 : Nat) "java/lang/String").before a0 Z = true := hw _ (List.mem_of_getElem? (i := 5) rfl)
theorem w6 {a0 : Array Value} {Z : State} (hw : Ws a0 Z) : (Jvm.Cond.instantiable "java/lang/String" (4 : Nat)).before a0 Z = true := hw _ (List.mem_of_getElem? (i := 6) rfl)
theorem w7 {a0 : Array Value} {Z : State} (hw : Ws a0 Z) : (Jvm.Cond.initialized "java/lang/String").before a0 Z = true := hw _ (List.mem_of_getElem? (i := 7) rfl)
theorem w8 {a0 : Array Value} {Z : State} (hw : Ws a0 Z) : (Jvm.Cond.methodLink "com/example/shelfmark/shelfmark/model/MarcRecordWithoutOuterSpacesPinLaw" (19 : Nat) ({ cls := "java/lang/String", name := "<init>", desc := "([C)V" } : Jvm.MethodName)).before a0 Z = true := hw _ (List.mem_of_getElem? (i := 8) rfl)
theorem w9 {a0 : Array Value} {Z : State} (hw : Ws a0 Z) : (Jvm.Cond.instanceMethod ({ cls := "java/lang/String", name := "<init>", desc := "([C)V" } : Jvm.MethodName)).before a0 Z = true := hw _ (List.mem_of_getElem? (i := 9) rfl)
theorem w10 {a0 : Array Value} {Z : State} (hw : Ws a0 Z) : (Jvm.Cond.code ({ cls := "java/lang/String", name := "<init>", desc := "([C)V" } : Jvm.MethodName) jdk_42_method_3_code (2 : Nat) (Option.none : Option Jvm.ClassFile.FieldType)).before a0 Z = true := hw _ (List.mem_of_getElem? (i := 10) rfl)
theorem w11 {a0 : Array Value} {Z : State} (hw : Ws a0 Z) : (Jvm.Cond.methodLink "java/lang/String" (27 : Nat) ({ cls := "java/lang/String", name := "<init>", desc := "([CIILjava/lang/Void;)V" } : Jvm.MethodName)).before a0 Z = true := hw _ (List.mem_of_getElem? (i := 11) rfl)
theorem w12 {a0 : Array Value} {Z : State} (hw : Ws a0 Z) : (Jvm.Cond.instanceMethod ({ cls := "java/lang/String", name := "<init>", desc := "([CIILjava/lang/Void;)V" } : Jvm.MethodName)).before a0 Z = true := hw _ (List.mem_of_getElem? (i := 12) rfl)
theorem w14 {a0 : Array Value} {Z : State} (hw : Ws a0 Z) : (Jvm.Cond.code ({ cls := "java/lang/String", name := "<init>", desc := "([CIILjava/lang/Void;)V" } : Jvm.MethodName) jdk_42_method_149_code (6 : Nat) (Option.none : Option Jvm.ClassFile.FieldType)).before a0 Z = true := hw _ (List.mem_of_getElem? (i := 14) rfl)
theorem w15 {a0 : Array Value} {Z : State} (hw : Ws a0 Z) : (Jvm.Cond.methodLink "java/lang/String" (1 : Nat) ({ cls := "java/lang/Object", name := "<init>", desc := "()V" } : Jvm.MethodName)).before a0 Z = true := hw _ (List.mem_of_getElem? (i := 15) rfl)
theorem w16 {a0 : Array Value} {Z : State} (hw : Ws a0 Z) : (Jvm.Cond.instanceMethod ({ cls := "java/lang/Object", name := "<init>", desc := "()V" } : Jvm.MethodName)).before a0 Z = true := hw _ (List.mem_of_getElem? (i := 16) rfl)
theorem w17 {a0 : Array Value} {Z : State} (hw : Ws a0 Z) : (Jvm.Cond.code ({ cls := "java/lang/Object", name := "<init>", desc := "()V" } : Jvm.MethodName) object_method_1_code (1 : Nat) (Option.none : Option Jvm.ClassFile.FieldType)).before a0 Z = true := hw _ (List.mem_of_getElem? (i := 17) rfl)
theorem w18 {a0 : Array Value} {Z : State} (hw : Ws a0 Z) : (Jvm.Cond.stringLink "java/lang/String" (7 : Nat) "").before a0 Z = true := hw _ (List.mem_of_getElem? (i := 18) rfl)
theorem w19 {a0 : Array Value} {Z : State} (hw : Ws a0 Z) : (Jvm.Cond.arrayClass Jvm.ClassFile.FieldType.byte).before a0 Z = true := hw _ (List.mem_of_getElem? (i := 19) rfl)
theorem w20 {a0 : Array Value} {Z : State} (hw : Ws a0 Z) : (Jvm.Cond.laysFinal "java/lang/String" "java/lang/String" "value" "[B").before a0 Z = true := hw _ (List.mem_of_getElem? (i := 20) rfl)
theorem w21 {a0 : Array Value} {Z : State} (hw : Ws a0 Z) : (Jvm.Cond.laysFinal "java/lang/String" "java/lang/String" "coder" "B").before a0 Z = true := hw _ (List.mem_of_getElem? (i := 21) rfl)
theorem w22 {a0 : Array Value} {Z : State} (hw : Ws a0 Z) : (Jvm.Cond.soleField "java/lang/String" "value").before a0 Z = true := hw _ (List.mem_of_getElem? (i := 22) rfl)
theorem w23 {a0 : Array Value} {Z : State} (hw : Ws a0 Z) : (Jvm.Cond.soleField "java/lang/String" "coder").before a0 Z = true := hw _ (List.mem_of_getElem? (i := 23) rfl)
theorem w24 {a0 : Array Value} {Z : State} (hw : Ws a0 Z) : (Jvm.Cond.fieldLink "java/lang/String" (9 : Nat) "java/lang/String" "value" "[B").before a0 Z = true := hw _ (List.mem_of_getElem? (i := 24) rfl)
theorem w25 {a0 : Array Value} {Z : State} (hw : Ws a0 Z) : (Jvm.Cond.fieldLink "java/lang/String" (15 : Nat) "java/lang/String" "coder" "B").before a0 Z = true := hw _ (List.mem_of_getElem? (i := 25) rfl)
theorem w26 {a0 : Array Value} {Z : State} (hw : Ws a0 Z) : (Jvm.Cond.methodLink "com/example/shelfmark/shelfmark/model/MarcRecordWithoutOuterSpacesPinLaw" (22 : Nat) ({ cls := "com/example/shelfmark/shelfmark/model/MarcRecord", name := "withoutOuterSpaces", desc := "(Ljava/lang/String;)Ljava/lang/String;" } : Jvm.MethodName)).before a0 Z = true := hw _ (List.mem_of_getElem? (i := 26) rfl)
theorem w27 {a0 : Array Value} {Z : State} (hw : Ws a0 Z) : (Jvm.Cond.static ({ cls := "com/example/shelfmark/shelfmark/model/MarcRecord", name := "withoutOuterSpaces", desc := "(Ljava/lang/String;)Ljava/lang/String;" } : Jvm.MethodName)).before a0 Z = true := hw _ (List.mem_of_getElem? (i := 27) rfl)
theorem w28 {a0 : Array Value} {Z : State} (hw : Ws a0 Z) : (Jvm.Cond.initialized "com/example/shelfmark/shelfmark/model/MarcRecord").before a0 Z = true := hw _ (List.mem_of_getElem? (i := 28) rfl)
theorem w29 {a0 : Array Value} {Z : State} (hw : Ws a0 Z) : (Jvm.Cond.code ({ cls := "com/example/shelfmark/shelfmark/model/MarcRecord", name := "withoutOuterSpaces", desc := "(Ljava/lang/String;)Ljava/lang/String;" } : Jvm.MethodName) prog_36_method_11_code (3 : Nat) (Option.some (Jvm.ClassFile.FieldType.object "java/lang/String"))).before a0 Z = true := hw _ (List.mem_of_getElem? (i := 29) rfl)
theorem w30 {a0 : Array Value} {Z : State} (hw : Ws a0 Z) : (Jvm.Cond.methodLink "com/example/shelfmark/shelfmark/model/MarcRecord" (101 : Nat) ({ cls := "java/lang/String", name := "length", desc := "()I" } : Jvm.MethodName)).before a0 Z = true := hw _ (List.mem_of_getElem? (i := 30) rfl)
theorem w31 {a0 : Array Value} {Z : State} (hw : Ws a0 Z) : (Jvm.Cond.declares ({ cls := "java/lang/String", name := "length", desc := "()I" } : Jvm.MethodName)).before a0 Z = true := hw _ (List.mem_of_getElem? (i := 31) rfl)
theorem w32 {a0 : Array Value} {Z : State} (hw : Ws a0 Z) : (Jvm.Cond.instanceMethod ({ cls := "java/lang/String", name := "length", desc := "()I" } : Jvm.MethodName)).before a0 Z = true := hw _ (List.mem_of_getElem? (i := 32) rfl)
theorem w33 {a0 : Array Value} {Z : State} (hw : Ws a0 Z) : (Jvm.Cond.selects "java/lang/String" ({ cls := "java/lang/String", name := "length", desc := "()I" } : Jvm.MethodName) ({ cls := "java/lang/String", name := "length", desc := "()I" } : Jvm.MethodName)).before a0 Z = true := hw _ (List.mem_of_getElem? (i := 33) rfl)
theorem w40 {a0 : Array Value} {Z : State} (hw : Ws a0 Z) : (Jvm.Cond.fieldLink "java/lang/String" (38 : Nat) "java/lang/String" "COMPACT_STRINGS" "Z").before a0 Z = true := hw _ (List.mem_of_getElem? (i := 40) rfl)
theorem w41 {a0 : Array Value} {Z : State} (hw : Ws a0 Z) : (Jvm.Cond.methodLink "com/example/shelfmark/shelfmark/model/MarcRecord" (115 : Nat) ({ cls := "java/lang/String", name := "substring", desc := "(II)Ljava/lang/String;" } : Jvm.MethodName)).before a0 Z = true := hw _ (List.mem_of_getElem? (i := 41) rfl)
theorem w42 {a0 : Array Value} {Z : State} (hw : Ws a0 Z) : (Jvm.Cond.declares ({ cls := "java/lang/String", name := "substring", desc := "(II)Ljava/lang/String;" } : Jvm.MethodName)).before a0 Z = true := hw _ (List.mem_of_getElem? (i := 42) rfl)
theorem w43 {a0 : Array Value} {Z : State} (hw : Ws a0 Z) : (Jvm.Cond.instanceMethod ({ cls := "java/lang/String", name := "substring", desc := "(II)Ljava/lang/String;" } : Jvm.MethodName)).before a0 Z = true := hw _ (List.mem_of_getElem? (i := 43) rfl)
theorem w44 {a0 : Array Value} {Z : State} (hw : Ws a0 Z) : (Jvm.Cond.selects "java/lang/String" ({ cls := "java/lang/String", name := "substring", desc := "(II)Ljava/lang/String;" } : Jvm.MethodName) ({ cls := "java/lang/String", name := "substring", desc := "(II)Ljava/lang/String;" } : Jvm.MethodName)).before a0 Z = true := hw _ (List.mem_of_getElem? (i := 44) rfl)
theorem w45 {a0 : Array Value} {Z : State} (hw : Ws a0 Z) : (Jvm.Cond.code ({ cls := "java/lang/String", name := "substring", desc := "(II)Ljava/lang/String;" } : Jvm.MethodName) jdk_42_method_92_code (5 : Nat) (Option.some (Jvm.ClassFile.FieldType.object "java/lang/String"))).before a0 Z = true := hw _ (List.mem_of_getElem? (i := 45) rfl)
theorem w46 {a0 : Array Value} {Z : State} (hw : Ws a0 Z) : (Jvm.Cond.methodLink "java/lang/String" (505 : Nat) ({ cls := "java/lang/String", name := "length", desc := "()I" } : Jvm.MethodName)).before a0 Z = true := hw _ (List.mem_of_getElem? (i := 46) rfl)
theorem w47 {a0 : Array Value} {Z : State} (hw : Ws a0 Z) : (Jvm.Cond.methodLink "java/lang/String" (521 : Nat) ({ cls := "java/lang/String", name := "checkBoundsBeginEnd", desc := "(III)V" } : Jvm.MethodName)).before a0 Z = true := hw _ (List.mem_of_getElem? (i := 47) rfl)
theorem w48 {a0 : Array Value} {Z : State} (hw : Ws a0 Z) : (Jvm.Cond.static ({ cls := "java/lang/String", name := "checkBoundsBeginEnd", desc := "(III)V" } : Jvm.MethodName)).before a0 Z = true := hw _ (List.mem_of_getElem? (i := 48) rfl)
theorem w49 {a0 : Array Value} {Z : State} (hw : Ws a0 Z) : (Jvm.Cond.code ({ cls := "java/lang/String", name := "checkBoundsBeginEnd", desc := "(III)V" } : Jvm.MethodName) jdk_42_method_158_code (3 : Nat) (Option.none : Option Jvm.ClassFile.FieldType)).before a0 Z = true := hw _ (List.mem_of_getElem? (i := 49) rfl)
theorem w50 {a0 : Array Value} {Z : State} (hw : Ws a0 Z) : (Jvm.Cond.fieldLink "java/lang/String" (1053 : Nat) "jdk/internal/util/Preconditions" "SIOOBE_FORMATTER" "Ljava/util/function/BiFunction;").before a0 Z = true := hw _ (List.mem_of_getElem? (i := 50) rfl)
theorem w51 {a0 : Array Value} {Z : State} (hw : Ws a0 Z) : (Jvm.Cond.initialized "jdk/internal/util/Preconditions").before a0 Z = true := hw _ (List.mem_of_getElem? (i := 51) rfl)
theorem w52 {a0 : Array Value} {Z : State} (hw : Ws a0 Z) : (Jvm.Cond.methodLink "java/lang/String" (1062 : Nat) ({ cls := "jdk/internal/util/Preconditions", name := "checkFromToIndex", desc := "(IIILjava/util/function/BiFunction;)I" } : Jvm.MethodName)).before a0 Z = true := hw _ (List.mem_of_getElem? (i := 52) rfl)
theorem w53 {a0 : Array Value} {Z : State} (hw : Ws a0 Z) : (Jvm.Cond.static ({ cls := "jdk/internal/util/Preconditions", name := "checkFromToIndex", desc := "(IIILjava/util/function/BiFunction;)I" } : Jvm.MethodName)).before a0 Z = true := hw _ (List.mem_of_getElem? (i := 53) rfl)
theorem w54 {a0 : Array Value} {Z : State} (hw : Ws a0 Z) : (Jvm.Cond.code ({ cls := "jdk/internal/util/Preconditions", name := "checkFromToIndex", desc := "(IIILjava/util/function/BiFunction;)I" } : Jvm.MethodName) jdk_41_method_12_code (4 : Nat) (Option.some Jvm.ClassFile.FieldType.int)).before a0 Z = true := hw _ (List.mem_of_getElem? (i := 54) rfl)
theorem w55 {a0 : Array Value} {Z : State} (hw : Ws a0 Z) : (Jvm.Cond.methodLink "com/example/shelfmark/shelfmark/model/MarcRecordWithoutOuterSpacesPinLaw" (28 : Nat) ({ cls := "java/lang/String", name := "length", desc := "()I" } : Jvm.MethodName)).before a0 Z = true := hw _ (List.mem_of_getElem? (i := 55) rfl)
theorem w56 {a0 : Array Value} {Z : State} (hw : Ws a0 Z) : (Jvm.Cond.methodLink "com/example/shelfmark/shelfmark/model/MarcRecordWithoutOuterSpacesPinLaw" (13 : Nat) ({ cls := "com/example/shelfmark/shelfmark/model/MarcRecordWithoutOuterSpacesPinLaw", name := "sp", desc := "(C)Z" } : Jvm.MethodName)).before a0 Z = true := hw _ (List.mem_of_getElem? (i := 56) rfl)
theorem w57 {a0 : Array Value} {Z : State} (hw : Ws a0 Z) : (Jvm.Cond.static ({ cls := "com/example/shelfmark/shelfmark/model/MarcRecordWithoutOuterSpacesPinLaw", name := "sp", desc := "(C)Z" } : Jvm.MethodName)).before a0 Z = true := hw _ (List.mem_of_getElem? (i := 57) rfl)
theorem w58 {a0 : Array Value} {Z : State} (hw : Ws a0 Z) : (Jvm.Cond.code ({ cls := "com/example/shelfmark/shelfmark/model/MarcRecordWithoutOuterSpacesPinLaw", name := "sp", desc := "(C)Z" } : Jvm.MethodName) method_3_code (1 : Nat) (Option.some Jvm.ClassFile.FieldType.boolean)).before a0 Z = true := hw _ (List.mem_of_getElem? (i := 58) rfl)
theorem w69 {a0 : Array Value} {Z : State} (hw : Ws a0 Z) : (Jvm.Cond.methodLink "com/example/shelfmark/shelfmark/model/MarcRecord" (105 : Nat) ({ cls := "java/lang/String", name := "charAt", desc := "(I)C" } : Jvm.MethodName)).before a0 Z = true := hw _ (List.mem_of_getElem? (i := 69) rfl)
theorem w70 {a0 : Array Value} {Z : State} (hw : Ws a0 Z) : (Jvm.Cond.declares ({ cls := "java/lang/String", name := "charAt", desc := "(I)C" } : Jvm.MethodName)).before a0 Z = true := hw _ (List.mem_of_getElem? (i := 70) rfl)
theorem w71 {a0 : Array Value} {Z : State} (hw : Ws a0 Z) : (Jvm.Cond.instanceMethod ({ cls := "java/lang/String", name := "charAt", desc := "(I)C" } : Jvm.MethodName)).before a0 Z = true := hw _ (List.mem_of_getElem? (i := 71) rfl)
theorem w72 {a0 : Array Value} {Z : State} (hw : Ws a0 Z) : (Jvm.Cond.selects "java/lang/String" ({ cls := "java/lang/String", name := "charAt", desc := "(I)C" } : Jvm.MethodName) ({ cls := "java/lang/String", name := "charAt", desc := "(I)C" } : Jvm.MethodName)).before a0 Z = true := hw _ (List.mem_of_getElem? (i := 72) rfl)
theorem w74 {a0 : Array Value} {Z : State} (hw : Ws a0 Z) : (Jvm.Cond.methodLink "java/lang/String" (492 : Nat) ({ cls := "java/lang/String", name := "isLatin1", desc := "()Z" } : Jvm.MethodName)).before a0 Z = true := hw _ (List.mem_of_getElem? (i := 74) rfl)
theorem w75 {a0 : Array Value} {Z : State} (hw : Ws a0 Z) : (Jvm.Cond.declares ({ cls := "java/lang/String", name := "isLatin1", desc := "()Z" } : Jvm.MethodName)).before a0 Z = true := hw _ (List.mem_of_getElem? (i := 75) rfl)
theorem w76 {a0 : Array Value} {Z : State} (hw : Ws a0 Z) : (Jvm.Cond.instanceMethod ({ cls := "java/lang/String", name := "isLatin1", desc := "()Z" } : Jvm.MethodName)).before a0 Z = true := hw _ (List.mem_of_getElem? (i := 76) rfl)
theorem w77 {a0 : Array Value} {Z : State} (hw : Ws a0 Z) : (Jvm.Cond.selects "java/lang/String" ({ cls := "java/lang/String", name := "isLatin1", desc := "()Z" } : Jvm.MethodName) ({ cls := "java/lang/String", name := "isLatin1", desc := "()Z" } : Jvm.MethodName)).before a0 Z = true := hw _ (List.mem_of_getElem? (i := 77) rfl)
theorem w78 {a0 : Array Value} {Z : State} (hw : Ws a0 Z) : (Jvm.Cond.code ({ cls := "java/lang/String", name := "isLatin1", desc := "()Z" } : Jvm.MethodName) jdk_42_method_154_code (1 : Nat) (Option.some Jvm.ClassFile.FieldType.boolean)).before a0 Z = true := hw _ (List.mem_of_getElem? (i := 78) rfl)
theorem w81 {a0 : Array Value} {Z : State} (hw : Ws a0 Z) : (Jvm.Cond.initialized "java/lang/StringLatin1").before a0 Z = true := hw _ (List.mem_of_getElem? (i := 81) rfl)
theorem w89 {a0 : Array Value} {Z : State} (hw : Ws a0 Z) : (Jvm.Cond.methodLink "java/lang/String" (685 : Nat) ({ cls := "java/lang/StringLatin1", name := "newString", desc := "([BII)Ljava/lang/String;" } : Jvm.MethodName)).before a0 Z = true := hw _ (List.mem_of_getElem? (i := 89) rfl)
theorem w90 {a0 : Array Value} {Z : State} (hw : Ws a0 Z) : (Jvm.Cond.static ({ cls := "java/lang/StringLatin1", name := "newString", desc := "([BII)Ljava/lang/String;" } : Jvm.MethodName)).before a0 Z = true := hw _ (List.mem_of_getElem? (i := 90) rfl)
theorem w91 {a0 : Array Value} {Z : State} (hw : Ws a0 Z) : (Jvm.Cond.code ({ cls := "java/lang/StringLatin1", name := "newString", desc := "([BII)Ljava/lang/String;" } : Jvm.MethodName) jdk_43_method_47_code (3 : Nat) (Option.some (Jvm.ClassFile.FieldType.object "java/lang/String"))).before a0 Z = true := hw _ (List.mem_of_getElem? (i := 91) rfl)
theorem w92 {a0 : Array Value} {Z : State} (hw : Ws a0 Z) : (Jvm.Cond.classLink "java/lang/StringLatin1" (1 : Nat) "java/lang/String").before a0 Z = true := hw _ (List.mem_of_getElem? (i := 92) rfl)
theorem w93 {a0 : Array Value} {Z : State} (hw : Ws a0 Z) : (Jvm.Cond.methodLink "java/lang/StringLatin1" (232 : Nat) ({ cls := "java/util/Arrays", name := "copyOfRange", desc := "([BII)[B" } : Jvm.MethodName)).before a0 Z = true := hw _ (List.mem_of_getElem? (i := 93) rfl)
theorem w94 {a0 : Array Value} {Z : State} (hw : Ws a0 Z) : (Jvm.Cond.static ({ cls := "java/util/Arrays", name := "copyOfRange", desc := "([BII)[B" } : Jvm.MethodName)).before a0 Z = true := hw _ (List.mem_of_getElem? (i := 94) rfl)
theorem w95 {a0 : Array Value} {Z : State} (hw : Ws a0 Z) : (Jvm.Cond.initialized "java/util/Arrays").before a0 Z = true := hw _ (List.mem_of_getElem? (i := 95) rfl)
theorem w96 {a0 : Array Value} {Z : State} (hw : Ws a0 Z) : (Jvm.Cond.code ({ cls := "java/util/Arrays", name := "copyOfRange", desc := "([BII)[B" } : Jvm.MethodName) jdk_65_method_132_code (3 : Nat) (Option.some (Jvm.ClassFile.FieldType.array Jvm.ClassFile.FieldType.byte))).before a0 Z = true := hw _ (List.mem_of_getElem? (i := 96) rfl)
theorem w97 {a0 : Array Value} {Z : State} (hw : Ws a0 Z) : (Jvm.Cond.methodLink "java/util/Arrays" (339 : Nat) ({ cls := "java/util/Arrays", name := "copyOfRangeByte", desc := "([BII)[B" } : Jvm.MethodName)).before a0 Z = true := hw _ (List.mem_of_getElem? (i := 97) rfl)
theorem w98 {a0 : Array Value} {Z : State} (hw : Ws a0 Z) : (Jvm.Cond.static ({ cls := "java/util/Arrays", name := "copyOfRangeByte", desc := "([BII)[B" } : Jvm.MethodName)).before a0 Z = true := hw _ (List.mem_of_getElem? (i := 98) rfl)
theorem w99 {a0 : Array Value} {Z : State} (hw : Ws a0 Z) : (Jvm.Cond.code ({ cls := "java/util/Arrays", name := "copyOfRangeByte", desc := "([BII)[B" } : Jvm.MethodName) jdk_65_method_133_code (5 : Nat) (Option.some (Jvm.ClassFile.FieldType.array Jvm.ClassFile.FieldType.byte))).before a0 Z = true := hw _ (List.mem_of_getElem? (i := 99) rfl)
theorem w100 {a0 : Array Value} {Z : State} (hw : Ws a0 Z) : (Jvm.Cond.methodLink "java/util/Arrays" (343 : Nat) ({ cls := "java/util/Arrays", name := "checkLength", desc := "(II)V" } : Jvm.MethodName)).before a0 Z = true := hw _ (List.mem_of_getElem? (i := 100) rfl)
theorem w101 {a0 : Array Value} {Z : State} (hw : Ws a0 Z) : (Jvm.Cond.static ({ cls := "java/util/Arrays", name := "checkLength", desc := "(II)V" } : Jvm.MethodName)).before a0 Z = true := hw _ (List.mem_of_getElem? (i := 101) rfl)
theorem w102 {a0 : Array Value} {Z : State} (hw : Ws a0 Z) : (Jvm.Cond.code ({ cls := "java/util/Arrays", name := "checkLength", desc := "(II)V" } : Jvm.MethodName) jdk_65_method_131_code (2 : Nat) (Option.none : Option Jvm.ClassFile.FieldType)).before a0 Z = true := hw _ (List.mem_of_getElem? (i := 102) rfl)
theorem w103 {a0 : Array Value} {Z : State} (hw : Ws a0 Z) : (Jvm.Cond.methodLink "java/util/Arrays" (304 : Nat) ({ cls := "java/lang/Math", name := "min", desc := "(II)I" } : Jvm.MethodName)).before a0 Z = true := hw _ (List.mem_of_getElem? (i := 103) rfl)
theorem w104 {a0 : Array Value} {Z : State} (hw : Ws a0 Z) : (Jvm.Cond.static ({ cls := "java/lang/Math", name := "min", desc := "(II)I" } : Jvm.MethodName)).before a0 Z = true := hw _ (List.mem_of_getElem? (i := 104) rfl)
theorem w105 {a0 : Array Value} {Z : State} (hw : Ws a0 Z) : (Jvm.Cond.initialized "java/lang/Math").before a0 Z = true := hw _ (List.mem_of_getElem? (i := 105) rfl)
theorem w106 {a0 : Array Value} {Z : State} (hw : Ws a0 Z) : (Jvm.Cond.code ({ cls := "java/lang/Math", name := "min", desc := "(II)I" } : Jvm.MethodName) jdk_29_method_69_code (2 : Nat) (Option.some Jvm.ClassFile.FieldType.int)).before a0 Z = true := hw _ (List.mem_of_getElem? (i := 106) rfl)
theorem w107 {a0 : Array Value} {Z : State} (hw : Ws a0 Z) : (Jvm.Cond.methodLink "java/util/Arrays" (150 : Nat) ({ cls := "java/lang/System", name := "arraycopy", desc := "(Ljava/lang/Object;ILjava/lang/Object;II)V" } : Jvm.MethodName)).before a0 Z = true := hw _ (List.mem_of_getElem? (i := 107) rfl)
theorem w108 {a0 : Array Value} {Z : State} (hw : Ws a0 Z) : (Jvm.Cond.static ({ cls := "java/lang/System", name := "arraycopy", desc := "(Ljava/lang/Object;ILjava/lang/Object;II)V" } : Jvm.MethodName)).before a0 Z = true := hw _ (List.mem_of_getElem? (i := 108) rfl)
theorem w109 {a0 : Array Value} {Z : State} (hw : Ws a0 Z) : (Jvm.Cond.initialized "java/lang/System").before a0 Z = true := hw _ (List.mem_of_getElem? (i := 109) rfl)
theorem w110 {a0 : Array Value} {Z : State} (hw : Ws a0 Z) : (Jvm.Cond.native ({ cls := "java/lang/System", name := "arraycopy", desc := "(Ljava/lang/Object;ILjava/lang/Object;II)V" } : Jvm.MethodName)).before a0 Z = true := hw _ (List.mem_of_getElem? (i := 110) rfl)
theorem w111 {a0 : Array Value} {Z : State} (hw : Ws a0 Z) : (Jvm.Cond.methodLink "java/lang/StringLatin1" (112 : Nat) ({ cls := "java/lang/String", name := "<init>", desc := "([BB)V" } : Jvm.MethodName)).before a0 Z = true := hw _ (List.mem_of_getElem? (i := 111) rfl)
theorem w112 {a0 : Array Value} {Z : State} (hw : Ws a0 Z) : (Jvm.Cond.instanceMethod ({ cls := "java/lang/String", name := "<init>", desc := "([BB)V" } : Jvm.MethodName)).before a0 Z = true := hw _ (List.mem_of_getElem? (i := 112) rfl)
theorem w113 {a0 : Array Value} {Z : State} (hw : Ws a0 Z) : (Jvm.Cond.code ({ cls := "java/lang/String", name := "<init>", desc := "([BB)V" } : Jvm.MethodName) jdk_42_method_151_code (3 : Nat) (Option.none : Option Jvm.ClassFile.FieldType)).before a0 Z = true := hw _ (List.mem_of_getElem? (i := 113) rfl)
theorem w114 {a0 : Array Value} {Z : State} (hw : Ws a0 Z) : (Jvm.Cond.methodLink "com/example/shelfmark/shelfmark/model/MarcRecordWithoutOuterSpacesPinLaw" (32 : Nat) ({ cls := "java/lang/String", name := "charAt", desc := "(I)C" } : Jvm.MethodName)).before a0 Z = true := hw _ (List.mem_of_getElem? (i := 114) rfl)
theorem w115 {a0 : Array Value} {Z : State} (hw : Ws a0 Z) : (Jvm.Cond.stringLink "java/lang/StringLatin1" (151 : Nat) "").before a0 Z = true := hw _ (List.mem_of_getElem? (i := 115) rfl)
theorem d_method_2_0 : decode method_2_code 0 = .ok (.iload_n 0, 1) := by decide +kernel
theorem d_method_2_1 : decode method_2_code 1 = .ok (.iconst 1, 1) := by decide +kernel
theorem d_method_2_2 : decode method_2_code 2 = .ok (.iand, 1) := by decide +kernel
theorem d_method_2_3 : decode method_2_code 3 = .ok (.ifCond .eq 8, 3) := by decide +kernel
theorem d_method_2_11 : decode method_2_code 11 = .ok (.iload_n 0, 1) := by decide +kernel
theorem d_method_2_12 : decode method_2_code 12 = .ok (.iconst 1, 1) := by decide +kernel
theorem d_method_2_13 : decode method_2_code 13 = .ok (.iushr, 1) := by decide +kernel
theorem d_method_2_14 : decode method_2_code 14 = .ok (.sipush 255, 3) := by decide +kernel
theorem d_method_2_17 : decode method_2_code 17 = .ok (.iand, 1) := by decide +kernel
theorem d_method_2_18 : decode method_2_code 18 = .ok (.i2c, 1) := by decide +kernel
theorem d_method_2_19 : decode method_2_code 19 = .ok (.ireturn, 1) := by decide +kernel
theorem d_method_2_6 : decode method_2_code 6 = .ok (.bipush 32, 2) := by decide +kernel
theorem d_method_2_8 : decode method_2_code 8 = .ok (.goto 11, 3) := by decide +kernel
theorem d_method_3_0 : decode method_3_code 0 = .ok (.iload_n 0, 1) := by decide +kernel
theorem d_method_3_1 : decode method_3_code 1 = .ok (.bipush 32, 2) := by decide +kernel
theorem d_method_3_3 : decode method_3_code 3 = .ok (.if_icmp .ne 7, 3) := by decide +kernel
theorem d_method_3_10 : decode method_3_code 10 = .ok (.iconst 0, 1) := by decide +kernel
theorem d_method_3_11 : decode method_3_code 11 = .ok (.ireturn, 1) := by decide +kernel
theorem d_method_3_6 : decode method_3_code 6 = .ok (.iconst 1, 1) := by decide +kernel
theorem d_method_3_7 : decode method_3_code 7 = .ok (.goto 4, 3) := by decide +kernel
theorem d_jdk_41m12_0 : decode jdk_41_method_12_code 0 = .ok (.iload_n 0, 1) := by decide +kernel
theorem d_jdk_41m12_1 : decode jdk_41_method_12_code 1 = .ok (.ifCond .lt 13, 3) := by decide +kernel
theorem d_jdk_41m12_4 : decode jdk_41_method_12_code 4 = .ok (.iload_n 0, 1) := by decide +kernel
theorem d_jdk_41m12_5 : decode jdk_41_method_12_code 5 = .ok (.iload_n 1, 1) := by decide +kernel
theorem d_jdk_41m12_6 : decode jdk_41_method_12_code 6 = .ok (.if_icmp .gt 8, 3) := by decide +kernel
theorem d_jdk_41m12_9 : decode jdk_41_method_12_code 9 = .ok (.iload_n 1, 1) := by decide +kernel
theorem d_jdk_41m12_10 : decode jdk_41_method_12_code 10 = .ok (.iload_n 2, 1) := by decide +kernel
theorem d_jdk_41m12_11 : decode jdk_41_method_12_code 11 = .ok (.if_icmp .le 11, 3) := by decide +kernel
theorem d_jdk_41m12_22 : decode jdk_41_method_12_code 22 = .ok (.iload_n 0, 1) := by decide +kernel
theorem d_jdk_41m12_23 : decode jdk_41_method_12_code 23 = .ok (.ireturn, 1) := by decide +kernel
theorem d_jdk_42m158_0 : decode jdk_42_method_158_code 0 = .ok (.iload_n 0, 1) := by decide +kernel
theorem d_jdk_42m158_1 : decode jdk_42_method_158_code 1 = .ok (.iload_n 1, 1) := by decide +kernel
theorem d_jdk_42m158_2 : decode jdk_42_method_158_code 2 = .ok (.iload_n 2, 1) := by decide +kernel
theorem d_jdk_42m158_3 : decode jdk_42_method_158_code 3 = .ok (.getstatic 1053, 3) := by decide +kernel
theorem d_jdk_42m158_6 : decode jdk_42_method_158_code 6 = .ok (.invokestatic 1062, 3) := by decide +kernel
theorem d_jdk_42m158_9 : decode jdk_42_method_158_code 9 = .ok (.pop, 1) := by decide +kernel
theorem d_jdk_42m158_10 : decode jdk_42_method_158_code 10 = .ok (.return_, 1) := by decide +kernel
theorem d_jdk_65m131_0 : decode jdk_65_method_131_code 0 = .ok (.iload_n 1, 1) := by decide +kernel
theorem d_jdk_65m131_1 : decode jdk_65_method_131_code 1 = .ok (.iload_n 0, 1) := by decide +kernel
theorem d_jdk_65m131_2 : decode jdk_65_method_131_code 2 = .ok (.if_icmp .ge 35, 3) := by decide +kernel
theorem d_jdk_65m131_37 : decode jdk_65_method_131_code 37 = .ok (.return_, 1) := by decide +kernel
theorem d_jdk_29m69_0 : decode jdk_29_method_69_code 0 = .ok (.iload_n 0, 1) := by decide +kernel
theorem d_jdk_29m69_1 : decode jdk_29_method_69_code 1 = .ok (.iload_n 1, 1) := by decide +kernel
theorem d_jdk_29m69_2 : decode jdk_29_method_69_code 2 = .ok (.if_icmp .gt 7, 3) := by decide +kernel
theorem d_jdk_29m69_9 : decode jdk_29_method_69_code 9 = .ok (.iload_n 1, 1) := by decide +kernel
theorem d_jdk_29m69_10 : decode jdk_29_method_69_code 10 = .ok (.ireturn, 1) := by decide +kernel
theorem d_jdk_29m69_5 : decode jdk_29_method_69_code 5 = .ok (.iload_n 0, 1) := by decide +kernel
theorem d_jdk_29m69_6 : decode jdk_29_method_69_code 6 = .ok (.goto 4, 3) := by decide +kernel
theorem d_jdk_65m133_0 : decode jdk_65_method_133_code 0 = .ok (.iload_n 1, 1) := by decide +kernel
theorem d_jdk_65m133_1 : decode jdk_65_method_133_code 1 = .ok (.iload_n 2, 1) := by decide +kernel
theorem d_jdk_65m133_2 : decode jdk_65_method_133_code 2 = .ok (.invokestatic 343, 3) := by decide +kernel
theorem d_jdk_65m133_5 : decode jdk_65_method_133_code 5 = .ok (.iload_n 2, 1) := by decide +kernel
theorem d_jdk_65m133_6 : decode jdk_65_method_133_code 6 = .ok (.iload_n 1, 1) := by decide +kernel
theorem d_jdk_65m133_7 : decode jdk_65_method_133_code 7 = .ok (.isub, 1) := by decide +kernel
theorem d_jdk_65m133_8 : decode jdk_65_method_133_code 8 = .ok (.istore_n 3, 1) := by decide +kernel
theorem d_jdk_65m133_9 : decode jdk_65_method_133_code 9 = .ok (.iload_n 3, 1) := by decide +kernel
theorem d_jdk_65m133_10 : decode jdk_65_method_133_code 10 = .ok (.newarray .byte, 2) := by decide +kernel
theorem d_jdk_65m133_12 : decode jdk_65_method_133_code 12 = .ok (.astore 4, 2) := by decide +kernel
theorem d_jdk_65m133_14 : decode jdk_65_method_133_code 14 = .ok (.aload_n 0, 1) := by decide +kernel
theorem d_jdk_65m133_15 : decode jdk_65_method_133_code 15 = .ok (.iload_n 1, 1) := by decide +kernel
theorem d_jdk_65m133_16 : decode jdk_65_method_133_code 16 = .ok (.aload 4, 2) := by decide +kernel
theorem d_jdk_65m133_18 : decode jdk_65_method_133_code 18 = .ok (.iconst 0, 1) := by decide +kernel
theorem d_jdk_65m133_19 : decode jdk_65_method_133_code 19 = .ok (.aload_n 0, 1) := by decide +kernel
theorem d_jdk_65m133_20 : decode jdk_65_method_133_code 20 = .ok (.arraylength, 1) := by decide +kernel
theorem d_jdk_65m133_21 : decode jdk_65_method_133_code 21 = .ok (.iload_n 1, 1) := by decide +kernel
theorem d_jdk_65m133_22 : decode jdk_65_method_133_code 22 = .ok (.isub, 1) := by decide +kernel
theorem d_jdk_65m133_23 : decode jdk_65_method_133_code 23 = .ok (.iload_n 3, 1) := by decide +kernel
theorem d_jdk_65m133_24 : decode jdk_65_method_133_code 24 = .ok (.invokestatic 304, 3) := by decide +kernel
theorem d_jdk_65m133_27 : decode jdk_65_method_133_code 27 = .ok (.invokestatic 150, 3) := by decide +kernel
theorem d_jdk_65m133_30 : decode jdk_65_method_133_code 30 = .ok (.aload 4, 2) := by decide +kernel
theorem d_jdk_65m133_32 : decode jdk_65_method_133_code 32 = .ok (.areturn, 1) := by decide +kernel
theorem d_jdk_65m132_0 : decode jdk_65_method_132_code 0 = .ok (.iload_n 1, 1) := by decide +kernel
theorem d_jdk_65m132_1 : decode jdk_65_method_132_code 1 = .ok (.ifCond .ne 9, 3) := by decide +kernel
theorem d_jdk_65m132_10 : decode jdk_65_method_132_code 10 = .ok (.aload_n 0, 1) := by decide +kernel
theorem d_jdk_65m132_11 : decode jdk_65_method_132_code 11 = .ok (.iload_n 1, 1) := by decide +kernel
theorem d_jdk_65m132_12 : decode jdk_65_method_132_code 12 = .ok (.iload_n 2, 1) := by decide +kernel
theorem d_jdk_65m132_13 : decode jdk_65_method_132_code 13 = .ok (.invokestatic 339, 3) := by decide +kernel
theorem d_jdk_65m132_16 : decode jdk_65_method_132_code 16 = .ok (.areturn, 1) := by decide +kernel
theorem d_jdk_65m132_4 : decode jdk_65_method_132_code 4 = .ok (.iload_n 2, 1) := by decide +kernel
theorem d_jdk_65m132_5 : decode jdk_65_method_132_code 5 = .ok (.aload_n 0, 1) := by decide +kernel
theorem d_jdk_65m132_6 : decode jdk_65_method_132_code 6 = .ok (.arraylength, 1) := by decide +kernel
theorem d_jdk_65m132_7 : decode jdk_65_method_132_code 7 = .ok (.if_icmp .eq 10, 3) := by decide +kernel
theorem d_jdk_42m151_0 : decode jdk_42_method_151_code 0 = .ok (.aload_n 0, 1) := by decide +kernel
theorem d_jdk_42m151_1 : decode jdk_42_method_151_code 1 = .ok (.invokespecial 1, 3) := by decide +kernel
theorem d_jdk_42m151_4 : decode jdk_42_method_151_code 4 = .ok (.aload_n 0, 1) := by decide +kernel
theorem d_jdk_42m151_5 : decode jdk_42_method_151_code 5 = .ok (.aload_n 1, 1) := by decide +kernel
theorem d_jdk_42m151_6 : decode jdk_42_method_151_code 6 = .ok (.putfield 9, 3) := by decide +kernel
theorem d_jdk_42m151_9 : decode jdk_42_method_151_code 9 = .ok (.aload_n 0, 1) := by decide +kernel
theorem d_jdk_42m151_10 : decode jdk_42_method_151_code 10 = .ok (.iload_n 2, 1) := by decide +kernel
theorem d_jdk_42m151_11 : decode jdk_42_method_151_code 11 = .ok (.putfield 15, 3) := by decide +kernel
theorem d_jdk_42m151_14 : decode jdk_42_method_151_code 14 = .ok (.return_, 1) := by decide +kernel
theorem d_jdk_42m154_0 : decode jdk_42_method_154_code 0 = .ok (.getstatic 38, 3) := by decide +kernel
theorem d_jdk_42m154_3 : decode jdk_42_method_154_code 3 = .ok (.ifCond .eq 14, 3) := by decide +kernel
theorem d_jdk_42m154_6 : decode jdk_42_method_154_code 6 = .ok (.aload_n 0, 1) := by decide +kernel
theorem d_jdk_42m154_7 : decode jdk_42_method_154_code 7 = .ok (.getfield 15, 3) := by decide +kernel
theorem d_jdk_42m154_10 : decode jdk_42_method_154_code 10 = .ok (.ifCond .ne 7, 3) := by decide +kernel
theorem d_jdk_42m154_13 : decode jdk_42_method_154_code 13 = .ok (.iconst 1, 1) := by decide +kernel
theorem d_jdk_42m154_14 : decode jdk_42_method_154_code 14 = .ok (.goto 4, 3) := by decide +kernel
theorem d_jdk_42m154_18 : decode jdk_42_method_154_code 18 = .ok (.ireturn, 1) := by decide +kernel
theorem d_jdk_43m47_0 : decode jdk_43_method_47_code 0 = .ok (.iload_n 2, 1) := by decide +kernel
theorem d_jdk_43m47_1 : decode jdk_43_method_47_code 1 = .ok (.ifCond .ne 6, 3) := by decide +kernel
theorem d_jdk_43m47_7 : decode jdk_43_method_47_code 7 = .ok (.new 1, 3) := by decide +kernel
theorem d_jdk_43m47_10 : decode jdk_43_method_47_code 10 = .ok (.dup, 1) := by decide +kernel
theorem d_jdk_43m47_11 : decode jdk_43_method_47_code 11 = .ok (.aload_n 0, 1) := by decide +kernel
theorem d_jdk_43m47_12 : decode jdk_43_method_47_code 12 = .ok (.iload_n 1, 1) := by decide +kernel
theorem d_jdk_43m47_13 : decode jdk_43_method_47_code 13 = .ok (.iload_n 1, 1) := by decide +kernel
theorem d_jdk_43m47_14 : decode jdk_43_method_47_code 14 = .ok (.iload_n 2, 1) := by decide +kernel
theorem d_jdk_43m47_15 : decode jdk_43_method_47_code 15 = .ok (.iadd, 1) := by decide +kernel
theorem d_jdk_43m47_16 : decode jdk_43_method_47_code 16 = .ok (.invokestatic 232, 3) := by decide +kernel
theorem d_jdk_43m47_19 : decode jdk_43_method_47_code 19 = .ok (.iconst 0, 1) := by decide +kernel
theorem d_jdk_43m47_20 : decode jdk_43_method_47_code 20 = .ok (.invokespecial 112, 3) := by decide +kernel
theorem d_jdk_43m47_23 : decode jdk_43_method_47_code 23 = .ok (.areturn, 1) := by decide +kernel
theorem d_jdk_43m47_4 : decode jdk_43_method_47_code 4 = .ok (.ldc 151, 2) := by decide +kernel
theorem d_jdk_43m47_6 : decode jdk_43_method_47_code 6 = .ok (.areturn, 1) := by decide +kernel
theorem d_jdk_42m92_0 : decode jdk_42_method_92_code 0 = .ok (.aload_n 0, 1) := by decide +kernel
theorem d_jdk_42m92_1 : decode jdk_42_method_92_code 1 = .ok (.invokevirtual 505, 3) := by decide +kernel
theorem d_jdk_42m92_4 : decode jdk_42_method_92_code 4 = .ok (.istore_n 3, 1) := by decide +kernel
theorem d_jdk_42m92_5 : decode jdk_42_method_92_code 5 = .ok (.iload_n 1, 1) := by decide +kernel
theorem d_jdk_42m92_6 : decode jdk_42_method_92_code 6 = .ok (.iload_n 2, 1) := by decide +kernel
theorem d_jdk_42m92_7 : decode jdk_42_method_92_code 7 = .ok (.iload_n 3, 1) := by decide +kernel
theorem d_jdk_42m92_8 : decode jdk_42_method_92_code 8 = .ok (.invokestatic 521, 3) := by decide +kernel
theorem d_jdk_42m92_11 : decode jdk_42_method_92_code 11 = .ok (.iload_n 1, 1) := by decide +kernel
theorem d_jdk_42m92_12 : decode jdk_42_method_92_code 12 = .ok (.ifCond .ne 10, 3) := by decide +kernel
theorem d_jdk_42m92_22 : decode jdk_42_method_92_code 22 = .ok (.iload_n 2, 1) := by decide +kernel
theorem d_jdk_42m92_23 : decode jdk_42_method_92_code 23 = .ok (.iload_n 1, 1) := by decide +kernel
theorem d_jdk_42m92_24 : decode jdk_42_method_92_code 24 = .ok (.isub, 1) := by decide +kernel
theorem d_jdk_42m92_25 : decode jdk_42_method_92_code 25 = .ok (.istore 4, 2) := by decide +kernel
theorem d_jdk_42m92_27 : decode jdk_42_method_92_code 27 = .ok (.aload_n 0, 1) := by decide +kernel
theorem d_jdk_42m92_28 : decode jdk_42_method_92_code 28 = .ok (.invokevirtual 492, 3) := by decide +kernel
theorem d_jdk_42m92_31 : decode jdk_42_method_92_code 31 = .ok (.ifCond .eq 16, 3) := by decide +kernel
theorem d_jdk_42m92_34 : decode jdk_42_method_92_code 34 = .ok (.aload_n 0, 1) := by decide +kernel
theorem d_jdk_42m92_35 : decode jdk_42_method_92_code 35 = .ok (.getfield 9, 3) := by decide +kernel
theorem d_jdk_42m92_38 : decode jdk_42_method_92_code 38 = .ok (.iload_n 1, 1) := by decide +kernel
theorem d_jdk_42m92_39 : decode jdk_42_method_92_code 39 = .ok (.iload 4, 2) := by decide +kernel
theorem d_jdk_42m92_41 : decode jdk_42_method_92_code 41 = .ok (.invokestatic 685, 3) := by decide +kernel
theorem d_jdk_42m92_44 : decode jdk_42_method_92_code 44 = .ok (.goto 13, 3) := by decide +kernel
theorem d_jdk_42m92_57 : decode jdk_42_method_92_code 57 = .ok (.areturn, 1) := by decide +kernel
theorem d_jdk_42m92_15 : decode jdk_42_method_92_code 15 = .ok (.iload_n 2, 1) := by decide +kernel
theorem d_jdk_42m92_16 : decode jdk_42_method_92_code 16 = .ok (.iload_n 3, 1) := by decide +kernel
theorem d_jdk_42m92_17 : decode jdk_42_method_92_code 17 = .ok (.if_icmp .ne 5, 3) := by decide +kernel
theorem d_jdk_42m92_20 : decode jdk_42_method_92_code 20 = .ok (.aload_n 0, 1) := by decide +kernel
theorem d_jdk_42m92_21 : decode jdk_42_method_92_code 21 = .ok (.areturn, 1) := by decide +kernel
theorem d_prog_36m11_0 : decode prog_36_method_11_code 0 = .ok (.iconst 0, 1) := by decide +kernel
theorem d_prog_36m11_1 : decode prog_36_method_11_code 1 = .ok (.istore_n 1, 1) := by decide +kernel
theorem d_prog_36m11_2 : decode prog_36_method_11_code 2 = .ok (.aload_n 0, 1) := by decide +kernel
theorem d_prog_36m11_3 : decode prog_36_method_11_code 3 = .ok (.invokevirtual 101, 3) := by decide +kernel
theorem d_prog_36m11_6 : decode prog_36_method_11_code 6 = .ok (.istore_n 2, 1) := by decide +kernel
theorem d_prog_36m11_51 : decode prog_36_method_11_code 51 = .ok (.aload_n 0, 1) := by decide +kernel
theorem d_prog_36m11_52 : decode prog_36_method_11_code 52 = .ok (.iload_n 1, 1) := by decide +kernel
theorem d_prog_36m11_53 : decode prog_36_method_11_code 53 = .ok (.iload_n 2, 1) := by decide +kernel
theorem d_prog_36m11_54 : decode prog_36_method_11_code 54 = .ok (.invokevirtual 115, 3) := by decide +kernel
theorem d_prog_36m11_57 : decode prog_36_method_11_code 57 = .ok (.areturn, 1) := by decide +kernel
theorem d_prog_36m11_28 : decode prog_36_method_11_code 28 = .ok (.iload_n 2, 1) := by decide +kernel
theorem d_prog_36m11_29 : decode prog_36_method_11_code 29 = .ok (.iload_n 1, 1) := by decide +kernel
theorem d_prog_36m11_30 : decode prog_36_method_11_code 30 = .ok (.if_icmp .le 21, 3) := by decide +kernel
theorem d_prog_36m11_33 : decode prog_36_method_11_code 33 = .ok (.aload_n 0, 1) := by decide +kernel
theorem d_prog_36m11_34 : decode prog_36_method_11_code 34 = .ok (.iload_n 2, 1) := by decide +kernel
theorem d_prog_36m11_35 : decode prog_36_method_11_code 35 = .ok (.iconst 1, 1) := by decide +kernel
theorem d_prog_36m11_36 : decode prog_36_method_11_code 36 = .ok (.isub, 1) := by decide +kernel
theorem d_prog_36m11_37 : decode prog_36_method_11_code 37 = .ok (.invokevirtual 105, 3) := by decide +kernel
theorem d_prog_36m11_40 : decode prog_36_method_11_code 40 = .ok (.bipush 32, 2) := by decide +kernel
theorem d_prog_36m11_42 : decode prog_36_method_11_code 42 = .ok (.if_icmp .ne 9, 3) := by decide +kernel
theorem d_prog_36m11_45 : decode prog_36_method_11_code 45 = .ok (.iinc 2 (-1), 3) := by decide +kernel
theorem d_prog_36m11_48 : decode prog_36_method_11_code 48 = .ok (.goto (-20), 3) := by decide +kernel
theorem d_prog_36m11_7 : decode prog_36_method_11_code 7 = .ok (.iload_n 1, 1) := by decide +kernel
theorem d_prog_36m11_8 : decode prog_36_method_11_code 8 = .ok (.iload_n 2, 1) := by decide +kernel
theorem d_prog_36m11_9 : decode prog_36_method_11_code 9 = .ok (.if_icmp .ge 19, 3) := by decide +kernel
theorem d_prog_36m11_12 : decode prog_36_method_11_code 12 = .ok (.aload_n 0, 1) := by decide +kernel
theorem d_prog_36m11_13 : decode prog_36_method_11_code 13 = .ok (.iload_n 1, 1) := by decide +kernel
theorem d_prog_36m11_14 : decode prog_36_method_11_code 14 = .ok (.invokevirtual 105, 3) := by decide +kernel
theorem d_prog_36m11_17 : decode prog_36_method_11_code 17 = .ok (.bipush 32, 2) := by decide +kernel
theorem d_prog_36m11_19 : decode prog_36_method_11_code 19 = .ok (.if_icmp .ne 9, 3) := by decide +kernel
theorem d_prog_36m11_22 : decode prog_36_method_11_code 22 = .ok (.iinc 1 1, 3) := by decide +kernel
theorem d_prog_36m11_25 : decode prog_36_method_11_code 25 = .ok (.goto (-18), 3) := by decide +kernel
theorem d_jdk_42m149_0 : decode jdk_42_method_149_code 0 = .ok (.aload_n 0, 1) := by decide +kernel
theorem d_jdk_42m149_1 : decode jdk_42_method_149_code 1 = .ok (.invokespecial 1, 3) := by decide +kernel
theorem d_jdk_42m149_4 : decode jdk_42_method_149_code 4 = .ok (.iload_n 3, 1) := by decide +kernel
theorem d_jdk_42m149_5 : decode jdk_42_method_149_code 5 = .ok (.ifCond .ne 22, 3) := by decide +kernel
theorem d_jdk_42m149_8 : decode jdk_42_method_149_code 8 = .ok (.aload_n 0, 1) := by decide +kernel
theorem d_jdk_42m149_9 : decode jdk_42_method_149_code 9 = .ok (.ldc 7, 2) := by decide +kernel
theorem d_jdk_42m149_11 : decode jdk_42_method_149_code 11 = .ok (.getfield 9, 3) := by decide +kernel
theorem d_jdk_42m149_14 : decode jdk_42_method_149_code 14 = .ok (.putfield 9, 3) := by decide +kernel
theorem d_jdk_42m149_17 : decode jdk_42_method_149_code 17 = .ok (.aload_n 0, 1) := by decide +kernel
theorem d_jdk_42m149_18 : decode jdk_42_method_149_code 18 = .ok (.ldc 7, 2) := by decide +kernel
theorem d_jdk_42m149_20 : decode jdk_42_method_149_code 20 = .ok (.getfield 15, 3) := by decide +kernel
theorem d_jdk_42m149_23 : decode jdk_42_method_149_code 23 = .ok (.putfield 15, 3) := by decide +kernel
theorem d_jdk_42m149_26 : decode jdk_42_method_149_code 26 = .ok (.return_, 1) := by decide +kernel
theorem d_jdk_42m3_0 : decode jdk_42_method_3_code 0 = .ok (.aload_n 0, 1) := by decide +kernel
theorem d_jdk_42m3_1 : decode jdk_42_method_3_code 1 = .ok (.aload_n 1, 1) := by decide +kernel
theorem d_jdk_42m3_2 : decode jdk_42_method_3_code 2 = .ok (.iconst 0, 1) := by decide +kernel
theorem d_jdk_42m3_3 : decode jdk_42_method_3_code 3 = .ok (.aload_n 1, 1) := by decide +kernel
theorem d_jdk_42m3_4 : decode jdk_42_method_3_code 4 = .ok (.arraylength, 1) := by decide +kernel
theorem d_jdk_42m3_5 : decode jdk_42_method_3_code 5 = .ok (.aconst_null, 1) := by decide +kernel
theorem d_jdk_42m3_6 : decode jdk_42_method_3_code 6 = .ok (.invokespecial 27, 3) := by decide +kernel
theorem d_jdk_42m3_9 : decode jdk_42_method_3_code 9 = .ok (.return_, 1) := by decide +kernel
theorem pd0 : parseMethodDescriptor "(IIILjava/util/function/BiFunction;)I" = some ⟨[.int, .int, .int, (.object "java/util/function/BiFunction")], some .int⟩ := by decide +kernel
theorem pd1 : parseMethodDescriptor "(II)V" = some ⟨[.int, .int], none⟩ := by decide +kernel
theorem pd2 : parseMethodDescriptor "(II)I" = some ⟨[.int, .int], some .int⟩ := by decide +kernel
theorem pd3 : parseMethodDescriptor "([BII)[B" = some ⟨[(.array .byte), .int, .int], some (.array .byte)⟩ := by decide +kernel
theorem pd4 : parseMethodDescriptor "([BB)V" = some ⟨[(.array .byte), .byte], none⟩ := by decide +kernel
theorem pd5 : parseMethodDescriptor "()I" = some ⟨[], some .int⟩ := by decide +kernel
theorem pd6 : parseMethodDescriptor "(III)V" = some ⟨[.int, .int, .int], none⟩ := by decide +kernel
theorem pd7 : parseMethodDescriptor "()Z" = some ⟨[], some .boolean⟩ := by decide +kernel
theorem pd8 : parseMethodDescriptor "([BII)Ljava/lang/String;" = some ⟨[(.array .byte), .int, .int], some (.object "java/lang/String")⟩ := by decide +kernel
theorem pd9 : parseMethodDescriptor "(II)Ljava/lang/String;" = some ⟨[.int, .int], some (.object "java/lang/String")⟩ := by decide +kernel
theorem pd10 : parseMethodDescriptor "(I)C" = some ⟨[.int], some .char⟩ := by decide +kernel
theorem pd11 : parseMethodDescriptor "([CIILjava/lang/Void;)V" = some ⟨[(.array .char), .int, .int, (.object "java/lang/Void")], none⟩ := by decide +kernel
theorem pd12 : parseMethodDescriptor "([C)V" = some ⟨[(.array .char)], none⟩ := by decide +kernel
theorem pd13 : parseMethodDescriptor "(Ljava/lang/String;)Ljava/lang/String;" = some ⟨[(.object "java/lang/String")], some (.object "java/lang/String")⟩ := by decide +kernel
theorem pd14 : parseMethodDescriptor "(C)Z" = some ⟨[.char], some .boolean⟩ := by decide +kernel
theorem pn0 : plainName "com/example/shelfmark/shelfmark/model/MarcRecordWithoutOuterSpacesPinLaw" = true := by first | (simp [plainName, overriddenIn]; done) | decide +kernel
theorem pn1 : plainName "jdk/internal/util/Preconditions" = true := by first | (simp [plainName, overriddenIn]; done) | decide +kernel
theorem pn2 : plainName "java/lang/String" = true := by first | (simp [plainName, overriddenIn]; done) | decide +kernel
theorem pn3 : plainName "java/util/Arrays" = true := by first | (simp [plainName, overriddenIn]; done) | decide +kernel
theorem pn4 : plainName "java/lang/StringLatin1" = true := by first | (simp [plainName, overriddenIn]; done) | decide +kernel
theorem pn5 : plainName "com/example/shelfmark/shelfmark/model/MarcRecord" = true := by first | (simp [plainName, overriddenIn]; done) | decide +kernel
theorem ef0 (m : MethodId) (x0 : Int32) : entryFrame m #[(.int x0)] 1 = mkF m 0 #[.val (.int x0)] [] := by (first | (simp [entryFrame, mkF, argsToLocals, Value.category]; done) | rfl)
theorem ef1 (m : MethodId) (x0 : Int32) : entryFrame m #[(.int x0)] 1 = mkF m 0 #[.val (.int x0)] [] := by (first | (simp [entryFrame, mkF, argsToLocals, Value.category]; done) | rfl)
theorem ef2 (m : MethodId) (x0 : Int32) (x1 : Int32) (x2 : Int32) (x3 : Value) (hx3 : x3.isRef = true) : entryFrame m #[(.int x0), (.int x1), (.int x2), x3] 4 = mkF m 0 #[.val (.int x0), .val (.int x1), .val (.int x2), .val x3] [] := by rcases ref_cases hx3 with rfl | ⟨_, rfl⟩ <;> (first | (simp [entryFrame, mkF, argsToLocals, Value.category]; done) | rfl)
theorem ef3 (m : MethodId) (x0 : Int32) (x1 : Int32) (x2 : Int32) : entryFrame m #[(.int x0), (.int x1), (.int x2)] 3 = mkF m 0 #[.val (.int x0), .val (.int x1), .val (.int x2)] [] := by (first | (simp [entryFrame, mkF, argsToLocals, Value.category]; done) | rfl)
theorem ef4 (m : MethodId) (x0 : Int32) (x1 : Int32) : entryFrame m #[(.int x0), (.int x1)] 2 = mkF m 0 #[.val (.int x0), .val (.int x1)] [] := by (first | (simp [entryFrame, mkF, argsToLocals, Value.category]; done) | rfl)
theorem ef5 (m : MethodId) (x0 : Int32) (x1 : Int32) : entryFrame m #[(.int x0), (.int x1)] 2 = mkF m 0 #[.val (.int x0), .val (.int x1)] [] := by (first | (simp [entryFrame, mkF, argsToLocals, Value.category]; done) | rfl)
theorem ef6 (m : MethodId) (x0 : Addr) (x1 : Int32) (x2 : Int32) : entryFrame m #[(.ref x0), (.int x1), (.int x2)] 5 = mkF m 0 #[.val (.ref x0), .val (.int x1), .val (.int x2), .unset, .unset] [] := by (first | (simp [entryFrame, mkF, argsToLocals, Value.category]; done) | rfl)
theorem ef7 (m : MethodId) (x0 : Addr) (x1 : Int32) (x2 : Int32) : entryFrame m #[(.ref x0), (.int x1), (.int x2)] 3 = mkF m 0 #[.val (.ref x0), .val (.int x1), .val (.int x2)] [] := by (first | (simp [entryFrame, mkF, argsToLocals, Value.category]; done) | rfl)
theorem ef8 (m : MethodId) (x0 : Addr) (x1 : Addr) : entryFrame m #[(.ref x0), (.ref x1), (.int (0 : Int32))] 3 = mkF m 0 #[.val (.ref x0), .val (.ref x1), .val (.int (0 : Int32))] [] := by (first | (simp [entryFrame, mkF, argsToLocals, Value.category]; done) | rfl)
theorem ef9 (m : MethodId) (x0 : Addr) : entryFrame m #[(.ref x0)] 1 = mkF m 0 #[.val (.ref x0)] [] := by (first | (simp [entryFrame, mkF, argsToLocals, Value.category]; done) | rfl)
theorem ef10 (m : MethodId) (x0 : Addr) (x1 : Int32) (x2 : Int32) : entryFrame m #[(.ref x0), (.int x1), (.int x2)] 3 = mkF m 0 #[.val (.ref x0), .val (.int x1), .val (.int x2)] [] := by (first | (simp [entryFrame, mkF, argsToLocals, Value.category]; done) | rfl)
theorem ef11 (m : MethodId) (x0 : Addr) (x1 : Int32) (x2 : Int32) : entryFrame m #[(.ref x0), (.int x1), (.int x2)] 5 = mkF m 0 #[.val (.ref x0), .val (.int x1), .val (.int x2), .unset, .unset] [] := by (first | (simp [entryFrame, mkF, argsToLocals, Value.category]; done) | rfl)
theorem ef12 (m : MethodId) (x0 : Addr) : entryFrame m #[(.ref x0)] 3 = mkF m 0 #[.val (.ref x0), .unset, .unset] [] := by (first | (simp [entryFrame, mkF, argsToLocals, Value.category]; done) | rfl)
theorem ef13 (m : MethodId) (x0 : Addr) (x1 : Addr) : entryFrame m #[(.ref x0), (.ref x1), (.int (0 : Int32)), (.int (0 : Int32)), .null] 6 = mkF m 0 #[.val (.ref x0), .val (.ref x1), .val (.int (0 : Int32)), .val (.int (0 : Int32)), .val .null, .unset] [] := by (first | (simp [entryFrame, mkF, argsToLocals, Value.category]; done) | rfl)
theorem ef14 (m : MethodId) (x0 : Addr) (x1 : Addr) : entryFrame m #[(.ref x0), (.ref x1)] 2 = mkF m 0 #[.val (.ref x0), .val (.ref x1)] [] := by (first | (simp [entryFrame, mkF, argsToLocals, Value.category]; done) | rfl)
theorem ef15 (m : MethodId) (x0 : Int32) (x1 : Int32) (x2 : Int32) (x3 : Int32) (x4 : Int32) : entryFrame m #[(.int x0), (.int x1), (.int x2), (.int x3), (.int x4)] maxLocals = mkF m 0 #[.val (.int x0), .val (.int x1), .val (.int x2), .val (.int x3), .val (.int x4), .unset, .unset, .unset, .unset, .unset, .unset, .unset, .unset, .unset, .unset, .unset, .unset] [] := by (first | (simp [entryFrame, mkF, argsToLocals, Value.category, maxLocals]; done) | rfl)
/-- the String at x spells cs (Latin-1, at most 4,000 signs) -/
def Str (Z : State) (h : Heap) (x : Addr) (cs : List Int32) : Prop := Exa Z h x StN ∧ Fld Z h x StN "coder" "B" (.int 0) ∧ (∃ t, Fld Z h x StN "value" "[B" (.ref t) ∧ Wk.Ary Z h t .byte ((cs.map fun c => c.toInt8.toInt32).map Value.int)) ∧ (∀ c ∈ cs, ¬ c < 0 ∧ ¬ (255 : Int32) < c) ∧ cs.length ≤ 4000
theorem Str.ext {Z : State} {h h' : Heap} {x : Addr} {cs : List Int32} (F : Str Z h x cs) (E : Ext h h') : Str Z h' x cs := by
  obtain ⟨a, b, ⟨t, c, d⟩, r⟩ := F
  exact ⟨a.ext E, b.ext E, ⟨t, c.ext E, d.ext E⟩, r⟩
theorem Str.exa {Z : State} {h : Heap} {x : Addr} {cs : List Int32} (F : Str Z h x cs) : Exa Z h x StN := F.1
theorem Str.lt {Z : State} {h : Heap} {x : Addr} {cs : List Int32} (F : Str Z h x cs) : x < h.size := F.1.lt
theorem strNew {l : Launch} {R : Room} {Z : State} {W : Wk.Wd} {a0 : Array Value} {own nm : String} {code : ByteArray} {maxL : Nat} {ret : Option FieldType} (C : Wk.Cx Z W own nm code maxL ret) (hw : Ws a0 Z) (hs : Sets Z) {h : Heap} (O : Ext Z.heap h) {x b : Addr} {cs : List Int32} {n Wn : Nat} {v0 c0 : Value}
    (hx0 : Z.heap.size ≤ x) (E : Exa Z h x StN) (V : Fld Z h x StN "value" "[B" v0) (Cd : Fld Z h x StN "coder" "B" c0) (K : Wk.Ary Z h b .char (cs.map Value.int)) (hn : cs.length = n) (l0 : 0 < n) (l2 : n ≤ 4000) (hp : ∀ c ∈ cs, ¬ c < 0 ∧ ¬ (255 : Int32) < c) (hfr : 4 ≤ R.frames) (hlo : Wn + 65 ≤ R.locals) :
    Wk.Pays l R W (⟨"java/lang/String", "<init>", "([C)V"⟩ : MethodName) 3 Wn #[.ref x, .ref b] h 1 n (StrChars.Road.QV Z x (Int32.ofNat n) (cs.map fun c => c.toInt8.toInt32) h Z.heap.size) := by
  obtain ⟨z, fm, S1, hz, -, -⟩ := hs
  obtain ⟨kc, A⟩ := K.arv (d := .int 0)
  rw [List.length_map, hn] at A
  have hws : ∀ d ∈ StrChars.Road.words, d.before a0 Z = true := fun d hd => hw d ((by decide +kernel : ∀ d ∈ StrChars.Road.words, d ∈ tables_1) d hd)
  exact StrChars.Road.backV (W := Wn) C.hZ hws (kI := 4) (w6 hw) (cs := cs) hx0 O.1 E V Cd A (S1.ext O) hz hn rfl l0 l2 hp rfl hfr hlo
theorem strNewC {Z : State} {h : Heap} {x : Addr} {cs : List Int32} {n : Nat} (O : Ext Z.heap h) (hx0 : Z.heap.size ≤ x) (hn : cs.length = n) (l2 : n ≤ 4000) (hp : ∀ c ∈ cs, ¬ c < 0 ∧ ¬ (255 : Int32) < c) :
    Wk.Clean Z (fun v h' => v = none ∧ Keep h h' [x] ∧ Str Z h' x cs) (StrChars.Road.QV Z x (Int32.ofNat n) (cs.map fun c => c.toInt8.toInt32) h Z.heap.size) := by
  rintro v h' L ⟨rfl, N, K, E, Cd, t, kb, -, -, -, V, A⟩
  refine ⟨⟨rfl, K, E, Cd, ⟨t, V, Wk.Ary.of_arv A ?_⟩, hp, by omega⟩, Wk.Ext.keep1 (Z := Z) O K hx0, N⟩
  rw [Int32.toNatClampNeg_ofNat_of_lt (by omega)]; simp [hn]
theorem pureC {Z : State} {h : Heap} {P : Option Value → Prop} (O : Ext Z.heap h) : Wk.Clean Z (fun v h' => P v ∧ h' = h) (fun v h' L => P v ∧ L = [] ∧ h' = h) := by
  rintro v h' L ⟨q, rfl, rfl⟩
  exact ⟨⟨q, rfl⟩, O, Fr.nil _⟩
theorem strLen {l : Launch} {R : Room} {Z : State} {W : Wk.Wd} {a0 : Array Value} {own nm : String} {code : ByteArray} {maxL : Nat} {ret : Option FieldType} (C : Wk.Cx Z W own nm code maxL ret) (hw : Ws a0 Z) (hs : Sets Z) {h : Heap} (O : Ext Z.heap h) {x : Addr} {cs : List Int32} {Wn : Nat} (F : Str Z h x cs) (hfr : 2 ≤ R.frames) (hlo : Wn + 25 ≤ R.locals) :
    Wk.Pays l R W (⟨"java/lang/String", "length", "()I"⟩ : MethodName) 3 Wn #[.ref x] h 0 0 (fun v h' L => v = some (.int (Int32.ofNat cs.length)) ∧ L = [] ∧ h' = h) := by
  obtain ⟨z, fm, S1, hz, -, -⟩ := hs
  obtain ⟨E, Cd, ⟨t, V, K⟩, hp, l2⟩ := F
  obtain ⟨kc, A⟩ := K.arv (d := .int 0)
  have hws : ∀ d ∈ StrChars.Road.wordsLen, d.before a0 Z = true := fun d hd => hw d ((by decide +kernel : ∀ d ∈ StrChars.Road.wordsLen, d ∈ tables_1) d hd)
  rw [List.length_map, List.length_map] at A
  exact StrChars.Road.lenW (W := Wn) C.hZ hws (kI := 4) (w6 hw) E V Cd A (StrChars.Road.codOf rfl fun c hc => (hp c hc).2) (fun c hc => ⟨(hp c hc).1, fun q => (hp c hc).2 (Int32.lt_trans (by decide) q)⟩) (S1.ext O) hz l2 hfr hlo
theorem strAt {l : Launch} {R : Room} {Z : State} {W : Wk.Wd} {a0 : Array Value} {own nm : String} {code : ByteArray} {maxL : Nat} {ret : Option FieldType} (C : Wk.Cx Z W own nm code maxL ret) (hw : Ws a0 Z) (hs : Sets Z) {h : Heap} (O : Ext Z.heap h) {x : Addr} {cs : List Int32} {Wn i : Nat} {j : Int32} (F : Str Z h x cs) (hi : i < cs.length) (hj : j = Int32.ofNat i) (hfr : 4 ≤ R.frames) (hlo : Wn + 53 ≤ R.locals) :
    Wk.Pays l R W (⟨"java/lang/String", "charAt", "(I)C"⟩ : MethodName) 3 Wn #[.ref x, .int j] h 0 0 (fun v h' L => v = some (.int (cs.getD i 0)) ∧ L = [] ∧ h' = h) := by
  obtain ⟨z, fm, S1, hz, S2, rf⟩ := hs
  obtain ⟨E, Cd, ⟨t, V, K⟩, hp, l2⟩ := F
  obtain ⟨kc, A⟩ := K.arv (d := .int 0)
  have hws : ∀ d ∈ StrChars.Road.wordsChN, d.before a0 Z = true := fun d hd => hw d ((by decide +kernel : ∀ d ∈ StrChars.Road.wordsChN, d ∈ tables_1) d hd)
  rw [List.length_map, List.length_map] at A
  exact StrChars.Road.chN (W := Wn) C.hZ hws (kI := 4) (w6 hw) E V Cd A (StrChars.Road.codOf rfl fun c hc => (hp c hc).2) (fun c hc => ⟨(hp c hc).1, fun q => (hp c hc).2 (Int32.lt_trans (by decide) q)⟩) (S1.ext O) hz (S2.ext O) rf l2 hi hj hfr hlo
namespace Ww
open Jvm Jvm.ClassFile Sem Op Lib Jvm.Free Jvm.Stand Jvm.LawKit Jvm.RoadKit Wk
def Go (R : Room) (Z : State) (EL : List (String × Nat)) (W : Wd) (Q : Post) (A : State) : Prop :=
  ∃ s₂ o, Steps W.p.tables W.e W.b A s₂ ∧ s₂.status = .running ∧ Ended s₂ W.b o ∧ ∃ v L, o = .returned v ∧ (Q v s₂.heap ∧ Ext Z.heap s₂.heap ∧ Fr Z.heap.size L) ∧ CHr Z EL W.s.vm W.s.heap s₂.vm s₂.heap ∧ ReturnedEndW W.s o s₂ L R.cells R.slots
abbrev At (W : Wd) (vm0 : Vm) : Wd := (W.p, W.e, W.s.setVm vm0, W.m, W.a, W.b, W.t, W.c)
abbrev Std (l : Launch) (R : Room) (W : Wd) (vm0 : Vm) (T : State) (locs : List Loc) (k n : Nat) : Prop := Stand W.p l W.e R (W.s.setVm vm0) W.m W.a W.b W.t W.c T locs k n
def Inv (Z : State) (EL : List (String × Nat)) (W : Wd) (S : List Addr) (vm0 : Vm) (h : Heap) : Prop :=
  (∃ k0, W.s.Since vm0 k0 ∧ k0 ≤ h.size) ∧ Z.Warmed39 vm0 ∧ CHr Z EL W.s.vm W.s.heap vm0 h ∧ ∀ x ∈ S, x < h.size ∧ Safe Z EL vm0 h x
def Run (l : Launch) (R : Room) (Z : State) (EL : List (String × Nat)) (W : Wd) (Q : Post) (S : List Addr) (h : Heap) (k n : Nat) (f : JFrame) : Prop :=
  ∀ vm0 T locs, Std l R W vm0 T locs k n → T.heap = h → Fr Z.heap.size locs → Ext Z.heap h → Inv Z EL W S vm0 h → Go R Z EL W Q (T.setTop f)
section Kit
variable {l : Launch} {R : Room} {Z : State} {EL : List (String × Nat)} {W : Wd} {Q : Post} {S : List Addr} {h : Heap} {k n : Nat} {own nm : String} {code : ByteArray} {maxL : Nat} {ret : Option FieldType} {a0 : Array Value} {pc pc' : Nat} {Ls : Array Slot} {st : List Value}
theorem Inv.hZ {vm0 : Vm} (I : Inv Z EL W S vm0 h) : Z.Warmed39 (W.s.setVm vm0).vm := I.2.1
theorem Inv.ow {vm0 : Vm} (I : Inv Z EL W S vm0 h) (C : Cx Z W own nm code maxL ret) : (W.s.setVm vm0).vm.findClass own = some W.m.cls := by
  obtain ⟨k0, hS, -⟩ := I.1
  show vm0.findClass own = _
  rw [hS.1.alike.findClass]; exact C.ow
theorem Inv.cx {vm0 : Vm} (I : Inv Z EL W S vm0 h) (C : Cx Z W own nm code maxL ret) : Cx Z (At W vm0) own nm code maxL ret :=
  ⟨C.1, C.2.1, C.2.2.1, I.ow C, I.hZ, C.2.2.2.2.2.1, C.2.2.2.2.2.2.1, C.2.2.2.2.2.2.2⟩
theorem Inv.ch {vm0 : Vm} (I : Inv Z EL W S vm0 h) : CHv Z EL vm0 h := I.2.2.1.1
theorem Inv.ext {vm0 : Vm} {h' : Heap} (I : Inv Z EL W S vm0 h) (E : Ext h h') : Inv Z EL W S vm0 h' := by
  obtain ⟨⟨k0, hS, hk⟩, hZ, hr, hs⟩ := I
  exact ⟨⟨k0, hS, Nat.le_trans hk E.1⟩, hZ, hr.trans (CHr.ext E hr.1), fun x hx => ⟨Nat.lt_of_lt_of_le (hs x hx).1 E.1, (hs x hx).2.ext E hr.1⟩⟩
theorem Inv.keep {vm0 : Vm} {h' : Heap} {ws : List Addr} (I : Inv Z EL W S vm0 h) (K : Keep h h' ws) (q : ∀ x ∈ ws, x ∈ S) : Inv Z EL W S vm0 h' := by
  obtain ⟨⟨k0, hS, hk⟩, hZ, hr, hs⟩ := I
  have hq : ∀ x ∈ ws, Safe Z EL vm0 h x := fun x hx => (hs x (q x hx)).2
  exact ⟨⟨k0, hS, Nat.le_trans hk K.1⟩, hZ, hr.trans (CHr.keep K hq hr.1), fun x hx => ⟨Nat.lt_of_lt_of_le (hs x hx).1 K.1, (hs x hx).2.keep K hq hr.1⟩⟩
theorem Inv.add {vm0 : Vm} {x : Addr} (I : Inv Z EL W S vm0 h) (hx : x < h.size) (sf : Safe Z EL vm0 h x) : Inv Z EL W (x :: S) vm0 h :=
  ⟨I.1, I.2.1, I.2.2.1, fun y hy => (List.mem_cons.mp hy).elim (fun e => e ▸ ⟨hx, sf⟩) (I.2.2.2 y)⟩
theorem Inv.fresh {vm0 : Vm} {h' : Heap} (I : Inv Z EL W S vm0 h) (E : Ext h h') (hx : h.size < h'.size) : Inv Z EL W (h.size :: S) vm0 h' :=
  (I.ext E).add hx ((Safe.new (Nat.le_refl _)).ext E I.ch)
theorem Go.step {A B : State} (f : ∀ t, Steps W.p.tables W.e W.b B t → Steps W.p.tables W.e W.b A t) (g : Go R Z EL W Q B) : Go R Z EL W Q A := by
  obtain ⟨t, o, h1, r⟩ := g
  exact ⟨t, o, f t h1, r⟩
theorem Run.one {g g' : JFrame} (f : ∀ vm0 T locs, Std l R W vm0 T locs k n → T.heap = h → Inv Z EL W S vm0 h → ∀ t, Steps W.p.tables W.e W.b (T.setTop g') t → Steps W.p.tables W.e W.b (T.setTop g) t) (r : Run l R Z EL W Q S h k n g') : Run l R Z EL W Q S h k n g :=
  fun vm0 T locs X eT N O I => Go.step (f vm0 T locs X eT I) (r vm0 T locs X eT N O I)
theorem Run.old {f : JFrame} (r : Ext Z.heap h → Run l R Z EL W Q S h k n f) : Run l R Z EL W Q S h k n f := fun vm0 T locs X eT N O I => r O vm0 T locs X eT N O I
/-- what is no constant of EL's, by what it holds -/
def SafeAt (Z : State) (EL : List (String × Nat)) (h : Heap) (x : Addr) : Prop := ∀ vm, Z.vm.Alike vm → CHv Z EL vm h → Safe Z EL vm h x
theorem Run.safe {f : JFrame} {x : Addr} (hx : x < h.size) (sf : SafeAt Z EL h x) (r : Run l R Z EL W Q (x :: S) h k n f) : Run l R Z EL W Q S h k n f :=
  fun vm0 T locs X eT N O I => r vm0 T locs X eT N O (I.add hx (sf vm0 I.2.1.alike I.ch))
theorem SafeAt.exa {x : Addr} {C : String} (E : Exa Z h x C) (h1 : C ≠ "java/lang/String") (h2 : C ≠ "[B") : SafeAt Z EL h x := fun vm al _ => Safe.exa al E h1 h2
theorem SafeAt.str0 {x : Addr} (E : Exa Z h x "java/lang/String") (V : Fld Z h x "java/lang/String" "value" "[B" .null) : SafeAt Z EL h x := fun vm al _ B => by
  obtain ⟨p, -, u, a, -, q, -, F, rfl | rfl⟩ := B
  · obtain ⟨cS, ⟨⟨ha, -, -, ⟨c1, k1, i1, f1, -⟩, -, -, -, v1, -⟩, -⟩, -⟩ := F
    obtain ⟨cell, cf, k, i, f, h1, h2, -, -, -, -, h7⟩ := V
    cases (show h[q.sa]? = some q.sC from ha).symm.trans h1
    obtain ⟨k3, e3, -⟩ := State.fieldFound?_setVm (s := Z) al h2
    have e4 := (show (Wst Z vm h).fieldFound? _ _ _ = _ from e3).symm.trans f1
    simp only [Option.some.injEq, Prod.mk.injEq] at e4
    rw [e4.2.2.2, v1] at h7
    cases h7
  · obtain ⟨cell, k, e1, e2, -⟩ := E
    cases (show h[q.sd]? = some q.SA from F.hd).symm.trans e1
    obtain ⟨cS, -, -, f, -⟩ := F
    have f' : Z.vm.findClass "[B" = some q.SA.cls := by rw [← al.findClass]; exact f
    exact ids_ne f' e2 (by decide) rfl
theorem iloadN (C : Cx Z W own nm code maxL ret) {i : Fin 4} {v : Int32} (hd : decode code pc = .ok (.iload_n i, 1)) (hl : Ls[i.val]? = some (.val (.int v))) (hp : pc + 1 = pc')
    (r : Run l R Z EL W Q S h k n (mkF W.m pc' Ls (.int v :: st))) : Run l R Z EL W Q S h k n (mkF W.m pc Ls (st)) := by
  subst hp
  exact Run.one (fun vm0 T locs X _ I t g => XS.iloadN X.here C.hx rfl (C.hb hd) hl g) r
theorem iload (C : Cx Z W own nm code maxL ret) {i : Nat} {v : Int32} (hd : decode code pc = .ok (.iload i, 2)) (hl : Ls[i]? = some (.val (.int v))) (hp : pc + 2 = pc')
    (r : Run l R Z EL W Q S h k n (mkF W.m pc' Ls (.int v :: st))) : Run l R Z EL W Q S h k n (mkF W.m pc Ls (st)) := by
  subst hp
  exact Run.one (fun vm0 T locs X _ I t g => XS.iload X.here C.hx rfl (C.hb hd) hl g) r
theorem aloadN (C : Cx Z W own nm code maxL ret) {i : Fin 4} {v : Value} (hd : decode code pc = .ok (.aload_n i, 1)) (hl : Ls[i.val]? = some (.val v)) (hv : v.isRef = true) (hp : pc + 1 = pc')
    (r : Run l R Z EL W Q S h k n (mkF W.m pc' Ls (v :: st))) : Run l R Z EL W Q S h k n (mkF W.m pc Ls (st)) := by
  subst hp
  exact Run.one (fun vm0 T locs X _ I t g => XS.aloadN X.here C.hx rfl (C.hb hd) hl hv g) r
theorem aload (C : Cx Z W own nm code maxL ret) {i : Nat} {v : Value} (hd : decode code pc = .ok (.aload i, 2)) (hl : Ls[i]? = some (.val v)) (hv : v.isRef = true) (hp : pc + 2 = pc')
    (r : Run l R Z EL W Q S h k n (mkF W.m pc' Ls (v :: st))) : Run l R Z EL W Q S h k n (mkF W.m pc Ls (st)) := by
  subst hp
  exact Run.one (fun vm0 T locs X _ I t g => XS.aload X.here C.hx rfl (C.hb hd) hl hv g) r
theorem istoreN (C : Cx Z W own nm code maxL ret) {i : Fin 4} {v : Int32} {Ls' : Array Slot} (hd : decode code pc = .ok (.istore_n i, 1)) (hl : storeLocals Ls i.val (.int v) = some Ls') (hp : pc + 1 = pc')
    (r : Run l R Z EL W Q S h k n (mkF W.m pc' Ls' (st))) : Run l R Z EL W Q S h k n (mkF W.m pc Ls (.int v :: st)) := by
  subst hp
  exact Run.one (fun vm0 T locs X _ I t g => XS.istoreN X.here C.hx rfl (C.hb hd) rfl hl g) r
theorem istore (C : Cx Z W own nm code maxL ret) {i : Nat} {v : Int32} {Ls' : Array Slot} (hd : decode code pc = .ok (.istore i, 2)) (hl : storeLocals Ls i (.int v) = some Ls') (hp : pc + 2 = pc')
    (r : Run l R Z EL W Q S h k n (mkF W.m pc' Ls' (st))) : Run l R Z EL W Q S h k n (mkF W.m pc Ls (.int v :: st)) := by
  subst hp
  exact Run.one (fun vm0 T locs X _ I t g => XS.istore X.here C.hx rfl (C.hb hd) rfl hl g) r
theorem astoreN (C : Cx Z W own nm code maxL ret) {i : Fin 4} {v : Value} {Ls' : Array Slot} (hd : decode code pc = .ok (.astore_n i, 1)) (hv : v.isRef = true) (hl : storeLocals Ls i.val v = some Ls') (hp : pc + 1 = pc')
    (r : Run l R Z EL W Q S h k n (mkF W.m pc' Ls' (st))) : Run l R Z EL W Q S h k n (mkF W.m pc Ls (v :: st)) := by
  subst hp
  exact Run.one (fun vm0 T locs X _ I t g => XS.astoreN X.here C.hx rfl (C.hb hd) rfl hv hl g) r
theorem astore (C : Cx Z W own nm code maxL ret) {i : Nat} {v : Value} {Ls' : Array Slot} (hd : decode code pc = .ok (.astore i, 2)) (hv : v.isRef = true) (hl : storeLocals Ls i v = some Ls') (hp : pc + 2 = pc')
    (r : Run l R Z EL W Q S h k n (mkF W.m pc' Ls' (st))) : Run l R Z EL W Q S h k n (mkF W.m pc Ls (v :: st)) := by
  subst hp
  exact Run.one (fun vm0 T locs X _ I t g => XS.astore X.here C.hx rfl (C.hb hd) rfl hv hl g) r
theorem iconst (C : Cx Z W own nm code maxL ret) {i : Int} {v : Int32} (hd : decode code pc = .ok (.iconst i, 1)) (hv : Int32.ofInt i = v) (hp : pc + 1 = pc')
    (r : Run l R Z EL W Q S h k n (mkF W.m pc' Ls (.int v :: st))) : Run l R Z EL W Q S h k n (mkF W.m pc Ls (st)) := by
  subst hp
  exact Run.one (fun vm0 T locs X _ I t g => XS.iconst X.here C.hx rfl (C.hb hd) (hv ▸ g)) r
theorem bipush (C : Cx Z W own nm code maxL ret) {i : Int} {v : Int32} (hd : decode code pc = .ok (.bipush i, 2)) (hv : (Int8.ofInt i).toInt32 = v) (hp : pc + 2 = pc')
    (r : Run l R Z EL W Q S h k n (mkF W.m pc' Ls (.int v :: st))) : Run l R Z EL W Q S h k n (mkF W.m pc Ls (st)) := by
  subst hp
  exact Run.one (fun vm0 T locs X _ I t g => XS.bipush X.here C.hx rfl (C.hb hd) (hv ▸ g)) r
theorem sipush (C : Cx Z W own nm code maxL ret) {i : Int} {v : Int32} (hd : decode code pc = .ok (.sipush i, 3)) (hv : (Int16.ofInt i).toInt32 = v) (hp : pc + 3 = pc')
    (r : Run l R Z EL W Q S h k n (mkF W.m pc' Ls (.int v :: st))) : Run l R Z EL W Q S h k n (mkF W.m pc Ls (st)) := by
  subst hp
  exact Run.one (fun vm0 T locs X _ I t g => XS.sipush X.here C.hx rfl (C.hb hd) (hv ▸ g)) r
theorem aconstNull (C : Cx Z W own nm code maxL ret)  (hd : decode code pc = .ok (.aconst_null, 1)) (hp : pc + 1 = pc')
    (r : Run l R Z EL W Q S h k n (mkF W.m pc' Ls (.null :: st))) : Run l R Z EL W Q S h k n (mkF W.m pc Ls (st)) := by
  subst hp
  exact Run.one (fun vm0 T locs X _ I t g => XS.aconstNull X.here C.hx rfl (C.hb hd) g) r
theorem iadd (C : Cx Z W own nm code maxL ret) {x y v : Int32} (hd : decode code pc = .ok (.iadd, 1)) (hv : x + y = v) (hp : pc + 1 = pc')
    (r : Run l R Z EL W Q S h k n (mkF W.m pc' Ls (.int v :: st))) : Run l R Z EL W Q S h k n (mkF W.m pc Ls (.int y :: .int x :: st)) := by
  subst hp
  exact Run.one (fun vm0 T locs X _ I t g => XS.iadd X.here C.hx rfl (C.hb hd) rfl (hv ▸ g)) r
theorem isub (C : Cx Z W own nm code maxL ret) {x y v : Int32} (hd : decode code pc = .ok (.isub, 1)) (hv : x - y = v) (hp : pc + 1 = pc')
    (r : Run l R Z EL W Q S h k n (mkF W.m pc' Ls (.int v :: st))) : Run l R Z EL W Q S h k n (mkF W.m pc Ls (.int y :: .int x :: st)) := by
  subst hp
  exact Run.one (fun vm0 T locs X _ I t g => XS.isub X.here C.hx rfl (C.hb hd) rfl (hv ▸ g)) r
theorem iand (C : Cx Z W own nm code maxL ret) {x y v : Int32} (hd : decode code pc = .ok (.iand, 1)) (hv : x &&& y = v) (hp : pc + 1 = pc')
    (r : Run l R Z EL W Q S h k n (mkF W.m pc' Ls (.int v :: st))) : Run l R Z EL W Q S h k n (mkF W.m pc Ls (.int y :: .int x :: st)) := by
  subst hp
  exact Run.one (fun vm0 T locs X _ I t g => XS.iand X.here C.hx rfl (C.hb hd) rfl (hv ▸ g)) r
theorem irem (C : Cx Z W own nm code maxL ret) {x y v : Int32} (hd : decode code pc = .ok (.irem, 1)) (hy : ¬ y = 0) (hv : x % y = v) (hp : pc + 1 = pc')
    (r : Run l R Z EL W Q S h k n (mkF W.m pc' Ls (.int v :: st))) : Run l R Z EL W Q S h k n (mkF W.m pc Ls (.int y :: .int x :: st)) := by
  subst hp
  exact Run.one (fun vm0 T locs X _ I t g => iremM X C.hx rfl (C.hb hd) rfl hy (hv ▸ g)) r
theorem ishr (C : Cx Z W own nm code maxL ret) {x y v : Int32} (hd : decode code pc = .ok (.ishr, 1)) (hv : x >>> (y &&& 31) = v) (hp : pc + 1 = pc')
    (r : Run l R Z EL W Q S h k n (mkF W.m pc' Ls (.int v :: st))) : Run l R Z EL W Q S h k n (mkF W.m pc Ls (.int y :: .int x :: st)) := by
  subst hp
  exact Run.one (fun vm0 T locs X _ I t g => XS.ishr X.here C.hx rfl (C.hb hd) rfl (hv ▸ g)) r
theorem iushr (C : Cx Z W own nm code maxL ret) {x y v : Int32} (hd : decode code pc = .ok (.iushr, 1)) (hv : (x.toUInt32 >>> (y &&& 31).toUInt32).toInt32 = v) (hp : pc + 1 = pc')
    (r : Run l R Z EL W Q S h k n (mkF W.m pc' Ls (.int v :: st))) : Run l R Z EL W Q S h k n (mkF W.m pc Ls (.int y :: .int x :: st)) := by
  subst hp
  exact Run.one (fun vm0 T locs X _ I t g => XS.iushr X.here C.hx rfl (C.hb hd) rfl (hv ▸ g)) r
theorem i2b (C : Cx Z W own nm code maxL ret) {x : Int32} {v : Int32} (hd : decode code pc = .ok (.i2b, 1)) (hv : x.toInt8.toInt32 = v) (hp : pc + 1 = pc')
    (r : Run l R Z EL W Q S h k n (mkF W.m pc' Ls (.int v :: st))) : Run l R Z EL W Q S h k n (mkF W.m pc Ls (.int x :: st)) := by
  subst hp
  exact Run.one (fun vm0 T locs X _ I t g => XS.i2b X.here C.hx rfl (C.hb hd) rfl (hv ▸ g)) r
theorem i2c (C : Cx Z W own nm code maxL ret) {x : Int32} {v : Int32} (hd : decode code pc = .ok (.i2c, 1)) (hv : x.toUInt32.toUInt16.toUInt32.toInt32 = v) (hp : pc + 1 = pc')
    (r : Run l R Z EL W Q S h k n (mkF W.m pc' Ls (.int v :: st))) : Run l R Z EL W Q S h k n (mkF W.m pc Ls (.int x :: st)) := by
  subst hp
  exact Run.one (fun vm0 T locs X _ I t g => XS.i2c X.here C.hx rfl (C.hb hd) rfl (hv ▸ g)) r
theorem dup (C : Cx Z W own nm code maxL ret) {v : Value} (hd : decode code pc = .ok (.dup, 1)) (hc : v.category = 1) (hp : pc + 1 = pc')
    (r : Run l R Z EL W Q S h k n (mkF W.m pc' Ls (v :: v :: st))) : Run l R Z EL W Q S h k n (mkF W.m pc Ls (v :: st)) := by
  subst hp
  exact Run.one (fun vm0 T locs X _ I t g => XS.dup X.here C.hx rfl (C.hb hd) rfl hc g) r
theorem pop (C : Cx Z W own nm code maxL ret) {v : Value} (hd : decode code pc = .ok (.pop, 1)) (hc : v.category = 1) (hp : pc + 1 = pc')
    (r : Run l R Z EL W Q S h k n (mkF W.m pc' Ls (st))) : Run l R Z EL W Q S h k n (mkF W.m pc Ls (v :: st)) := by
  subst hp
  exact Run.one (fun vm0 T locs X _ I t g => XS.pop X.here C.hx rfl (C.hb hd) rfl hc g) r
theorem iinc (C : Cx Z W own nm code maxL ret) {i : Nat} {d : Int} {x v : Int32} {Ls' : Array Slot} (hd : decode code pc = .ok (.iinc i d, 3)) (hl : Ls[i]? = some (.val (.int x))) (hv : x + Int32.ofInt d = v) (hl' : storeLocals Ls i (.int v) = some Ls') (hp : pc + 3 = pc')
    (r : Run l R Z EL W Q S h k n (mkF W.m pc' Ls' st)) : Run l R Z EL W Q S h k n (mkF W.m pc Ls st) := by
  subst hp hv
  exact Run.one (fun vm0 T locs X _ I t g => XS.iinc X.here C.hx rfl (C.hb hd) hl hl' g) r
theorem goto (C : Cx Z W own nm code maxL ret) {o : Int} (hd : decode code pc = .ok (.goto o, 3)) (ho : 0 ≤ (pc : Int) + o) (hp : ((pc : Int) + o).toNat = pc')
    (r : Run l R Z EL W Q S h k n (mkF W.m pc' Ls st)) : Run l R Z EL W Q S h k n (mkF W.m pc Ls st) :=
  Run.one (fun vm0 T locs X _ I t g => XS.goto X.here C.hx rfl rfl (C.hb hd) ho hp g) r
theorem icmp_eq (C : Cx Z W own nm code maxL ret) {x y : Int32} {o : Int} {pcT : Nat} (hd : decode code pc = .ok (.if_icmp .eq o, 3)) (ho : 0 ≤ (pc : Int) + o) (hp : ((pc : Int) + o).toNat = pcT) (hp' : pc + 3 = pc')
    (rt : x = y → Run l R Z EL W Q S h k n (mkF W.m pcT Ls st)) (rf : ¬ x = y → Run l R Z EL W Q S h k n (mkF W.m pc' Ls st)) : Run l R Z EL W Q S h k n (mkF W.m pc Ls (.int y :: .int x :: st)) := by
  subst hp'
  by_cases q : x = y
  · exact Run.one (fun vm0 T locs X _ I t g => XS.icmpYes X.here C.hx rfl rfl (C.hb hd) rfl (teq q).1 ho hp g) (rt q)
  · exact Run.one (fun vm0 T locs X _ I t g => XS.icmpNo X.here C.hx rfl (C.hb hd) rfl (feq q).1 g) (rf q)
theorem if_eq (C : Cx Z W own nm code maxL ret) {x : Int32} {o : Int} {pcT : Nat} (hd : decode code pc = .ok (.ifCond .eq o, 3)) (ho : 0 ≤ (pc : Int) + o) (hp : ((pc : Int) + o).toNat = pcT) (hp' : pc + 3 = pc')
    (rt : x = (0 : Int32) → Run l R Z EL W Q S h k n (mkF W.m pcT Ls st)) (rf : ¬ x = (0 : Int32) → Run l R Z EL W Q S h k n (mkF W.m pc' Ls st)) : Run l R Z EL W Q S h k n (mkF W.m pc Ls (.int x :: st)) := by
  subst hp'
  by_cases q : x = (0 : Int32)
  · exact Run.one (fun vm0 T locs X _ I t g => XS.ifYes X.here C.hx rfl rfl (C.hb hd) rfl ((if0 _ _).trans (teq q).1) ho hp g) (rt q)
  · exact Run.one (fun vm0 T locs X _ I t g => XS.ifNo X.here C.hx rfl (C.hb hd) rfl ((if0 _ _).trans (feq q).1) g) (rf q)
theorem icmp_ne (C : Cx Z W own nm code maxL ret) {x y : Int32} {o : Int} {pcT : Nat} (hd : decode code pc = .ok (.if_icmp .ne o, 3)) (ho : 0 ≤ (pc : Int) + o) (hp : ((pc : Int) + o).toNat = pcT) (hp' : pc + 3 = pc')
    (rt : ¬ x = y → Run l R Z EL W Q S h k n (mkF W.m pcT Ls st)) (rf : x = y → Run l R Z EL W Q S h k n (mkF W.m pc' Ls st)) : Run l R Z EL W Q S h k n (mkF W.m pc Ls (.int y :: .int x :: st)) := by
  subst hp'
  by_cases q : x = y
  · exact Run.one (fun vm0 T locs X _ I t g => XS.icmpNo X.here C.hx rfl (C.hb hd) rfl (teq q).2 g) (rf q)
  · exact Run.one (fun vm0 T locs X _ I t g => XS.icmpYes X.here C.hx rfl rfl (C.hb hd) rfl (feq q).2 ho hp g) (rt q)
theorem if_ne (C : Cx Z W own nm code maxL ret) {x : Int32} {o : Int} {pcT : Nat} (hd : decode code pc = .ok (.ifCond .ne o, 3)) (ho : 0 ≤ (pc : Int) + o) (hp : ((pc : Int) + o).toNat = pcT) (hp' : pc + 3 = pc')
    (rt : ¬ x = (0 : Int32) → Run l R Z EL W Q S h k n (mkF W.m pcT Ls st)) (rf : x = (0 : Int32) → Run l R Z EL W Q S h k n (mkF W.m pc' Ls st)) : Run l R Z EL W Q S h k n (mkF W.m pc Ls (.int x :: st)) := by
  subst hp'
  by_cases q : x = (0 : Int32)
  · exact Run.one (fun vm0 T locs X _ I t g => XS.ifNo X.here C.hx rfl (C.hb hd) rfl ((if0 _ _).trans (teq q).2) g) (rf q)
  · exact Run.one (fun vm0 T locs X _ I t g => XS.ifYes X.here C.hx rfl rfl (C.hb hd) rfl ((if0 _ _).trans (feq q).2) ho hp g) (rt q)
theorem if_lt (C : Cx Z W own nm code maxL ret) {x : Int32} {o : Int} {pcT : Nat} (hd : decode code pc = .ok (.ifCond .lt o, 3)) (ho : 0 ≤ (pc : Int) + o) (hp : ((pc : Int) + o).toNat = pcT) (hp' : pc + 3 = pc')
    (rt : x < (0 : Int32) → Run l R Z EL W Q S h k n (mkF W.m pcT Ls st)) (rf : ¬ x < (0 : Int32) → Run l R Z EL W Q S h k n (mkF W.m pc' Ls st)) : Run l R Z EL W Q S h k n (mkF W.m pc Ls (.int x :: st)) := by
  subst hp'
  by_cases q : x < (0 : Int32)
  · exact Run.one (fun vm0 T locs X _ I t g => XS.ifYes X.here C.hx rfl rfl (C.hb hd) rfl ((if0 _ _).trans (tlt q).1) ho hp g) (rt q)
  · exact Run.one (fun vm0 T locs X _ I t g => XS.ifNo X.here C.hx rfl (C.hb hd) rfl ((if0 _ _).trans (flt q).1) g) (rf q)
theorem icmp_ge (C : Cx Z W own nm code maxL ret) {x y : Int32} {o : Int} {pcT : Nat} (hd : decode code pc = .ok (.if_icmp .ge o, 3)) (ho : 0 ≤ (pc : Int) + o) (hp : ((pc : Int) + o).toNat = pcT) (hp' : pc + 3 = pc')
    (rt : ¬ x < y → Run l R Z EL W Q S h k n (mkF W.m pcT Ls st)) (rf : x < y → Run l R Z EL W Q S h k n (mkF W.m pc' Ls st)) : Run l R Z EL W Q S h k n (mkF W.m pc Ls (.int y :: .int x :: st)) := by
  subst hp'
  by_cases q : x < y
  · exact Run.one (fun vm0 T locs X _ I t g => XS.icmpNo X.here C.hx rfl (C.hb hd) rfl (tlt q).2.1 g) (rf q)
  · exact Run.one (fun vm0 T locs X _ I t g => XS.icmpYes X.here C.hx rfl rfl (C.hb hd) rfl (flt q).2.1 ho hp g) (rt q)
theorem icmp_gt (C : Cx Z W own nm code maxL ret) {x y : Int32} {o : Int} {pcT : Nat} (hd : decode code pc = .ok (.if_icmp .gt o, 3)) (ho : 0 ≤ (pc : Int) + o) (hp : ((pc : Int) + o).toNat = pcT) (hp' : pc + 3 = pc')
    (rt : y < x → Run l R Z EL W Q S h k n (mkF W.m pcT Ls st)) (rf : ¬ y < x → Run l R Z EL W Q S h k n (mkF W.m pc' Ls st)) : Run l R Z EL W Q S h k n (mkF W.m pc Ls (.int y :: .int x :: st)) := by
  subst hp'
  by_cases q : y < x
  · exact Run.one (fun vm0 T locs X _ I t g => XS.icmpYes X.here C.hx rfl rfl (C.hb hd) rfl (tlt q).2.2.1 ho hp g) (rt q)
  · exact Run.one (fun vm0 T locs X _ I t g => XS.icmpNo X.here C.hx rfl (C.hb hd) rfl (flt q).2.2.1 g) (rf q)
theorem icmp_le (C : Cx Z W own nm code maxL ret) {x y : Int32} {o : Int} {pcT : Nat} (hd : decode code pc = .ok (.if_icmp .le o, 3)) (ho : 0 ≤ (pc : Int) + o) (hp : ((pc : Int) + o).toNat = pcT) (hp' : pc + 3 = pc')
    (rt : ¬ y < x → Run l R Z EL W Q S h k n (mkF W.m pcT Ls st)) (rf : y < x → Run l R Z EL W Q S h k n (mkF W.m pc' Ls st)) : Run l R Z EL W Q S h k n (mkF W.m pc Ls (.int y :: .int x :: st)) := by
  subst hp'
  by_cases q : y < x
  · exact Run.one (fun vm0 T locs X _ I t g => XS.icmpNo X.here C.hx rfl (C.hb hd) rfl (tlt q).2.2.2 g) (rf q)
  · exact Run.one (fun vm0 T locs X _ I t g => XS.icmpYes X.here C.hx rfl rfl (C.hb hd) rfl (flt q).2.2.2 ho hp g) (rt q)
theorem if_le (C : Cx Z W own nm code maxL ret) {x : Int32} {o : Int} {pcT : Nat} (hd : decode code pc = .ok (.ifCond .le o, 3)) (ho : 0 ≤ (pc : Int) + o) (hp : ((pc : Int) + o).toNat = pcT) (hp' : pc + 3 = pc')
    (rt : ¬ (0 : Int32) < x → Run l R Z EL W Q S h k n (mkF W.m pcT Ls st)) (rf : (0 : Int32) < x → Run l R Z EL W Q S h k n (mkF W.m pc' Ls st)) : Run l R Z EL W Q S h k n (mkF W.m pc Ls (.int x :: st)) := by
  subst hp'
  by_cases q : (0 : Int32) < x
  · exact Run.one (fun vm0 T locs X _ I t g => XS.ifNo X.here C.hx rfl (C.hb hd) rfl ((if0 _ _).trans (tlt q).2.2.2) g) (rf q)
  · exact Run.one (fun vm0 T locs X _ I t g => XS.ifYes X.here C.hx rfl rfl (C.hb hd) rfl ((if0 _ _).trans (flt q).2.2.2) ho hp g) (rt q)
theorem Run.via {g g' : JFrame} (f : ∀ vm0 T locs, Std l R W vm0 T locs k n → T.heap = h → Inv Z EL W S vm0 h → ∃ T', Std l R W vm0 T' locs k n ∧ T'.heap = h ∧ ∀ t, Steps W.p.tables W.e W.b (T'.setTop g') t → Steps W.p.tables W.e W.b (T.setTop g) t) (r : Run l R Z EL W Q S h k n g') : Run l R Z EL W Q S h k n g :=
  fun vm0 T locs X eT N O I => by
    obtain ⟨T', X', e', s'⟩ := f vm0 T locs X eT I
    exact Go.step s' (r vm0 T' locs X' e' N O I)
theorem getF (C : Cx Z W own nm code maxL ret) {R0 O nmF d : String} {ix : Nat} (hd : decode code pc = .ok (.getfield ix, 3)) (w : (Cond.fieldLink own ix R0 nmF d).before a0 Z = true) (via : Via Z R0 O nmF d) {a : Addr} {v : Value} (F : Fld Z h a O nmF d v) (hp : pc + 3 = pc')
    (r : Run l R Z EL W Q S h k n (mkF W.m pc' Ls (v :: st))) : Run l R Z EL W Q S h k n (mkF W.m pc Ls (.ref a :: st)) := by
  subst hp
  exact Run.via (fun vm0 T locs X eT I => RoadKit.getF X C.hx I.hZ (I.ow C) (host := "") (Or.inl w) via eT F (g := mkF W.m pc Ls (.ref a :: st)) rfl rfl (C.hb hd)) r
theorem getS (C : Cx Z W own nm code maxL ret) {R0 O nmF d : String} {ix : Nat} (hd : decode code pc = .ok (.getstatic ix, 3)) (w : (Cond.fieldLink own ix R0 nmF d).before a0 Z = true) (via : Via Z R0 O nmF d) {v : Value} (F : Sta Z h O nmF d v) (hp : pc + 3 = pc')
    (r : Run l R Z EL W Q S h k n (mkF W.m pc' Ls (v :: st))) : Run l R Z EL W Q S h k n (mkF W.m pc Ls st) := by
  subst hp
  exact Run.via (fun vm0 T locs X eT I => getS2 X C.hx I.hZ (I.ow C) (host := "") (Or.inl w) via eT F (g := mkF W.m pc Ls st) rfl (C.hb hd)) r
theorem alen (C : Cx Z W own nm code maxL ret) (hd : decode code pc = .ok (.arraylength, 1)) {a : Addr} {ty : FieldType} {vs : List Value} {z : Int32} (F : Ary Z h a ty vs) (hz : Int32.ofNat vs.length = z) (hp : pc + 1 = pc')
    (r : Run l R Z EL W Q S h k n (mkF W.m pc' Ls (.int z :: st))) : Run l R Z EL W Q S h k n (mkF W.m pc Ls (.ref a :: st)) := by
  subst hp hz
  obtain ⟨c, A, e, -⟩ := F
  have e2 : c.slots.size.toInt32 = Int32.ofNat vs.length := by rw [e]; simp
  exact Run.one (fun vm0 T locs X eT I t g => X.arraylength C.hx (by rw [eT]; exact A.1) (State.isArrayOf_alike I.hZ.alike A.2.1) (g := mkF W.m pc Ls (.ref a :: st)) rfl rfl (C.hb hd) t (by rw [e2]; exact g)) r
theorem caload (C : Cx Z W own nm code maxL ret) (hd : decode code pc = .ok (.caload, 1)) {a : Addr} {vs : List Value} {j : Int32} {v : Value} (F : Ary Z h a .char vs) (h0 : ¬ j < 0) (hv : vs[j.toNatClampNeg]? = some v) (hp : pc + 1 = pc')
    (r : Run l R Z EL W Q S h k n (mkF W.m pc' Ls (v :: st))) : Run l R Z EL W Q S h k n (mkF W.m pc Ls (.int j :: .ref a :: st)) := by
  subst hp
  obtain ⟨c, A, e, -⟩ := F
  have h1 : j.toNatClampNeg < vs.length := (List.getElem?_eq_some_iff.mp hv).1
  exact Run.one (fun vm0 T locs X eT I t g => X.caload C.hx (by rw [eT]; exact A.1) (State.isArrayOf_alike I.hZ.alike A.2.1) A.2.2 (Ary.inb (a := a) (ty := .char) e h0 h1) (by rw [e]; simpa using hv) (g := mkF W.m pc Ls (.int j :: .ref a :: st)) rfl rfl (C.hb hd) t g) r
theorem baload (C : Cx Z W own nm code maxL ret) (hd : decode code pc = .ok (.baload, 1)) {a : Addr} {vs : List Value} {j : Int32} {v : Value} (F : Ary Z h a .byte vs) (h0 : ¬ j < 0) (hv : vs[j.toNatClampNeg]? = some v) (hp : pc + 1 = pc')
    (r : Run l R Z EL W Q S h k n (mkF W.m pc' Ls (v :: st))) : Run l R Z EL W Q S h k n (mkF W.m pc Ls (.int j :: .ref a :: st)) := by
  subst hp
  obtain ⟨c, A, e, -⟩ := F
  have h1 : j.toNatClampNeg < vs.length := (List.getElem?_eq_some_iff.mp hv).1
  exact Run.one (fun vm0 T locs X eT I t g => X.baloadBytes C.hx (by rw [eT]; exact A.1) (State.isArrayOf_alike I.hZ.alike A.2.1) A.2.2 (Ary.inb (a := a) (ty := .byte) e h0 h1) (by rw [e]; simpa using hv) (g := mkF W.m pc Ls (.int j :: .ref a :: st)) rfl rfl (C.hb hd) t g) r
theorem Run.wrote {a : Addr} {sl : Nat} {v : Value} {g g' : JFrame} (ha : Z.heap.size ≤ a) (hs : a ∈ S) (f : ∀ vm0 T locs, Std l R W vm0 T locs k n → T.heap = h → Inv Z EL W S vm0 h → ∃ T' h', Std l R W vm0 T' (locs ++ [⟨a, sl⟩]) k n ∧ T'.heap = h' ∧ Wr h h' a sl v ∧ ∀ t, Steps W.p.tables W.e W.b (T'.setTop g') t → Steps W.p.tables W.e W.b (T.setTop g) t)
    (r : ∀ h', Wr h h' a sl v → Ext Z.heap h' → Run l R Z EL W Q S h' k n g') : Run l R Z EL W Q S h k n g := fun vm0 T locs X eT N O I => by
  obtain ⟨T', h', X', e', w', s'⟩ := f vm0 T locs X eT I
  have O' : Ext Z.heap h' := ((old_of O).wr w' ha).2
  exact Go.step s' (r h' w' O' vm0 T' _ X' e' (Fr.snoc X' N ha) O' (I.keep (Keep.of_wr w') fun x hx => by cases List.mem_singleton.mp hx; exact hs))
theorem putF (C : Cx Z W own nm code maxL ret) {R0 O nmF d K : String} {ix kk : Nat} {ty : FieldType} (hd : decode code pc = .ok (.putfield ix, 3)) (w : (Cond.fieldLink own ix R0 nmF d).before a0 Z = true) (via : Via Z R0 O nmF d) {a : Addr} {v old : Value} (F : Fld Z h a O nmF d old) (E : Exa Z h a K)
    (L : (Cond.lays K O nmF d).before a0 Z = true ∨ ((Cond.laysFinal K O nmF d).before a0 Z = true ∧ own = O ∧ nm = "<init>")) (wi : (Cond.instantiable K kk).before a0 Z = true) (hty : parseFieldDescriptor d = some ty) (hn : narrow ty v = v) (hf : fits ty v = true) (ha : Z.heap.size ≤ a) (hs' : a ∈ S) (hp : pc + 3 = pc')
    (r : ∀ h', Wr h h' a (RoadKit.slotOf Z O nmF d) v → Ext Z.heap h' → Run l R Z EL W Q S h' k n (mkF W.m pc' Ls st)) : Run l R Z EL W Q S h k n (mkF W.m pc Ls (v :: .ref a :: st)) := by
  subst hp
  exact Run.wrote ha hs' (fun vm0 T locs X eT I => RoadKit.putF X C.hx I.hZ (I.ow C) (host := "") (Or.inl w) via eT F E (L.imp id fun q => ⟨q.1, q.2.1, C.nme.trans q.2.2⟩) wi hty hn hf (g := mkF W.m pc Ls (v :: .ref a :: st)) rfl rfl (C.hb hd)) r
theorem castore (C : Cx Z W own nm code maxL ret) (hd : decode code pc = .ok (.castore, 1)) {a : Addr} {vs vs' : List Value} {j x : Int32} (F : Ary Z h a .char vs) (h0 : ¬ j < 0) (h1 : j.toNatClampNeg < vs.length) (hx : nar .char x = x) (hs : vs.set j.toNatClampNeg (.int x) = vs') (ha : Z.heap.size ≤ a) (hs' : a ∈ S) (hp : pc + 1 = pc')
    (r : ∀ h', Wr h h' a j.toNatClampNeg (.int x) → Ary Z h' a .char vs' → Ext Z.heap h' → Run l R Z EL W Q S h' k n (mkF W.m pc' Ls st)) : Run l R Z EL W Q S h k n (mkF W.m pc Ls (.int x :: .int j :: .ref a :: st)) := by
  subst hp hs
  have F' := F
  obtain ⟨c, A, e, -⟩ := F'
  exact Run.wrote ha hs' (fun vm0 T locs X eT I => by have w0 := RoadKit.stC X C.hx I.hZ eT A (Ary.inb (a := a) (ty := .char) e h0 h1) (g := mkF W.m pc Ls (.int x :: .int j :: .ref a :: st)) rfl rfl (C.hb hd); rw [hx] at w0; exact w0) (fun h' w' O' => r h' w' (F.set w' (hx ▸ fits_nar_char x)) O')
theorem bastore (C : Cx Z W own nm code maxL ret) (hd : decode code pc = .ok (.bastore, 1)) {a : Addr} {vs vs' : List Value} {j x : Int32} (F : Ary Z h a .byte vs) (h0 : ¬ j < 0) (h1 : j.toNatClampNeg < vs.length) (hs : vs.set j.toNatClampNeg (.int (nar .byte x)) = vs') (ha : Z.heap.size ≤ a) (hs' : a ∈ S) (hp : pc + 1 = pc')
    (r : ∀ h', Wr h h' a j.toNatClampNeg (.int (nar .byte x)) → Ary Z h' a .byte vs' → Ext Z.heap h' → Run l R Z EL W Q S h' k n (mkF W.m pc' Ls st)) : Run l R Z EL W Q S h k n (mkF W.m pc Ls (.int x :: .int j :: .ref a :: st)) := by
  subst hp hs
  have F' := F
  obtain ⟨c, A, e, -⟩ := F'
  exact Run.wrote ha hs' (fun vm0 T locs X eT I => by have w0 := RoadKit.stB X C.hx I.hZ eT A (Ary.inb (a := a) (ty := .byte) e h0 h1) (g := mkF W.m pc Ls (.int x :: .int j :: .ref a :: st)) rfl rfl (C.hb hd); exact w0) (fun h' w' O' => r h' w' (F.set w' (fits_nar_byte x)) O')
theorem newO (C : Cx Z W own nm code maxL ret) {K : String} {ix sl k' n' : Nat} (hd : decode code pc = .ok (.new ix, 3)) (w : (Cond.classLink own ix K).before a0 Z = true) (wi : (Cond.instantiable K sl).before a0 Z = true) (wz : (Cond.initialized K).before a0 Z = true) (hc : k + 1 = k') (hl : n + sl = n') (hc' : k' ≤ R.cells) (hl' : n' ≤ R.slots) (hp : pc + 3 = pc')
    (r : ∀ a h', a = h.size → Z.heap.size ≤ a → Ext h h' → Exa Z h' a K → Fresh Z a0 h' a K → Unt h' a → Ext Z.heap h' → Run l R Z EL W Q (a :: S) h' k' n' (mkF W.m pc' Ls (.ref a :: st))) : Run l R Z EL W Q S h k n (mkF W.m pc Ls st) := by
  subst hp hc hl
  intro vm0 T locs X eT N O I
  obtain ⟨T', h', X', e', E', A', D', U', s'⟩ := RoadKit.newO X C.hx I.hZ (I.ow C) w wi wz eT (g := mkF W.m pc Ls st) rfl (C.hb hd) hc' hl'
  have O' : Ext Z.heap h' := ((old_of O).ext E').2
  exact Go.step s' (r h.size h' rfl O.1 E' A' D' U' O' vm0 T' locs X' e' N O' (I.fresh E' A'.lt))
theorem newA (C : Cx Z W own nm code maxL ret) {aty : ArrayType} {ty : FieldType} {z : Int32} {k' n' cap : Nat} (hd : decode code pc = .ok (.newarray aty, 2)) (ht : newarray.typeOf aty = ty) (w : (Cond.arrayClass ty).before a0 Z = true) (hz : ¬ z < 0) (hcap : z.toNatClampNeg ≤ cap) (hb : cap * 8 ≤ 536870912) (hc : k + 1 = k') (hl : n + cap = n') (hc' : k' ≤ R.cells) (hl' : n' ≤ R.slots) (hdf : fits ty (defaultValue ty) = true) (hp : pc + 2 = pc')
    (r : ∀ a h', a = h.size → Z.heap.size ≤ a → Ext h h' → Ary Z h' a ty (List.replicate z.toNatClampNeg (defaultValue ty)) → Ext Z.heap h' → Run l R Z EL W Q (a :: S) h' k' n' (mkF W.m pc' Ls (.ref a :: st))) : Run l R Z EL W Q S h k n (mkF W.m pc Ls (.int z :: st)) := by
  subst hp hc hl ht
  intro vm0 T locs X eT N O I
  obtain ⟨T', h', cA, X', e', E', A', s'⟩ := newP X C.hx I.hZ w eT (g := mkF W.m pc Ls (.int z :: st)) rfl (C.hb hd) rfl hz hcap hb hc' hl'
  have O' : Ext Z.heap h' := ((old_of O).ext E').2
  have hz2 : z.toNatClampNeg < 2 ^ 31 := (back32 hz).2
  refine Go.step s' (r h.size h' rfl O.1 E' ⟨_, A', ?_, by simpa using hz2, fun v hv => ?_⟩ O' vm0 T' locs X' e' N O' (I.fresh E' A'.lt))
  · show Array.replicate _ _ = _
    simp
  · rw [(List.mem_replicate.mp hv).2]; exact hdf
theorem initO (C : Cx Z W own nm code maxL ret) {ix Wn : Nat} (hd : decode code pc = .ok (.invokespecial ix, 3)) (w1 : (Cond.methodLink own ix Lib.objectInit).before a0 Z = true) (w2 : (Cond.instanceMethod Lib.objectInit).before a0 Z = true) (w3 : (Cond.code Lib.objectInit ⟨#[0xb1]⟩ 1 none).before a0 Z = true) {a : Addr} (hsz : Ls.size = maxL) (hf : 1 ≤ R.frames) (hW : (st.map fun v => v.category).sum ≤ Wn) (hl : Wn + 12 ≤ R.locals) (hp : pc + 3 = pc')
    (r : Run l R Z EL W Q S h k n (mkF W.m pc' Ls st)) : Run l R Z EL W Q S h k n (mkF W.m pc Ls (.ref a :: st)) := by
  subst hp
  exact Run.via (fun vm0 T locs X eT I => RoadKit.initO X C.hx I.hZ (I.ow C) w1 w2 w3 eT (g := mkF W.m pc Ls (.ref a :: st)) rfl (hsz.trans C.ml.symm) rfl (C.hb hd) hf (W := Wn) (by show 2 * 0 + _ ≤ _; omega) hl) r
/-- a String constant -/
theorem ldcS (C : Cx Z W own nm code maxL ret) {ix k' n' nb : Nat} {text : String} {vs : List Value} {z : Int32} (hd : decode code pc = .ok (.ldc ix, 2)) (w : (Cond.stringLink own ix text).before a0 Z = true) (wS : ∀ a ∈ Bundle.stringAtoms, a.before a0 Z = true) (hE : EW Z a0 EL) (hm : (own, ix) ∈ EL) (ht : (∀ c ∈ text.toList, c.toNat < 256) ∧ text.toList.map (fun c => Value.int (Jvm.Lit.byteI c.toNat.toUInt16)) = vs) (hz : ¬ z < 0) (hl : z.toNatClampNeg = vs.length)
    (hn : 4 * text.toList.length ≤ nb) (hb : nb ≤ 536870912) (hk : k + 2 = k') (hn' : n + (nb + 4) = n') (hc : k' ≤ R.cells) (hl' : n' ≤ R.slots) (hp : pc + 2 = pc')
    (r : ∀ a b h', Ext h h' → Exa Z h' a "java/lang/String" → Fld Z h' a "java/lang/String" "coder" "B" (.int 0) → Fld Z h' a "java/lang/String" "value" "[B" (.ref b) → Ary Z h' b .byte vs → (∀ x ∈ S, x ≠ a ∧ x ≠ b) → Ext Z.heap h' → Run l R Z EL W Q S h' k' n' (mkF W.m pc' Ls (.ref a :: st))) : Run l R Z EL W Q S h k n (mkF W.m pc Ls st) := by
  subst hp hk hn'
  intro vm0 T locs X eT N O I
  have I0 := I
  obtain ⟨⟨k0, hS, hk0⟩, hZ, hr, hs⟩ := I
  obtain ⟨a, T', h', k1, b, kc, X', e', E', hS', hk1, hZ', -, A', Cd', V', F', -, -, CH', -, ne', s'⟩ := ldcCH X C.hx hZ (I0.ow C) w wS eT hS hk0 hE hm hr.1 ht hz hl (g := mkF W.m pc Ls st) rfl (C.hb hd) hn hb hc hl'
  have O' : Ext Z.heap h' := ((old_of O).ext E').2
  have I' : Inv Z EL W S T'.vm h' := ⟨⟨k1, hS', hk1⟩, hZ', hr.trans CH', fun x hx => ⟨Nat.lt_of_lt_of_le (hs x hx).1 E'.1, CH'.safe (hs x hx).1 (hs x hx).2⟩⟩
  exact Go.step s' (r a b h' E' A' Cd' V' (Ary.of_arv F' hl) (fun x hx => ne' x (I'.2.2.2 x hx).2) O' T'.vm T' locs X' e' N O' I')
/-! ## contracts and calls -/
def Con (l : Launch) (Z : State) (EL : List (String × Nat)) (y : MethodName) (bytes : ByteArray) (maxL : Nat) (ret : Option FieldType) (rm : Room) (as' : Array Value) (h0 : Heap) (Q : Post) : Prop :=
  ∀ ws, MetFree l y (head1 (Jvm.Cond.code y bytes maxL ret :: ws) rm) (fun a U => a = as' ∧ Z.Warmed39 U.vm ∧ U.heap = h0 ∧ CHv Z EL U.vm h0) (fun _ _ _ _ _ => True) (fun _ U o U' => ∃ v L, o = .returned v ∧ (Q v U'.heap ∧ Ext Z.heap U'.heap ∧ Fr Z.heap.size L) ∧ CHr Z EL U.vm U.heap U'.vm U'.heap ∧ ReturnedEndW U o U' L rm.cells rm.slots)
theorem Con.intro {y : MethodName} {bytes : ByteArray} {rm : Room} {as' : Array Value} {Ls0 : Array Slot} (hy : plainFor y = true) (O : Ext Z.heap h) (he : ∀ m, entryFrame m as' maxL = mkF m 0 Ls0 [])
    (body : ∀ W : Wd, Cx Z W y.cls y.name bytes maxL ret → Run l rm Z EL W Q [] h 0 0 (mkF W.m 0 Ls0 [])) : Con l Z EL y bytes maxL ret rm as' h Q := by
  intro ws
  refine MetFree.of_bodySF hy hisR ?_
  intro p e s m args below meth c s₁ Bd hml0 hP hK
  obtain ⟨rfl, hZ, hh, hCH⟩ := hP
  have e0 : s₁.heap = h := by rw [← hh, Bd.state]; rfl
  have X0 : Stand p l e rm s m args below meth c s₁ [] 0 0 := Stand.of_body Bd
  have I0 : Inv Z EL (p, e, s, m, args, below, meth, c) [] s.vm h := ⟨⟨h.size, (State.WarmedH.refl s).since _, Nat.le_refl _⟩, hZ, by rw [← hh] at hCH ⊢; exact CHr.refl hCH, fun _ q => nomatch q⟩
  have r := body (p, e, s, m, args, below, meth, c) ⟨Bd.exec, Bd.bytes, hml0, findClass_of_methodNamed Bd.named, hZ, Bd.returns, (name_of_methodNamed Bd.named Bd.method).1, Bd.notSynchronized⟩ s.vm s₁ [] X0 e0 (Fr.nil _) O I0
  rw [he m]
  exact r
section Calls
variable {y : MethodName} {bytes : ByteArray} {mxL : Nat} {rt : Option FieldType} {rm : Room} {Qc : Post} {argsL : List Value} {as' : Array Value} {ix Wn k' n' kc nc : Nat} {st' : List Value}
/-- how a narrow callee leaves the heap -/
def Car (S : List Addr) (h h' : Heap) : Prop := h' = h ∨ Ext h h' ∨ ∃ a ∈ S, Keep h h' [a]
theorem Inv.car {vm0 : Vm} {h' : Heap} (I : Inv Z EL W S vm0 h) (c : Car S h h') : Inv Z EL W S vm0 h' := by
  rcases c with rfl | E | ⟨a, ha, K⟩
  · exact I
  · exact I.ext E
  · exact I.keep K fun x hx => by cases List.mem_singleton.mp hx; exact ha
abbrev PaysS (l : Launch) (R : Room) (Z : State) (EL : List (String × Nat)) (W : Wd) (vm0 : Vm) (y : MethodName) (ln Wn : Nat) (as' : Array Value) (h : Heap) (kc nc : Nat) (Qv : Option Value → Heap → List Loc → Prop) : Prop :=
  BackS l R W.p W.e W.b (W.s.setVm vm0) W.a y ln Wn (fun P a => a = as' ∧ P.U.heap = h ∧ P.cells + kc ≤ R.cells ∧ P.slots + nc ≤ R.slots) (fun P _ v B => ∃ L, Qv v B.U.heap L ∧ B.locs = P.locs ++ L ∧ B.cells = P.cells + kc ∧ B.slots = P.slots + nc ∧ CHr Z EL vm0 h B.U.vm B.U.heap)
theorem Con.pays {ln : Nat} (hE : EW Z a0 EL) (K : Con l Z EL y bytes mxL rt rm as' h Qc) (w4 : (Cond.code y bytes mxL rt).before a0 Z = true) (wz : (Cond.initialized y.cls).before a0 Z = true) (hf : rm.frames + 1 ≤ R.frames) (hl : Wn + (mxL + 11) + rm.locals ≤ R.locals) : ∀ vm0, Inv Z EL W S vm0 h →
    PaysS l R Z EL W vm0 y ln Wn as' h rm.cells rm.slots (fun v h' L => Qc v h' ∧ Ext Z.heap h' ∧ Fr Z.heap.size L) := fun vm0 I => backOfSH (W := Wn) (Q := fun v h' L => Qc v h' ∧ Ext Z.heap h' ∧ Fr Z.heap.size L) (K []) I.2.1 w4 wz hf hl hE I.ch
theorem Inv.back {vm0 vm1 : Vm} {h1 : Heap} (I : Inv Z EL W S vm0 h) (hS : (W.s.setVm vm0).Since vm1 h1.size) (hg : h.size ≤ h1.size) (hr : CHr Z EL vm0 h vm1 h1) : Inv Z EL W S vm1 h1 := by
  obtain ⟨⟨k0, hS0, hk⟩, hZ, hr0, hs⟩ := I
  exact ⟨⟨h1.size, hS0.trans hS (Nat.le_trans hk hg), Nat.le_refl _⟩, State.Warmed39.trans (t := W.s.setVm vm0) hZ hS.1, hr0.trans hr, fun x hx => ⟨Nat.lt_of_lt_of_le (hs x hx).1 hg, hr.safe (hs x hx).1 (hs x hx).2⟩⟩
theorem callS (C : Cx Z W own nm code maxL ret) (hd : decode code pc = .ok (.invokestatic ix, 3)) {Qv : Option Value → Heap → List Loc → Prop} (K : ∀ vm0, Cx Z (At W vm0) own nm code maxL ret → Wk.Pays l R (At W vm0) y 3 Wn as' h kc nc Qv) (hQ : Clean Z Qc Qv) (hcar : ∀ v h', Qc v h' → Car S h h') (w1 : (Cond.methodLink own ix y).before a0 Z = true) (w2 : (Cond.static y).before a0 Z = true) (w3 : (Cond.initialized y.cls).before a0 Z = true) (w4 : (Cond.code y bytes mxL rt).before a0 Z = true) (hy : y.cls ≠ "java/lang/invoke/MethodHandle" ∧ y.cls ≠ "java/lang/invoke/VarHandle")
    (has : argsL.toArray = as') (hst : argsL.reverse ++ st = st') (hlen : ∀ sig, parseMethodDescriptor y.desc = some sig → argsL.length = sig.parameters.length) (hsz : Ls.size = maxL) (hW : (st.map fun v => v.category).sum ≤ Wn) (hk : k + kc = k') (hn : n + nc = n') (hk' : k' ≤ R.cells) (hn' : n' ≤ R.slots) (hp : pc + 3 = pc')
    (r : ∀ v h', Qc v h' → Ext Z.heap h' → Run l R Z EL W Q S h' k' n' (mkF W.m pc' Ls (v.toList ++ st))) : Run l R Z EL W Q S h k n (mkF W.m pc Ls st') := by
  subst hp hk hn has hst
  intro vm0 T locs X eT N O I
  obtain ⟨v, vm₁, ⟨T', L', k', n'⟩, -, X', ⟨L, q0, l1, y1, z1⟩, s'⟩ := Jvm.LawKit.callS X C.hx (y := y) (I.ow C) (mvT I.hZ w1) (mvT I.hZ w2) (mvT I.hZ w3) (mvT I.hZ w4) hy (K vm0 (I.cx C)) (g := mkF W.m pc Ls (argsL.reverse ++ st)) rfl (hsz.trans C.ml.symm) (argsL := argsL) (rest := st) hlen rfl (by show 2 * 0 + _ ≤ _; omega) (C.hb hd) (fun _ _ => ⟨rfl, eT, hk', hn'⟩)
  dsimp only [Pt.U, Pt.locs, Pt.cells, Pt.slots] at X' l1 y1 z1 s' q0
  subst l1 y1 z1
  obtain ⟨q1, q2, q3⟩ := hQ _ _ _ q0
  exact Go.step s' (r v T'.heap q1 q2 vm0 T' _ X' rfl (N.app q3) q2 (I.car (hcar _ _ q1)))
theorem callSS (C : Cx Z W own nm code maxL ret) (hd : decode code pc = .ok (.invokestatic ix, 3)) {Qv : Option Value → Heap → List Loc → Prop} (K : ∀ vm0, Inv Z EL W S vm0 h → PaysS l R Z EL W vm0 y 3 Wn as' h kc nc Qv) (hQ : Clean Z Qc Qv) (w1 : (Cond.methodLink own ix y).before a0 Z = true) (w2 : (Cond.static y).before a0 Z = true) (w3 : (Cond.initialized y.cls).before a0 Z = true) (w4 : (Cond.code y bytes mxL rt).before a0 Z = true) (hy : y.cls ≠ "java/lang/invoke/MethodHandle" ∧ y.cls ≠ "java/lang/invoke/VarHandle")
    (has : argsL.toArray = as') (hst : argsL.reverse ++ st = st') (hlen : ∀ sig, parseMethodDescriptor y.desc = some sig → argsL.length = sig.parameters.length) (hsz : Ls.size = maxL) (hW : (st.map fun v => v.category).sum ≤ Wn) (hk : k + kc = k') (hn : n + nc = n') (hk' : k' ≤ R.cells) (hn' : n' ≤ R.slots) (hp : pc + 3 = pc')
    (r : ∀ v h', Qc v h' → Ext Z.heap h' → Run l R Z EL W Q S h' k' n' (mkF W.m pc' Ls (v.toList ++ st))) : Run l R Z EL W Q S h k n (mkF W.m pc Ls st') := by
  subst hp hk hn has hst
  intro vm0 T locs X eT N O I
  obtain ⟨v, vm₁, ⟨T', L', k', n'⟩, -, X', hS, hg, ⟨L, q0, l1, y1, z1, hr⟩, s'⟩ := callSS X C.hx (y := y) (I.ow C) (mvT I.hZ w1) (mvT I.hZ w2) (mvT I.hZ w3) (mvT I.hZ w4) hy (K vm0 I) (g := mkF W.m pc Ls (argsL.reverse ++ st)) rfl (hsz.trans C.ml.symm) (argsL := argsL) (rest := st) hlen rfl (by show 2 * 0 + _ ≤ _; omega) (C.hb hd) (fun _ _ => ⟨rfl, eT, hk', hn'⟩)
  dsimp only [Pt.U, Pt.locs, Pt.cells, Pt.slots] at X' l1 y1 z1 s' q0 hS hg hr
  subst l1 y1 z1
  obtain ⟨q1, q2, q3⟩ := hQ _ _ _ q0
  exact Go.step (fun t => s'.trans) (r v T'.heap q1 q2 T'.vm T' _ X' rfl (N.app q3) q2 (I.back hS (eT ▸ hg) hr))
theorem callI (C : Cx Z W own nm code maxL ret) (hd : decode code pc = .ok (.invokespecial ix, 3)) {a : Addr} {Qv : Option Value → Heap → List Loc → Prop} (K : ∀ vm0, Cx Z (At W vm0) own nm code maxL ret → Wk.Pays l R (At W vm0) y 3 Wn as' h kc nc Qv) (hQ : Clean Z Qc Qv) (hcar : ∀ v h', Qc v h' → Car S h h') (hi : y.name = "<init>") (w1 : (Cond.methodLink own ix y).before a0 Z = true) (w2 : (Cond.instanceMethod y).before a0 Z = true) (w4 : (Cond.code y bytes mxL none).before a0 Z = true) (hy : y.cls ≠ "java/lang/invoke/MethodHandle" ∧ y.cls ≠ "java/lang/invoke/VarHandle")
    (has : (Value.ref a :: argsL).toArray = as') (hst : argsL.reverse ++ .ref a :: st = st') (hlen : ∀ sig, parseMethodDescriptor y.desc = some sig → argsL.length = sig.parameters.length) (hsz : Ls.size = maxL) (hW : (st.map fun v => v.category).sum ≤ Wn) (hk : k + kc = k') (hn : n + nc = n') (hk' : k' ≤ R.cells) (hn' : n' ≤ R.slots) (hp : pc + 3 = pc')
    (r : ∀ v h', Qc v h' → Ext Z.heap h' → Run l R Z EL W Q S h' k' n' (mkF W.m pc' Ls (v.toList ++ st))) : Run l R Z EL W Q S h k n (mkF W.m pc Ls st') := by
  subst hp hk hn has hst
  intro vm0 T locs X eT N O I
  obtain ⟨v, vm₁, ⟨T', L', k', n'⟩, -, X', ⟨L, q0, l1, y1, z1⟩, s'⟩ := X.specialBack C.hx (y := y) hi (I.ow C) (mvT I.hZ w1) (mvT I.hZ w2) (mvT I.hZ w4) hy (K vm0 (I.cx C)) (g := mkF W.m pc Ls (argsL.reverse ++ .ref a :: st)) rfl (hsz.trans C.ml.symm) (Steps.refl _) (a := a) (argsL := argsL) (rest := st) hlen rfl (by show 2 * 0 + _ ≤ _; omega) (C.hb hd) (fun _ _ => ⟨rfl, eT, hk', hn'⟩)
  dsimp only [Pt.U, Pt.locs, Pt.cells, Pt.slots] at X' l1 y1 z1 s' q0
  subst l1 y1 z1
  obtain ⟨q1, q2, q3⟩ := hQ _ _ _ q0
  exact Go.step (fun t => s'.trans) (r v T'.heap q1 q2 vm0 T' _ X' rfl (N.app q3) q2 (I.car (hcar _ _ q1)))
theorem callIS (C : Cx Z W own nm code maxL ret) (hd : decode code pc = .ok (.invokespecial ix, 3)) {a : Addr} {Qv : Option Value → Heap → List Loc → Prop} (K : ∀ vm0, Inv Z EL W S vm0 h → PaysS l R Z EL W vm0 y 3 Wn as' h kc nc Qv) (hQ : Clean Z Qc Qv) (hi : y.name = "<init>") (w1 : (Cond.methodLink own ix y).before a0 Z = true) (w2 : (Cond.instanceMethod y).before a0 Z = true) (w4 : (Cond.code y bytes mxL none).before a0 Z = true) (hy : y.cls ≠ "java/lang/invoke/MethodHandle" ∧ y.cls ≠ "java/lang/invoke/VarHandle")
    (has : (Value.ref a :: argsL).toArray = as') (hst : argsL.reverse ++ .ref a :: st = st') (hlen : ∀ sig, parseMethodDescriptor y.desc = some sig → argsL.length = sig.parameters.length) (hsz : Ls.size = maxL) (hW : (st.map fun v => v.category).sum ≤ Wn) (hk : k + kc = k') (hn : n + nc = n') (hk' : k' ≤ R.cells) (hn' : n' ≤ R.slots) (hp : pc + 3 = pc')
    (r : ∀ v h', Qc v h' → Ext Z.heap h' → Run l R Z EL W Q S h' k' n' (mkF W.m pc' Ls (v.toList ++ st))) : Run l R Z EL W Q S h k n (mkF W.m pc Ls st') := by
  subst hp hk hn has hst
  intro vm0 T locs X eT N O I
  obtain ⟨v, vm₁, ⟨T', L', k', n'⟩, -, X', hS, hg, ⟨L, q0, l1, y1, z1, hr⟩, s'⟩ := X.specialBackS C.hx (y := y) hi (I.ow C) (mvT I.hZ w1) (mvT I.hZ w2) (mvT I.hZ w4) hy (K vm0 I) (g := mkF W.m pc Ls (argsL.reverse ++ .ref a :: st)) rfl (hsz.trans C.ml.symm) (Steps.refl _) (a := a) (argsL := argsL) (rest := st) hlen rfl (by show 2 * 0 + _ ≤ _; omega) (C.hb hd) (fun _ _ => ⟨rfl, eT, hk', hn'⟩)
  dsimp only [Pt.U, Pt.locs, Pt.cells, Pt.slots] at X' l1 y1 z1 s' q0 hS hg hr
  subst l1 y1 z1
  obtain ⟨q1, q2, q3⟩ := hQ _ _ _ q0
  exact Go.step (fun t => s'.trans) (r v T'.heap q1 q2 T'.vm T' _ X' rfl (N.app q3) q2 (I.back hS (eT ▸ hg) hr))
theorem callV (C : Cx Z W own nm code maxL ret) (hd : decode code pc = .ok (.invokevirtual ix, 3)) {y0 : MethodName} {K0 : String} {a : Addr} {Qv : Option Value → Heap → List Loc → Prop} (K : ∀ vm0, Cx Z (At W vm0) own nm code maxL ret → Wk.Pays l R (At W vm0) y 3 Wn as' h kc nc Qv) (hQ : Clean Z Qc Qv) (hcar : ∀ v h', Qc v h' → Car S h h') (E : Exa Z h a K0) (w1 : (Cond.methodLink own ix y0).before a0 Z = true) (w2 : (Cond.declares y0).before a0 Z = true) (nf : ∀ vm0, Z.Warmed39 vm0 → NotFace (W.s.setVm vm0) y0) (w3 : (Cond.selects K0 y0 y).before a0 Z = true) (w5 : (Cond.instanceMethod y).before a0 Z = true) (hy : y0.cls ≠ "java/lang/invoke/MethodHandle" ∧ y0.cls ≠ "java/lang/invoke/VarHandle")
    (has : (Value.ref a :: argsL).toArray = as') (hst : argsL.reverse ++ .ref a :: st = st') (hlen : ∀ sig, parseMethodDescriptor y0.desc = some sig → argsL.length = sig.parameters.length) (hsz : Ls.size = maxL) (hW : (st.map fun v => v.category).sum ≤ Wn) (hk : k + kc = k') (hn : n + nc = n') (hk' : k' ≤ R.cells) (hn' : n' ≤ R.slots) (hp : pc + 3 = pc')
    (r : ∀ v h', Qc v h' → Ext Z.heap h' → Run l R Z EL W Q S h' k' n' (mkF W.m pc' Ls (v.toList ++ st))) : Run l R Z EL W Q S h k n (mkF W.m pc Ls st') := by
  subst hp hk hn has hst
  intro vm0 T locs X eT N O I
  obtain ⟨cq, kq, qa, qb, qc⟩ := isOf I.hZ eT E
  obtain ⟨v, vm₁, ⟨T', L', k', n'⟩, -, X', ⟨L, q0, l1, y1, z1⟩, s'⟩ := X.virtualBack C.hx (y := y0) (z := y) (I.ow C) (mvT I.hZ w1) (mvT I.hZ w2) (nf vm0 I.2.1) (mvT I.hZ w3) (mvT I.hZ w5) hy (K vm0 (I.cx C)) qa qc (g := mkF W.m pc Ls (argsL.reverse ++ .ref a :: st)) rfl (hsz.trans C.ml.symm) (Steps.refl _) (argsL := argsL) (rest := st) hlen rfl (by show 2 * 0 + _ ≤ _; omega) (C.hb hd) (fun _ _ => ⟨rfl, eT, hk', hn'⟩)
  dsimp only [Pt.U, Pt.locs, Pt.cells, Pt.slots] at X' l1 y1 z1 s' q0
  subst l1 y1 z1
  obtain ⟨q1, q2, q3⟩ := hQ _ _ _ q0
  exact Go.step (fun t => s'.trans) (r v T'.heap q1 q2 vm0 T' _ X' rfl (N.app q3) q2 (I.car (hcar _ _ q1)))
theorem callVS (C : Cx Z W own nm code maxL ret) (hd : decode code pc = .ok (.invokevirtual ix, 3)) {y0 : MethodName} {K0 : String} {a : Addr} {Qv : Option Value → Heap → List Loc → Prop} (K : ∀ vm0, Inv Z EL W S vm0 h → PaysS l R Z EL W vm0 y 3 Wn as' h kc nc Qv) (hQ : Clean Z Qc Qv) (E : Exa Z h a K0) (w1 : (Cond.methodLink own ix y0).before a0 Z = true) (w2 : (Cond.declares y0).before a0 Z = true) (nf : ∀ vm0, Z.Warmed39 vm0 → NotFace (W.s.setVm vm0) y0) (w3 : (Cond.selects K0 y0 y).before a0 Z = true) (w5 : (Cond.instanceMethod y).before a0 Z = true) (hy : y0.cls ≠ "java/lang/invoke/MethodHandle" ∧ y0.cls ≠ "java/lang/invoke/VarHandle")
    (has : (Value.ref a :: argsL).toArray = as') (hst : argsL.reverse ++ .ref a :: st = st') (hlen : ∀ sig, parseMethodDescriptor y0.desc = some sig → argsL.length = sig.parameters.length) (hsz : Ls.size = maxL) (hW : (st.map fun v => v.category).sum ≤ Wn) (hk : k + kc = k') (hn : n + nc = n') (hk' : k' ≤ R.cells) (hn' : n' ≤ R.slots) (hp : pc + 3 = pc')
    (r : ∀ v h', Qc v h' → Ext Z.heap h' → Run l R Z EL W Q S h' k' n' (mkF W.m pc' Ls (v.toList ++ st))) : Run l R Z EL W Q S h k n (mkF W.m pc Ls st') := by
  subst hp hk hn has hst
  intro vm0 T locs X eT N O I
  obtain ⟨cq, kq, qa, qb, qc⟩ := isOf I.hZ eT E
  obtain ⟨v, vm₁, ⟨T', L', k', n'⟩, -, X', hS, hg, ⟨L, q0, l1, y1, z1, hr⟩, s'⟩ := X.virtualBackS C.hx (y := y0) (z := y) (I.ow C) (mvT I.hZ w1) (mvT I.hZ w2) (nf vm0 I.2.1) (mvT I.hZ w3) (mvT I.hZ w5) hy (K vm0 I) qa qc (g := mkF W.m pc Ls (argsL.reverse ++ .ref a :: st)) rfl (hsz.trans C.ml.symm) (Steps.refl _) (argsL := argsL) (rest := st) hlen rfl (by show 2 * 0 + _ ≤ _; omega) (C.hb hd) (fun _ _ => ⟨rfl, eT, hk', hn'⟩)
  dsimp only [Pt.U, Pt.locs, Pt.cells, Pt.slots] at X' l1 y1 z1 s' q0 hS hg hr
  subst l1 y1 z1
  obtain ⟨q1, q2, q3⟩ := hQ _ _ _ q0
  exact Go.step (fun t => s'.trans) (r v T'.heap q1 q2 T'.vm T' _ X' rfl (N.app q3) q2 (I.back hS (eT ▸ hg) hr))
end Calls
/-! ## returns -/
theorem Run.leave (C : Cx Z W own nm code maxL ret) (hE : EW Z a0 EL) {v : Option Value} {f : JFrame} (hv : ret = none → v = none) (q : Q v h) (hk : k ≤ R.cells) (hn : n ≤ R.slots)
    (s' : ∀ vm0 T locs, Std l R W vm0 T locs k n → ∀ fs, (∀ (f : JFrame) (acts : List Action), f.method = W.m → f.locked = none → f.entered = [] → (doReturn W.e (T.setTop f) acts v).1 = T.setFrames fs) → Steps W.p.tables W.e W.b (T.setTop f) (T.setFrames fs)) : Run l R Z EL W Q S h k n f := by
  intro vm0 T locs X eT N O I
  have hlk : W.t.locks = false := C.lk
  obtain ⟨fs, hr, hrun, hended, hW, hsame⟩ := X.leave (v := v) (fun hh => hv (C.rt.symm.trans hh))
  have e2 : (T.setFrames fs).heap = h := eT
  obtain ⟨⟨k0, hS, hk0⟩, hZ, hr0, -⟩ := I
  have hc := CHv.at X hZ hE hr0.1
  obtain ⟨e4, e5, e6⟩ := hS.ended (U := T.setFrames fs) hW (by rw [e2]; exact hk0) hsame
  exact ⟨_, _, s' vm0 T locs X fs hr, hrun, hended, _, _, rfl, ⟨by rw [e2]; exact q, by rw [e2]; exact O, N⟩, by rw [e2]; exact hr0.trans hc, ⟨_, rfl⟩, e4, e5, e6.mono hk hn⟩
theorem retV (C : Cx Z W own nm code maxL none) (hE : EW Z a0 EL) (hd : decode code pc = .ok (.return_, 1)) (hk : k ≤ R.cells) (hn : n ≤ R.slots) (q : Q none h) : Run l R Z EL W Q S h k n (mkF W.m pc Ls []) :=
  Run.leave C hE (fun _ => rfl) q hk hn (fun vm0 T locs X fs hr => X.returnOut C.hx C.rt (C.hb hd) hr)
theorem retI (C : Cx Z W own nm code maxL (some .int)) (hE : EW Z a0 EL) (hd : decode code pc = .ok (.ireturn, 1)) {z : Int32} (hk : k ≤ R.cells) (hn : n ≤ R.slots) (q : Q (some (.int z)) h) : Run l R Z EL W Q S h k n (mkF W.m pc Ls (.int z :: st)) :=
  Run.leave C hE (fun hh => nomatch hh) q hk hn (fun vm0 T locs X fs hr => retOut X C.hx C.rt rfl (Or.inl ⟨rfl, Or.inl rfl, z, rfl⟩) (C.hb hd) hr)
theorem retNar {ty : FieldType} (C : Cx Z W own nm code maxL (some ty)) (hE : EW Z a0 EL) (ht : ty = .boolean ∨ ty = .byte ∨ ty = .char ∨ ty = .short) (hd : decode code pc = .ok (.ireturn, 1)) {z z' : Int32} (hz : nar ty z = z') (hk : k ≤ R.cells) (hn : n ≤ R.slots) (q : Q (some (.int z')) h) : Run l R Z EL W Q S h k n (mkF W.m pc Ls (.int z :: st)) := by
  subst hz
  exact Run.leave C hE (fun hh => nomatch hh) q hk hn (fun vm0 T locs X fs hr => retN X C.hx C.rt ht (C.hb hd) hr)
theorem retA {ty : FieldType} {v : Value} (C : Cx Z W own nm code maxL (some ty)) (hE : EW Z a0 EL) (ht : ty.isReference = true) (hv : v.isRef = true) (hd : decode code pc = .ok (.areturn, 1)) (hk : k ≤ R.cells) (hn : n ≤ R.slots) (q : Q (some v) h) : Run l R Z EL W Q S h k n (mkF W.m pc Ls (v :: st)) :=
  Run.leave C hE (fun hh => nomatch hh) q hk hn (fun vm0 T locs X fs hr => retOut X C.hx C.rt (by rcases ref_cases hv with rfl | ⟨a, rfl⟩ <;> cases ty <;> simp [FieldType.isReference] at ht <;> rfl) (Or.inr (Or.inr (Or.inr (Or.inr ⟨rfl, ht, hv⟩)))) (C.hb hd) hr)
end Kit
end Ww
abbrev EL : List (String × Nat) := consts_1
theorem own_EW {a0 : Array Value} {Z : State} (hw : Ws a0 Z) : EW Z a0 EL := (EW.cons (w18 hw) (by decide) (EW.cons (w115 hw) (by decide) EW.nil))
theorem wS {a0 : Array Value} {Z : State} (hw : Ws a0 Z) : ∀ a ∈ Bundle.stringAtoms, a.before a0 Z = true := by
  intro a ha
  simp only [Bundle.stringAtoms, List.mem_cons, List.not_mem_nil, or_false] at ha
  rcases ha with rfl | rfl | rfl | rfl | rfl | rfl | rfl
  · exact (w7 hw)
  · exact (w6 hw)
  · exact (w19 hw)
  · exact (w20 hw)
  · exact (w21 hw)
  · exact (w22 hw)
  · exact (w23 hw)
def lead : List Int32 → Nat
  | [] => 0
  | c :: r => if c = 32 then lead r + 1 else 0
def endAt (cs : List Int32) (b : Nat) : Nat → Nat
  | 0 => 0
  | e + 1 => if b < e + 1 ∧ cs.getD e 0 = 32 then endAt cs b e else e + 1
def trim (cs : List Int32) : List Int32 := (cs.drop (lead cs)).take (endAt cs (lead cs) cs.length - lead cs)
theorem lead_le : ∀ cs : List Int32, lead cs ≤ cs.length
  | [] => Nat.le_refl _
  | c :: r => by
    have := lead_le r
    unfold lead
    split
    · simp; omega
    · simp
theorem endAt_le (cs : List Int32) (b : Nat) : ∀ e, endAt cs b e ≤ e
  | 0 => Nat.le_refl _
  | e + 1 => by
    have := endAt_le cs b e
    unfold endAt
    split <;> omega
theorem le_endAt (cs : List Int32) (b : Nat) : ∀ e, b ≤ e → b ≤ endAt cs b e
  | 0, h => h
  | e + 1, h => by
    unfold endAt
    split
    · next q => exact le_endAt cs b e (by omega)
    · exact h
theorem endAt_stop {cs : List Int32} {b e : Nat} (h : ¬ (b < e + 1 ∧ cs.getD e 0 = 32)) : endAt cs b (e + 1) = e + 1 := if_neg h
theorem endAt_go {cs : List Int32} {b e : Nat} (h : b < e + 1 ∧ cs.getD e 0 = 32) : endAt cs b (e + 1) = endAt cs b e := if_pos h
theorem own_drop {cs : List Int32} {j : Nat} (h : j < cs.length) : cs.drop j = cs.getD j 0 :: cs.drop (j + 1) := by
  rw [List.drop_eq_getElem_cons h]
  congr 1
  simp [List.getD_eq_getElem?_getD, h]
set_option maxRecDepth 65536 in
set_option maxHeartbeats 40000000 in
theorem own_draw (l : Launch) {Z : State} {a0 : Array Value} (hw : Ws a0 Z) {h0 : Heap} (O0 : Ext Z.heap h0) (p : Int32)  :
    Wk.Con l Z (⟨"com/example/shelfmark/shelfmark/model/MarcRecordWithoutOuterSpacesPinLaw", "draw", "(I)C"⟩ : MethodName) method_2_code 1 (some .char) ({ frames := 0, cells := 0, slots := 0, locals := 0 } : Room) #[(.int p)] h0 (fun v h' => ∃ c : Int32, v = some (.int c) ∧ (¬ c < 0 ∧ ¬ (255 : Int32) < c) ∧ h' = h0) := by
  refine Wk.Con.intro (plainFor_of_name pn0) O0 (fun m => ef0 m p) ?_
  intro W C
  replace C : Wk.Cx Z W "com/example/shelfmark/shelfmark/model/MarcRecordWithoutOuterSpacesPinLaw" "draw" method_2_code 1 (some .char) := C
  refine Wk.iloadN (pc' := 1) C d_method_2_0 rfl rfl ?_
  refine Wk.iconst (pc' := 2) C d_method_2_1 (v := (1 : Int32)) rfl rfl ?_
  obtain ⟨v11, hv11⟩ : ∃ z : Int32, p &&& (1 : Int32) = z := ⟨_, rfl⟩
  refine Wk.iand (pc' := 3) C d_method_2_2 hv11 rfl ?_
  refine Wk.if_eq C d_method_2_3 (by decide) (pcT := 11) (by decide) (pc' := 6) rfl (fun q12 => ?_) (fun q12 => ?_)
  · -- pc 3: taken
    refine Wk.iloadN (pc' := 12) C d_method_2_11 rfl rfl ?_
    refine Wk.iconst (pc' := 13) C d_method_2_12 (v := (1 : Int32)) rfl rfl ?_
    obtain ⟨v13, hv13⟩ : ∃ z : Int32, (p.toUInt32 >>> ((1 : Int32) &&& 31).toUInt32).toInt32 = z := ⟨_, rfl⟩
    refine Wk.iushr (pc' := 14) C d_method_2_13 hv13 rfl ?_
    refine Wk.sipush (pc' := 17) C d_method_2_14 (v := (255 : Int32)) rfl rfl ?_
    obtain ⟨v14, hv14⟩ : ∃ z : Int32, v13 &&& (255 : Int32) = z := ⟨_, rfl⟩
    refine Wk.iand (pc' := 18) C d_method_2_17 hv14 rfl ?_
    obtain ⟨v15, hv15⟩ : ∃ z : Int32, v14.toUInt32.toUInt16.toUInt32.toInt32 = z := ⟨_, rfl⟩
    refine Wk.i2c (pc' := 19) C d_method_2_18 hv15 rfl ?_
    exact Wk.retNar (ty := .char) C (by simp) d_method_2_19 (Wk.nar_i2c hv15) (by decide) (by decide) ⟨_, rfl, (Wk.rng255 hv14 hv15), rfl⟩
  · -- pc 3: not taken
    refine Wk.bipush (pc' := 8) C d_method_2_6 (v := (32 : Int32)) rfl rfl ?_
    refine Wk.goto C d_method_2_8 (by decide) (pc' := 19) (by decide) ?_
    exact Wk.retNar (ty := .char) C (by simp) d_method_2_19 (z' := (32 : Int32)) rfl (by decide) (by decide) ⟨_, rfl, ⟨by decide, by decide⟩, rfl⟩
set_option maxRecDepth 65536 in
set_option maxHeartbeats 40000000 in
theorem own_sp (l : Launch) {Z : State} {a0 : Array Value} (hw : Ws a0 Z) {h0 : Heap} (O0 : Ext Z.heap h0) (c : Int32)  :
    Wk.Con l Z (⟨"com/example/shelfmark/shelfmark/model/MarcRecordWithoutOuterSpacesPinLaw", "sp", "(C)Z"⟩ : MethodName) method_3_code 1 (some .boolean) ({ frames := 0, cells := 0, slots := 0, locals := 0 } : Room) #[(.int c)] h0 (fun v h' => ((v = some (.int 1) ∧ c = 32) ∨ (v = some (.int 0) ∧ ¬ c = 32)) ∧ h' = h0) := by
  refine Wk.Con.intro (plainFor_of_name pn0) O0 (fun m => ef1 m c) ?_
  intro W C
  replace C : Wk.Cx Z W "com/example/shelfmark/shelfmark/model/MarcRecordWithoutOuterSpacesPinLaw" "sp" method_3_code 1 (some .boolean) := C
  refine Wk.iloadN (pc' := 1) C d_method_3_0 rfl rfl ?_
  refine Wk.bipush (pc' := 3) C d_method_3_1 (v := (32 : Int32)) rfl rfl ?_
  refine Wk.icmp_ne C d_method_3_3 (by decide) (pcT := 10) (by decide) (pc' := 6) rfl (fun q11 => ?_) (fun q11 => ?_)
  · -- pc 3: taken
    refine Wk.iconst (pc' := 11) C d_method_3_10 (v := (0 : Int32)) rfl rfl ?_
    exact Wk.retNar (ty := .boolean) C (by simp) d_method_3_11 rfl (by decide) (by decide) ⟨Or.inr ⟨rfl, q11⟩, rfl⟩
  · -- pc 3: not taken
    refine Wk.iconst (pc' := 7) C d_method_3_6 (v := (1 : Int32)) rfl rfl ?_
    refine Wk.goto C d_method_3_7 (by decide) (pc' := 11) (by decide) ?_
    exact Wk.retNar (ty := .boolean) C (by simp) d_method_3_11 rfl (by decide) (by decide) ⟨Or.inl ⟨rfl, q11⟩, rfl⟩
set_option maxRecDepth 65536 in
set_option maxHeartbeats 40000000 in
theorem own_cft (l : Launch) {Z : State} {a0 : Array Value} (hw : Ws a0 Z) {h0 : Heap} (O0 : Ext Z.heap h0) (x y n : Int32) (fm : Value) (rf : fm.isRef = true) (h1 : ¬ x < 0) (h2 : ¬ y < x) (h3 : ¬ n < y) :
    Wk.Con l Z (⟨"jdk/internal/util/Preconditions", "checkFromToIndex", "(IIILjava/util/function/BiFunction;)I"⟩ : MethodName) jdk_41_method_12_code 4 (some .int) ({ frames := 0, cells := 0, slots := 0, locals := 0 } : Room) #[(.int x), (.int y), (.int n), fm] h0 (fun v h' => v = some (.int x) ∧ h' = h0) := by
  refine Wk.Con.intro (plainFor_of_name pn1) O0 (fun m => ef2 m x y n fm rf) ?_
  intro W C
  replace C : Wk.Cx Z W "jdk/internal/util/Preconditions" "checkFromToIndex" jdk_41_method_12_code 4 (some .int) := C
  refine Wk.iloadN (pc' := 1) C d_jdk_41m12_0 rfl rfl ?_
  refine Wk.if_lt C d_jdk_41m12_1 (by decide) (pcT := 14) (by decide) (pc' := 4) rfl (fun q => absurd q h1) (fun q11 => ?_)
  refine Wk.iloadN (pc' := 5) C d_jdk_41m12_4 rfl rfl ?_
  refine Wk.iloadN (pc' := 6) C d_jdk_41m12_5 rfl rfl ?_
  refine Wk.icmp_gt C d_jdk_41m12_6 (by decide) (pcT := 14) (by decide) (pc' := 9) rfl (fun q => absurd q h2) (fun q12 => ?_)
  refine Wk.iloadN (pc' := 10) C d_jdk_41m12_9 rfl rfl ?_
  refine Wk.iloadN (pc' := 11) C d_jdk_41m12_10 rfl rfl ?_
  refine Wk.icmp_le C d_jdk_41m12_11 (by decide) (pcT := 22) (by decide) (pc' := 14) rfl (fun q13 => ?_) (fun q => absurd q h3)
  refine Wk.iloadN (pc' := 23) C d_jdk_41m12_22 rfl rfl ?_
  exact Wk.retI C d_jdk_41m12_23 (by decide) (by decide) ⟨rfl, rfl⟩
set_option maxRecDepth 65536 in
set_option maxHeartbeats 40000000 in
theorem own_cbe (l : Launch) {Z : State} {a0 : Array Value} (hw : Ws a0 Z) {h0 : Heap} (O0 : Ext Z.heap h0) (hs : Sets Z) (x y n : Int32) (h1 : ¬ x < 0) (h2 : ¬ y < x) (h3 : ¬ n < y) :
    Wk.Con l Z (⟨"java/lang/String", "checkBoundsBeginEnd", "(III)V"⟩ : MethodName) jdk_42_method_158_code 3 none ({ frames := 1, cells := 0, slots := 0, locals := 15 } : Room) #[(.int x), (.int y), (.int n)] h0 (fun v h' => v = none ∧ h' = h0) := by
  refine Wk.Con.intro (plainFor_of_name pn2) O0 (fun m => ef3 m x y n) ?_
  intro W C
  replace C : Wk.Cx Z W "java/lang/String" "checkBoundsBeginEnd" jdk_42_method_158_code 3 none := C
  obtain ⟨zc, fm, -, -, SF, rf⟩ := hs
  refine Wk.iloadN (pc' := 1) C d_jdk_42m158_0 rfl rfl ?_
  refine Wk.iloadN (pc' := 2) C d_jdk_42m158_1 rfl rfl ?_
  refine Wk.iloadN (pc' := 3) C d_jdk_42m158_2 rfl rfl ?_
  refine Wk.getS (pc' := 6) C d_jdk_42m158_3 (w50 hw) Via.refl (SF.ext O0) rfl ?_
  refine Wk.callS (pc' := 9) C d_jdk_42m158_6 (Wk.Con.pays C (Wn := 0) (own_cft l hw O0 x y n fm rf h1 h2 h3) (w54 hw) (w51 hw) (by decide) (by decide)) Wk.cleanC (w52 hw) (w53 hw) (w51 hw) (w54 hw) (by decide) (argsL := [(.int x), (.int y), (.int n), fm]) (st := []) rfl rfl (lenOf pd0 rfl) rfl (Nat.le_of_eq rfl) (k' := 0) rfl (n' := 0) rfl (by decide) (by decide) rfl ?_
  intro r11 h12 Q12 O12
  obtain ⟨rfl, e13⟩ := Q12
  obtain rfl := e13.symm
  refine Wk.pop (pc' := 10) C d_jdk_42m158_9 rfl rfl ?_
  exact Wk.retV C d_jdk_42m158_10 (by decide) (by decide) ⟨rfl, rfl⟩
set_option maxRecDepth 65536 in
set_option maxHeartbeats 40000000 in
theorem own_chkLen (l : Launch) {Z : State} {a0 : Array Value} (hw : Ws a0 Z) {h0 : Heap} (O0 : Ext Z.heap h0) (x y : Int32) (h1 : ¬ y < x) :
    Wk.Con l Z (⟨"java/util/Arrays", "checkLength", "(II)V"⟩ : MethodName) jdk_65_method_131_code 2 none ({ frames := 0, cells := 0, slots := 0, locals := 0 } : Room) #[(.int x), (.int y)] h0 (fun v h' => v = none ∧ h' = h0) := by
  refine Wk.Con.intro (plainFor_of_name pn3) O0 (fun m => ef4 m x y) ?_
  intro W C
  replace C : Wk.Cx Z W "java/util/Arrays" "checkLength" jdk_65_method_131_code 2 none := C
  refine Wk.iloadN (pc' := 1) C d_jdk_65m131_0 rfl rfl ?_
  refine Wk.iloadN (pc' := 2) C d_jdk_65m131_1 rfl rfl ?_
  refine Wk.icmp_ge C d_jdk_65m131_2 (by decide) (pcT := 37) (by decide) (pc' := 5) rfl (fun q11 => ?_) (fun q => absurd q h1)
  exact Wk.retV C d_jdk_65m131_37 (by decide) (by decide) ⟨rfl, rfl⟩
set_option maxRecDepth 65536 in
set_option maxHeartbeats 40000000 in
theorem own_min2 (l : Launch) {Z : State} {a0 : Array Value} (hw : Ws a0 Z) {h0 : Heap} (O0 : Ext Z.heap h0) (x y : Int32) (h1 : ¬ x < y) :
    Wk.Con l Z (⟨"java/lang/Math", "min", "(II)I"⟩ : MethodName) jdk_29_method_69_code 2 (some .int) ({ frames := 0, cells := 0, slots := 0, locals := 0 } : Room) #[(.int x), (.int y)] h0 (fun v h' => v = some (.int y) ∧ h' = h0) := by
  refine Wk.Con.intro (Jvm.Free.JP.mathPlain rfl (by decide +kernel)) O0 (fun m => ef5 m x y) ?_
  intro W C
  replace C : Wk.Cx Z W "java/lang/Math" "min" jdk_29_method_69_code 2 (some .int) := C
  refine Wk.iloadN (pc' := 1) C d_jdk_29m69_0 rfl rfl ?_
  refine Wk.iloadN (pc' := 2) C d_jdk_29m69_1 rfl rfl ?_
  refine Wk.icmp_gt C d_jdk_29m69_2 (by decide) (pcT := 9) (by decide) (pc' := 5) rfl (fun q11 => ?_) (fun q11 => ?_)
  · -- pc 2: taken
    refine Wk.iloadN (pc' := 10) C d_jdk_29m69_9 rfl rfl ?_
    exact Wk.retI C d_jdk_29m69_10 (by decide) (by decide) ⟨rfl, rfl⟩
  · -- pc 2: not taken
    refine Wk.iloadN (pc' := 6) C d_jdk_29m69_5 rfl rfl ?_
    refine Wk.goto C d_jdk_29m69_6 (by decide) (pc' := 10) (by decide) ?_
    have he : x = y := by
      have a := h1
      have b := q11
      rw [Wk.ltI] at a b
      exact Wk.eqI (by omega)
    exact Wk.retI C d_jdk_29m69_10 (by decide) (by decide) ⟨by rw [he], rfl⟩
set_option maxRecDepth 65536 in
set_option maxHeartbeats 40000000 in
theorem own_corB (l : Launch) {Z : State} {a0 : Array Value} (hw : Ws a0 Z) {h0 : Heap} (O0 : Ext Z.heap h0) (t : Addr) (cs : List Int32) (s e : Nat) (V : Wk.Ary Z h0 t .byte ((cs.map fun c => c.toInt8.toInt32).map Value.int)) (hl4 : cs.length ≤ 4) (hse : s ≤ e) (he : e ≤ cs.length) :
    Wk.Con l Z (⟨"java/util/Arrays", "copyOfRangeByte", "([BII)[B"⟩ : MethodName) jdk_65_method_133_code 5 (some (.array .byte)) ({ frames := 1, cells := 1, slots := 4, locals := 22 } : Room) #[(.ref t), (.int (Int32.ofNat s)), (.int (Int32.ofNat e))] h0 (fun v h' => ∃ b : Addr, v = some (.ref b) ∧ b = h0.size ∧ Ext h0 h' ∧ Wk.Ary Z h' b .byte ((((cs.drop s).take (e - s)).map fun c => c.toInt8.toInt32).map Value.int)) := by
  refine Wk.Con.intro (plainFor_of_name pn3) O0 (fun m => ef6 m t (Int32.ofNat s) (Int32.ofNat e)) ?_
  intro W C
  replace C : Wk.Cx Z W "java/util/Arrays" "copyOfRangeByte" jdk_65_method_133_code 5 (some (.array .byte)) := C
  refine Wk.iloadN (pc' := 1) C d_jdk_65m133_0 rfl rfl ?_
  refine Wk.iloadN (pc' := 2) C d_jdk_65m133_1 rfl rfl ?_
  refine Wk.callS (pc' := 5) C d_jdk_65m133_2 (Wk.Con.pays C (Wn := 0) (own_chkLen l hw O0 (Int32.ofNat s) (Int32.ofNat e) (fun q => absurd ((Wk.lt32 (by omega) (by omega)).mp q) (by omega))) (w102 hw) (w95 hw) (by decide) (by decide)) Wk.cleanC (w100 hw) (w101 hw) (w95 hw) (w102 hw) (by decide) (argsL := [(.int (Int32.ofNat s)), (.int (Int32.ofNat e))]) (st := []) rfl rfl (lenOf pd1 rfl) rfl (Nat.le_of_eq rfl) (k' := 0) rfl (n' := 0) rfl (by decide) (by decide) rfl ?_
  intro r11 h12 Q12 O12
  obtain ⟨rfl, e13⟩ := Q12
  obtain rfl := e13.symm
  refine Wk.iloadN (pc' := 6) C d_jdk_65m133_5 rfl rfl ?_
  refine Wk.iloadN (pc' := 7) C d_jdk_65m133_6 rfl rfl ?_
  obtain ⟨v14, hv14⟩ : ∃ z : Int32, (Int32.ofNat e) - (Int32.ofNat s) = z := ⟨_, rfl⟩
  refine Wk.isub (pc' := 8) C d_jdk_65m133_7 hv14 rfl ?_
  have f15 : v14 = (Int32.ofNat (e - s)) := Wk.sub32 hse (by omega) hv14
  rw [f15]
  refine Wk.istoreN (pc' := 9) C d_jdk_65m133_8 (Ls' := #[.val (.ref t), .val (.int (Int32.ofNat s)), .val (.int (Int32.ofNat e)), .val (.int (Int32.ofNat (e - s))), .unset]) rfl rfl ?_
  refine Wk.iloadN (pc' := 10) C d_jdk_65m133_9 rfl rfl ?_
  refine Wk.newA (pc' := 12) C d_jdk_65m133_10 (ty := .byte) rfl (w19 hw) (Wk.nn32 (by omega)) (cap := 4) (by rw [(Wk.nat32 (n := e - s) (by omega)).2]; omega) (by decide) (k' := 1) rfl (n' := 4) rfl (by decide) (by decide) rfl rfl ?_
  intro a16 h17 ga16 za16 E17 Va16 O17
  have V18 : Wk.Ary Z h17 a16 .byte (List.replicate (e - s) (.int 0)) := by rw [← (Wk.nat32 (n := e - s) (by omega)).2]; exact Va16
  refine Wk.astore (pc' := 14) C d_jdk_65m133_12 rfl (Ls' := #[.val (.ref t), .val (.int (Int32.ofNat s)), .val (.int (Int32.ofNat e)), .val (.int (Int32.ofNat (e - s))), .val (.ref a16)]) rfl rfl ?_
  refine Wk.aloadN (pc' := 15) C d_jdk_65m133_14 rfl rfl rfl ?_
  refine Wk.iloadN (pc' := 16) C d_jdk_65m133_15 rfl rfl ?_
  refine Wk.aload (pc' := 18) C d_jdk_65m133_16 rfl rfl rfl ?_
  refine Wk.iconst (pc' := 19) C d_jdk_65m133_18 (v := (0 : Int32)) rfl rfl ?_
  refine Wk.aloadN (pc' := 20) C d_jdk_65m133_19 rfl rfl rfl ?_
  refine Wk.alen (pc' := 21) C d_jdk_65m133_20 (V.ext E17) (z := (Int32.ofNat cs.length)) (by simp) rfl ?_
  refine Wk.iloadN (pc' := 22) C d_jdk_65m133_21 rfl rfl ?_
  obtain ⟨v19, hv19⟩ : ∃ z : Int32, (Int32.ofNat cs.length) - (Int32.ofNat s) = z := ⟨_, rfl⟩
  refine Wk.isub (pc' := 23) C d_jdk_65m133_22 hv19 rfl ?_
  have f20 : v19 = (Int32.ofNat (cs.length - s)) := Wk.sub32 (by omega) (by omega) hv19
  rw [f20]
  refine Wk.iloadN (pc' := 24) C d_jdk_65m133_23 rfl rfl ?_
  refine Wk.callS (pc' := 27) C d_jdk_65m133_24 (Wk.Con.pays C (Wn := 4) (own_min2 l hw O17 (Int32.ofNat (cs.length - s)) (Int32.ofNat (e - s)) (fun q => absurd ((Wk.lt32 (by omega) (by omega)).mp q) (by omega))) (w106 hw) (w105 hw) (by decide) (by decide)) Wk.cleanC (w103 hw) (w104 hw) (w105 hw) (w106 hw) (by decide) (argsL := [(.int (Int32.ofNat (cs.length - s))), (.int (Int32.ofNat (e - s)))]) (st := [(.int (0 : Int32)), (.ref a16), (.int (Int32.ofNat s)), (.ref t)]) rfl rfl (lenOf pd2 rfl) rfl (Nat.le_of_eq rfl) (k' := 1) rfl (n' := 4) rfl (by decide) (by decide) rfl ?_
  intro r21 h22 Q22 O22
  obtain ⟨rfl, e23⟩ := Q22
  obtain rfl := e23.symm
  refine Wk.acopy (pc' := 30) C d_jdk_65m133_27 (w107 hw) (w110 hw) (w108 hw) (w109 hw) (Wn := 0) (V.ext E17) V18 rfl (Wk.nn32 (by omega)) (by decide) (Wk.nn32 (by omega)) (by rw [(Wk.nat32 (n := s) (by omega)).2, (Wk.nat32 (n := e - s) (by omega)).2]; simp; omega) (by rw [(Wk.nat32 (n := e - s) (by omega)).2]; simp) (vd' := ((((cs.drop s).take (e - s)).map fun c => c.toInt8.toInt32).map Value.int)) (by rw [(Wk.nat32 (n := s) (by omega)).2, (Wk.nat32 (n := e - s) (by omega)).2]; simp [List.map_drop, List.map_take]) za16 rfl (by decide) (Nat.le_of_eq rfl) (by decide) rfl ?_
  intro h24 K24 V24 O24
  refine Wk.aload (pc' := 32) C d_jdk_65m133_30 rfl rfl rfl ?_
  have X25 : Ext h0 h24 := Wk.Ext.keep1 (Z := Z) E17 K24 (Nat.le_of_eq ga16.symm)
  exact Wk.retA C rfl rfl d_jdk_65m133_32 (by decide) (by decide) ⟨_, rfl, ga16, X25, V24⟩
set_option maxRecDepth 65536 in
set_option maxHeartbeats 40000000 in
theorem own_cor (l : Launch) {Z : State} {a0 : Array Value} (hw : Ws a0 Z) {h0 : Heap} (O0 : Ext Z.heap h0) (t : Addr) (cs : List Int32) (s e : Nat) (V : Wk.Ary Z h0 t .byte ((cs.map fun c => c.toInt8.toInt32).map Value.int)) (hl4 : cs.length ≤ 4) (hse : s ≤ e) (he : e ≤ cs.length) (hne : ¬ (s = 0 ∧ e = cs.length)) :
    Wk.Con l Z (⟨"java/util/Arrays", "copyOfRange", "([BII)[B"⟩ : MethodName) jdk_65_method_132_code 3 (some (.array .byte)) ({ frames := 2, cells := 1, slots := 4, locals := 40 } : Room) #[(.ref t), (.int (Int32.ofNat s)), (.int (Int32.ofNat e))] h0 (fun v h' => ∃ b : Addr, v = some (.ref b) ∧ b = h0.size ∧ Ext h0 h' ∧ Wk.Ary Z h' b .byte ((((cs.drop s).take (e - s)).map fun c => c.toInt8.toInt32).map Value.int)) := by
  refine Wk.Con.intro (plainFor_of_name pn3) O0 (fun m => ef7 m t (Int32.ofNat s) (Int32.ofNat e)) ?_
  intro W C
  replace C : Wk.Cx Z W "java/util/Arrays" "copyOfRange" jdk_65_method_132_code 3 (some (.array .byte)) := C
  refine Wk.iloadN (pc' := 1) C d_jdk_65m132_0 rfl rfl ?_
  refine Wk.if_ne C d_jdk_65m132_1 (by decide) (pcT := 10) (by decide) (pc' := 4) rfl (fun q11 => ?_) (fun q11 => ?_)
  · -- pc 1: taken
    refine Wk.aloadN (pc' := 11) C d_jdk_65m132_10 rfl rfl rfl ?_
    refine Wk.iloadN (pc' := 12) C d_jdk_65m132_11 rfl rfl ?_
    refine Wk.iloadN (pc' := 13) C d_jdk_65m132_12 rfl rfl ?_
    refine Wk.callS (pc' := 16) C d_jdk_65m132_13 (Wk.Con.pays C (Wn := 0) (own_corB l hw O0 t cs s e V hl4 hse he) (w99 hw) (w95 hw) (by decide) (by decide)) Wk.cleanC (w97 hw) (w98 hw) (w95 hw) (w99 hw) (by decide) (argsL := [(.ref t), (.int (Int32.ofNat s)), (.int (Int32.ofNat e))]) (st := []) rfl rfl (lenOf pd3 rfl) rfl (Nat.le_of_eq rfl) (k' := 1) rfl (n' := 4) rfl (by decide) (by decide) rfl ?_
    intro r12 h13 Q13 O13
    obtain ⟨b14, rfl, gb14, E13, V13⟩ := Q13
    exact Wk.retA C rfl rfl d_jdk_65m132_16 (by decide) (by decide) ⟨_, rfl, gb14, E13, V13⟩
  · -- pc 1: not taken
    refine Wk.iloadN (pc' := 5) C d_jdk_65m132_4 rfl rfl ?_
    refine Wk.aloadN (pc' := 6) C d_jdk_65m132_5 rfl rfl rfl ?_
    refine Wk.alen (pc' := 7) C d_jdk_65m132_6 V (z := (Int32.ofNat cs.length)) (by simp) rfl ?_
    refine Wk.icmp_eq C d_jdk_65m132_7 (by decide) (pcT := 17) (by decide) (pc' := 10) rfl (fun q => absurd ⟨(Wk.eq32 (b := 0) (by omega) (by omega)).mp q11, (Wk.eq32 (by omega) (by omega)).mp q⟩ hne) (fun q15 => ?_)
    refine Wk.aloadN (pc' := 11) C d_jdk_65m132_10 rfl rfl rfl ?_
    refine Wk.iloadN (pc' := 12) C d_jdk_65m132_11 rfl rfl ?_
    refine Wk.iloadN (pc' := 13) C d_jdk_65m132_12 rfl rfl ?_
    refine Wk.callS (pc' := 16) C d_jdk_65m132_13 (Wk.Con.pays C (Wn := 0) (own_corB l hw O0 t cs s e V hl4 hse he) (w99 hw) (w95 hw) (by decide) (by decide)) Wk.cleanC (w97 hw) (w98 hw) (w95 hw) (w99 hw) (by decide) (argsL := [(.ref t), (.int (Int32.ofNat s)), (.int (Int32.ofNat e))]) (st := []) rfl rfl (lenOf pd3 rfl) rfl (Nat.le_of_eq rfl) (k' := 1) rfl (n' := 4) rfl (by decide) (by decide) rfl ?_
    intro r16 h17 Q17 O17
    obtain ⟨b18, rfl, gb18, E17, V17⟩ := Q17
    exact Wk.retA C rfl rfl d_jdk_65m132_16 (by decide) (by decide) ⟨_, rfl, gb18, E17, V17⟩
set_option maxRecDepth 65536 in
set_option maxHeartbeats 40000000 in
theorem own_strInitB (l : Launch) {Z : State} {a0 : Array Value} (hw : Ws a0 Z) {h0 : Heap} (O0 : Ext Z.heap h0) (a1 a2 : Addr) (v0 c0 : Value) (g1 : Z.heap.size ≤ a1) (E1 : Exa Z h0 a1 "java/lang/String") (F1 : Fld Z h0 a1 "java/lang/String" "value" "[B" v0) (F2 : Fld Z h0 a1 "java/lang/String" "coder" "B" c0) :
    Wk.Con l Z (⟨"java/lang/String", "<init>", "([BB)V"⟩ : MethodName) jdk_42_method_151_code 3 none ({ frames := 1, cells := 0, slots := 0, locals := 12 } : Room) #[(.ref a1), (.ref a2), (.int (0 : Int32))] h0 (fun v h' => v = none ∧ Keep h0 h' [a1] ∧ Exa Z h' a1 "java/lang/String" ∧ Fld Z h' a1 "java/lang/String" "value" "[B" (.ref a2) ∧ Fld Z h' a1 "java/lang/String" "coder" "B" (.int 0)) := by
  refine Wk.Con.intro (plainFor_of_name pn2) O0 (fun m => ef8 m a1 a2) ?_
  intro W C
  replace C : Wk.Cx Z W "java/lang/String" "<init>" jdk_42_method_151_code 3 none := C
  refine Wk.aloadN (pc' := 1) C d_jdk_42m151_0 rfl rfl rfl ?_
  refine Wk.initO (pc' := 4) C d_jdk_42m151_1 (Wn := 0) (w15 hw) (w16 hw) (w17 hw) rfl (by decide) (Nat.le_of_eq rfl) (by decide) rfl ?_
  refine Wk.aloadN (pc' := 5) C d_jdk_42m151_4 rfl rfl rfl ?_
  refine Wk.aloadN (pc' := 6) C d_jdk_42m151_5 rfl rfl rfl ?_
  refine Wk.putF (pc' := 9) C d_jdk_42m151_6 (w24 hw) Via.refl F1 E1 (Or.inr ⟨(w20 hw), rfl, rfl⟩) (w6 hw) (ty := (.array .byte)) (by decide) rfl rfl g1 rfl ?_
  intro h11 W11 O11
  have F12 := F1.same W11
  refine Wk.aloadN (pc' := 10) C d_jdk_42m151_9 rfl rfl rfl ?_
  refine Wk.iloadN (pc' := 11) C d_jdk_42m151_10 rfl rfl ?_
  refine Wk.putF (pc' := 14) C d_jdk_42m151_11 (w25 hw) Via.refl (F2.other W11 (Or.inr (slot_ne (Or.inr (w21 hw)) (Or.inr (w20 hw)) (by decide) (t := .byte) (t' := (.array .byte)) (by decide) (by decide)))) (E1.wr W11) (Or.inr ⟨(w21 hw), rfl, rfl⟩) (w6 hw) (ty := .byte) (by decide) (by decide) (by decide) g1 rfl ?_
  intro h13 W13 O13
  have F14 := (F2.other W11 (Or.inr (slot_ne (Or.inr (w21 hw)) (Or.inr (w20 hw)) (by decide) (t := .byte) (t' := (.array .byte)) (by decide) (by decide)))).same W13
  exact Wk.retV C d_jdk_42m151_14 (by decide) (by decide) ⟨rfl, (((Keep.refl _ _).wr W11 (Or.inl (List.mem_singleton.mpr rfl))).wr W13 (Or.inl (List.mem_singleton.mpr rfl))), ((E1.wr W11).wr W13), (F12.other W13 (Or.inr (slot_ne (Or.inr (w20 hw)) (Or.inr (w21 hw)) (by decide) (t := (.array .byte)) (t' := .byte) (by decide) (by decide)))), F14⟩
set_option maxRecDepth 65536 in
set_option maxHeartbeats 40000000 in
theorem own_isLatin1 (l : Launch) {Z : State} {a0 : Array Value} (hw : Ws a0 Z) {h0 : Heap} (O0 : Ext Z.heap h0) (hs : Sets Z) (a1 : Addr) (cs : List Int32) (F : Str Z h0 a1 cs) :
    Wk.Con l Z (⟨"java/lang/String", "isLatin1", "()Z"⟩ : MethodName) jdk_42_method_154_code 1 (some .boolean) ({ frames := 0, cells := 0, slots := 0, locals := 0 } : Room) #[(.ref a1)] h0 (fun v h' => v = some (.int 1) ∧ h' = h0) := by
  refine Wk.Con.intro (plainFor_of_name pn2) O0 (fun m => ef9 m a1) ?_
  intro W C
  replace C : Wk.Cx Z W "java/lang/String" "isLatin1" jdk_42_method_154_code 1 (some .boolean) := C
  obtain ⟨zc, fm, SC, hzc, -, -⟩ := hs
  refine Wk.getS (pc' := 3) C d_jdk_42m154_0 (w40 hw) Via.refl (SC.ext O0) rfl ?_
  refine Wk.if_eq C d_jdk_42m154_3 (by decide) (pcT := 17) (by decide) (pc' := 6) rfl (fun q => absurd q hzc) (fun q11 => ?_)
  refine Wk.aloadN (pc' := 7) C d_jdk_42m154_6 rfl rfl rfl ?_
  refine Wk.getF (pc' := 10) C d_jdk_42m154_7 (w25 hw) Via.refl F.2.1 rfl ?_
  refine Wk.if_ne C d_jdk_42m154_10 (by decide) (pcT := 17) (by decide) (pc' := 13) rfl (fun q => absurd q (by decide)) (fun q12 => ?_)
  refine Wk.iconst (pc' := 14) C d_jdk_42m154_13 (v := (1 : Int32)) rfl rfl ?_
  refine Wk.goto C d_jdk_42m154_14 (by decide) (pc' := 18) (by decide) ?_
  exact Wk.retNar (ty := .boolean) C (by simp) d_jdk_42m154_18 rfl (by decide) (by decide) ⟨rfl, rfl⟩
set_option maxRecDepth 65536 in
set_option maxHeartbeats 40000000 in
theorem own_newS (l : Launch) {Z : State} {a0 : Array Value} (hw : Ws a0 Z) (hE : EW Z a0 EL) {h0 : Heap} (O0 : Ext Z.heap h0) (t : Addr) (cs : List Int32) (s mm : Nat) (V : Wk.Ary Z h0 t .byte ((cs.map fun c => c.toInt8.toInt32).map Value.int)) (hp : ∀ c ∈ cs, ¬ c < 0 ∧ ¬ (255 : Int32) < c) (hl4 : cs.length ≤ 4) (he : s + mm ≤ cs.length) (hne : ¬ (s = 0 ∧ s + mm = cs.length)) :
    Ww.Con l Z EL (⟨"java/lang/StringLatin1", "newString", "([BII)Ljava/lang/String;"⟩ : MethodName) jdk_43_method_47_code 3 (some (.object "java/lang/String")) ({ frames := 3, cells := 4, slots := 12, locals := 60 } : Room) #[(.ref t), (.int (Int32.ofNat s)), (.int (Int32.ofNat mm))] h0 (fun v h' => ∃ x' : Addr, v = some (.ref x') ∧ Ext h0 h' ∧ Str Z h' x' ((cs.drop s).take mm)) := by
  refine Ww.Con.intro (plainFor_of_name pn4) O0 (fun m => ef10 m t (Int32.ofNat s) (Int32.ofNat mm)) ?_
  intro W C
  replace C : Wk.Cx Z W "java/lang/StringLatin1" "newString" jdk_43_method_47_code 3 (some (.object "java/lang/String")) := C
  refine Ww.iloadN (pc' := 1) C d_jdk_43m47_0 rfl rfl ?_
  refine Ww.if_ne C d_jdk_43m47_1 (by decide) (pcT := 7) (by decide) (pc' := 4) rfl (fun q11 => ?_) (fun q11 => ?_)
  · -- pc 1: taken
    refine Ww.newO (pc' := 10) C d_jdk_43m47_7 (w92 hw) (w6 hw) (w7 hw) (k' := 1) rfl (n' := 4) rfl (by decide) (by decide) rfl ?_
    intro a12 h13 ga12 za12 E13 Aa12 Da12 Ua12 O13
    have F14 : Fld Z h13 a12 "java/lang/String" "value" "[B" .null := Da12 (Or.inr (w20 hw)) (ty := (.array .byte)) (by decide)
    have F15 : Fld Z h13 a12 "java/lang/String" "coder" "B" (.int (0 : Int32)) := Da12 (Or.inr (w21 hw)) (ty := .byte) (by decide)
    refine Ww.dup (pc' := 11) C d_jdk_43m47_10 rfl rfl ?_
    refine Ww.aloadN (pc' := 12) C d_jdk_43m47_11 rfl rfl rfl ?_
    refine Ww.iloadN (pc' := 13) C d_jdk_43m47_12 rfl rfl ?_
    refine Ww.iloadN (pc' := 14) C d_jdk_43m47_13 rfl rfl ?_
    refine Ww.iloadN (pc' := 15) C d_jdk_43m47_14 rfl rfl ?_
    obtain ⟨v16, hv16⟩ : ∃ z : Int32, (Int32.ofNat s) + (Int32.ofNat mm) = z := ⟨_, rfl⟩
    refine Ww.iadd (pc' := 16) C d_jdk_43m47_15 hv16 rfl ?_
    have f17 : v16 = (Int32.ofNat (s + mm)) := Wk.add32 (by omega) hv16
    rw [f17]
    refine Ww.callS (pc' := 19) C d_jdk_43m47_16 (fun vm0 C => (Wk.Con.pays C (Wn := 2) (own_cor l hw O13 t cs s (s + mm) (V.ext E13) hl4 (by omega) he hne) (w96 hw) (w95 hw) (by decide) (by decide))) Wk.cleanC (fun v h' q => by obtain ⟨_, -, -, e, -⟩ := q; exact Or.inr (Or.inl e)) (w93 hw) (w94 hw) (w95 hw) (w96 hw) (by decide) (argsL := [(.ref t), (.int (Int32.ofNat s)), (.int (Int32.ofNat (s + mm)))]) (st := [(.ref a12), (.ref a12)]) rfl rfl (lenOf pd3 rfl) rfl (Nat.le_of_eq rfl) (k' := 2) rfl (n' := 8) rfl (by decide) (by decide) rfl ?_
    intro r18 h19 Q19 O19
    obtain ⟨b20, rfl, gb20, E19, V19⟩ := Q19
    refine Ww.iconst (pc' := 20) C d_jdk_43m47_19 (v := (0 : Int32)) rfl rfl ?_
    refine Ww.callI (pc' := 23) C d_jdk_43m47_20 (a := a12) (fun vm0 C => (Wk.Con.pays C (Wn := 1) (own_strInitB l hw O19 a12 b20 _ _ za12 (Aa12.ext E19) (F14.ext E19) (F15.ext E19)) (w113 hw) (w7 hw) (by decide) (by decide))) Wk.cleanC (fun v h' q => Or.inr (Or.inr ⟨a12, (List.mem_of_getElem? (i := 0) rfl), q.2.1⟩)) rfl (w111 hw) (w112 hw) (w113 hw) (by decide) (argsL := [(.ref b20), (.int (0 : Int32))]) (st := [(.ref a12)]) rfl rfl (lenOf pd4 rfl) rfl (Nat.le_of_eq rfl) (k' := 2) rfl (n' := 8) rfl (by decide) (by decide) rfl ?_
    intro r21 h22 Q22 O22
    obtain ⟨rfl, Kh22, Ah22, Vh22, Ch22⟩ := Q22
    have X23 : Ext h0 h19 := Wk.Ext.trans E13 E19
    have X24 : Ext h0 h22 := Wk.Ext.keep1 (Z := Z) X23 Kh22 (Nat.le_of_eq ga12.symm)
    have em : s + mm - s = mm := by
      omega
    have V9 := (V19.keep Kh22 (ninS (Ne.symm (Nat.ne_of_lt (Nat.lt_of_lt_of_le Aa12.lt (Nat.le_of_eq gb20.symm)))) nin0))
    rw [em] at V9
    exact Ww.retA C hE rfl rfl d_jdk_43m47_23 (by decide) (by decide) ⟨_, rfl, X24, Ah22, Ch22, ⟨_, Vh22, V9⟩, (fun c hc => hp c (List.mem_of_mem_drop (List.mem_of_mem_take hc))), by simp; omega⟩
  · -- pc 1: not taken
    refine Ww.ldcS (pc' := 6) C d_jdk_43m47_4 (w115 hw) (wS hw) hE (by decide) (vs := []) ⟨by decide, by decide⟩ (z := (0 : Int32)) (by decide) (by decide) (nb := 0) (by decide) (by decide) (k' := 2) rfl (n' := 4) rfl (by decide) (by decide) rfl ?_
    intro a25 b26 h27 E27 A27 C27 V27 B27 N27 O27
    have m0 : mm = 0 := by
      exact (Wk.eq32 (b := 0) (by omega) (by omega)).mp q11
    exact Ww.retA C hE rfl rfl d_jdk_43m47_6 (by decide) (by decide) ⟨_, rfl, E27, by rw [m0, List.take_zero]; exact ⟨A27, C27, ⟨_, V27, B27⟩, (fun _ h => nomatch h), Nat.zero_le _⟩⟩
set_option maxRecDepth 65536 in
set_option maxHeartbeats 40000000 in
theorem own_substring (l : Launch) {Z : State} {a0 : Array Value} (hw : Ws a0 Z) (hE : EW Z a0 EL) {h0 : Heap} (O0 : Ext Z.heap h0) (hs : Sets Z) (x : Addr) (cs : List Int32) (s e : Nat) (F : Str Z h0 x cs) (hl4 : cs.length ≤ 4) (hse : s ≤ e) (he : e ≤ cs.length) :
    Ww.Con l Z EL (⟨"java/lang/String", "substring", "(II)Ljava/lang/String;"⟩ : MethodName) jdk_42_method_92_code 5 (some (.object "java/lang/String")) ({ frames := 4, cells := 4, slots := 12, locals := 80 } : Room) #[(.ref x), (.int (Int32.ofNat s)), (.int (Int32.ofNat e))] h0 (fun v h' => ∃ x' : Addr, v = some (.ref x') ∧ Ext h0 h' ∧ Str Z h' x' ((cs.drop s).take (e - s))) := by
  refine Ww.Con.intro (plainFor_of_name pn2) O0 (fun m => ef11 m x (Int32.ofNat s) (Int32.ofNat e)) ?_
  intro W C
  replace C : Wk.Cx Z W "java/lang/String" "substring" jdk_42_method_92_code 5 (some (.object "java/lang/String")) := C
  obtain ⟨t, F1, V⟩ := F.2.2.1
  refine Ww.aloadN (pc' := 1) C d_jdk_42m92_0 rfl rfl rfl ?_
  refine Ww.callV (pc' := 4) C d_jdk_42m92_1 (a := x) (fun vm0 C => (strLen C hw hs O0 (Wn := 0) F (by decide) (by decide))) (pureC (P := fun v => v = some (.int (Int32.ofNat cs.length))) O0) (fun v h' q => Or.inl q.2) F.exa (w46 hw) (w31 hw) (fun vm0 hZ0 => notFace_of_selects (args := #[]) (mvT (s := W.s.setVm vm0) hZ0 (w33 hw))) (w33 hw) (w32 hw) (by decide) (argsL := []) (st := []) rfl rfl (lenOf pd5 rfl) rfl (Nat.le_of_eq rfl) (k' := 0) rfl (n' := 0) rfl (by decide) (by decide) rfl ?_
  intro r11 h12 Q12 O12
  obtain ⟨rfl, e13⟩ := Q12
  obtain rfl := e13.symm
  refine Ww.istoreN (pc' := 5) C d_jdk_42m92_4 (Ls' := #[.val (.ref x), .val (.int (Int32.ofNat s)), .val (.int (Int32.ofNat e)), .val (.int (Int32.ofNat cs.length)), .unset]) rfl rfl ?_
  refine Ww.iloadN (pc' := 6) C d_jdk_42m92_5 rfl rfl ?_
  refine Ww.iloadN (pc' := 7) C d_jdk_42m92_6 rfl rfl ?_
  refine Ww.iloadN (pc' := 8) C d_jdk_42m92_7 rfl rfl ?_
  refine Ww.callS (pc' := 11) C d_jdk_42m92_8 (fun vm0 C => (Wk.Con.pays C (Wn := 0) (own_cbe l hw O0 hs (Int32.ofNat s) (Int32.ofNat e) (Int32.ofNat cs.length) (Wk.nn32 (by omega)) (fun q => absurd ((Wk.lt32 (by omega) (by omega)).mp q) (by omega)) (fun q => absurd ((Wk.lt32 (by omega) (by omega)).mp q) (by omega))) (w49 hw) (w7 hw) (by decide) (by decide))) Wk.cleanC (fun v h' q => Or.inl q.2) (w47 hw) (w48 hw) (w7 hw) (w49 hw) (by decide) (argsL := [(.int (Int32.ofNat s)), (.int (Int32.ofNat e)), (.int (Int32.ofNat cs.length))]) (st := []) rfl rfl (lenOf pd6 rfl) rfl (Nat.le_of_eq rfl) (k' := 0) rfl (n' := 0) rfl (by decide) (by decide) rfl ?_
  intro r14 h15 Q15 O15
  obtain ⟨rfl, e16⟩ := Q15
  obtain rfl := e16.symm
  refine Ww.iloadN (pc' := 12) C d_jdk_42m92_11 rfl rfl ?_
  refine Ww.if_ne C d_jdk_42m92_12 (by decide) (pcT := 22) (by decide) (pc' := 15) rfl (fun q17 => ?_) (fun q17 => ?_)
  · -- pc 12: taken
    refine Ww.iloadN (pc' := 23) C d_jdk_42m92_22 rfl rfl ?_
    refine Ww.iloadN (pc' := 24) C d_jdk_42m92_23 rfl rfl ?_
    obtain ⟨v18, hv18⟩ : ∃ z : Int32, (Int32.ofNat e) - (Int32.ofNat s) = z := ⟨_, rfl⟩
    refine Ww.isub (pc' := 25) C d_jdk_42m92_24 hv18 rfl ?_
    have f19 : v18 = (Int32.ofNat (e - s)) := Wk.sub32 hse (by omega) hv18
    rw [f19]
    refine Ww.istore (pc' := 27) C d_jdk_42m92_25 (Ls' := #[.val (.ref x), .val (.int (Int32.ofNat s)), .val (.int (Int32.ofNat e)), .val (.int (Int32.ofNat cs.length)), .val (.int (Int32.ofNat (e - s)))]) rfl rfl ?_
    have hne : ¬ (s = 0 ∧ s + (e - s) = cs.length) := fun z => q17 (congrArg Int32.ofNat z.1)
    refine Ww.aloadN (pc' := 28) C d_jdk_42m92_27 rfl rfl rfl ?_
    refine Ww.callV (pc' := 31) C d_jdk_42m92_28 (a := x) (fun vm0 C => (Wk.Con.pays C (Wn := 0) (own_isLatin1 l hw O0 hs x cs F) (w78 hw) (w7 hw) (by decide) (by decide))) Wk.cleanC (fun v h' q => Or.inl q.2) F.exa (w74 hw) (w75 hw) (fun vm0 hZ0 => notFace_of_selects (args := #[]) (mvT (s := W.s.setVm vm0) hZ0 (w77 hw))) (w77 hw) (w76 hw) (by decide) (argsL := []) (st := []) rfl rfl (lenOf pd7 rfl) rfl (Nat.le_of_eq rfl) (k' := 0) rfl (n' := 0) rfl (by decide) (by decide) rfl ?_
    intro r20 h21 Q21 O21
    obtain ⟨rfl, e22⟩ := Q21
    obtain rfl := e22.symm
    refine Ww.if_eq C d_jdk_42m92_31 (by decide) (pcT := 47) (by decide) (pc' := 34) rfl (fun q => absurd q (by decide)) (fun q23 => ?_)
    refine Ww.aloadN (pc' := 35) C d_jdk_42m92_34 rfl rfl rfl ?_
    refine Ww.getF (pc' := 38) C d_jdk_42m92_35 (w24 hw) Via.refl F1 rfl ?_
    refine Ww.iloadN (pc' := 39) C d_jdk_42m92_38 rfl rfl ?_
    refine Ww.iload (pc' := 41) C d_jdk_42m92_39 rfl rfl ?_
    refine Ww.callSS (pc' := 44) C d_jdk_42m92_41 (Ww.Con.pays hE (Wn := 0) (own_newS l hw hE O0 t cs s (e - s) V F.2.2.2.1 hl4 (by omega) hne) (w91 hw) (w81 hw) (by decide) (by decide)) Wk.cleanC (w89 hw) (w90 hw) (w81 hw) (w91 hw) (by decide) (argsL := [(.ref t), (.int (Int32.ofNat s)), (.int (Int32.ofNat (e - s)))]) (st := []) rfl rfl (lenOf pd8 rfl) rfl (Nat.le_of_eq rfl) (k' := 4) rfl (n' := 12) rfl (by decide) (by decide) rfl ?_
    intro r24 h25 Q25 O25
    obtain ⟨x26, rfl, E25, S25⟩ := Q25
    refine Ww.goto C d_jdk_42m92_44 (by decide) (pc' := 57) (by decide) ?_
    exact Ww.retA C hE rfl rfl d_jdk_42m92_57 (by decide) (by decide) ⟨_, rfl, E25, S25⟩
  · -- pc 12: not taken
    refine Ww.iloadN (pc' := 16) C d_jdk_42m92_15 rfl rfl ?_
    refine Ww.iloadN (pc' := 17) C d_jdk_42m92_16 rfl rfl ?_
    refine Ww.icmp_ne C d_jdk_42m92_17 (by decide) (pcT := 22) (by decide) (pc' := 20) rfl (fun q27 => ?_) (fun q27 => ?_)
    · -- pc 17: taken
      refine Ww.iloadN (pc' := 23) C d_jdk_42m92_22 rfl rfl ?_
      refine Ww.iloadN (pc' := 24) C d_jdk_42m92_23 rfl rfl ?_
      obtain ⟨v28, hv28⟩ : ∃ z : Int32, (Int32.ofNat e) - (Int32.ofNat s) = z := ⟨_, rfl⟩
      refine Ww.isub (pc' := 25) C d_jdk_42m92_24 hv28 rfl ?_
      have f29 : v28 = (Int32.ofNat (e - s)) := Wk.sub32 hse (by omega) hv28
      rw [f29]
      refine Ww.istore (pc' := 27) C d_jdk_42m92_25 (Ls' := #[.val (.ref x), .val (.int (Int32.ofNat s)), .val (.int (Int32.ofNat e)), .val (.int (Int32.ofNat cs.length)), .val (.int (Int32.ofNat (e - s)))]) rfl rfl ?_
      have hne : ¬ (s = 0 ∧ s + (e - s) = cs.length) := fun z => q27 (congrArg Int32.ofNat (by omega))
      refine Ww.aloadN (pc' := 28) C d_jdk_42m92_27 rfl rfl rfl ?_
      refine Ww.callV (pc' := 31) C d_jdk_42m92_28 (a := x) (fun vm0 C => (Wk.Con.pays C (Wn := 0) (own_isLatin1 l hw O0 hs x cs F) (w78 hw) (w7 hw) (by decide) (by decide))) Wk.cleanC (fun v h' q => Or.inl q.2) F.exa (w74 hw) (w75 hw) (fun vm0 hZ0 => notFace_of_selects (args := #[]) (mvT (s := W.s.setVm vm0) hZ0 (w77 hw))) (w77 hw) (w76 hw) (by decide) (argsL := []) (st := []) rfl rfl (lenOf pd7 rfl) rfl (Nat.le_of_eq rfl) (k' := 0) rfl (n' := 0) rfl (by decide) (by decide) rfl ?_
      intro r30 h31 Q31 O31
      obtain ⟨rfl, e32⟩ := Q31
      obtain rfl := e32.symm
      refine Ww.if_eq C d_jdk_42m92_31 (by decide) (pcT := 47) (by decide) (pc' := 34) rfl (fun q => absurd q (by decide)) (fun q33 => ?_)
      refine Ww.aloadN (pc' := 35) C d_jdk_42m92_34 rfl rfl rfl ?_
      refine Ww.getF (pc' := 38) C d_jdk_42m92_35 (w24 hw) Via.refl F1 rfl ?_
      refine Ww.iloadN (pc' := 39) C d_jdk_42m92_38 rfl rfl ?_
      refine Ww.iload (pc' := 41) C d_jdk_42m92_39 rfl rfl ?_
      refine Ww.callSS (pc' := 44) C d_jdk_42m92_41 (Ww.Con.pays hE (Wn := 0) (own_newS l hw hE O0 t cs s (e - s) V F.2.2.2.1 hl4 (by omega) hne) (w91 hw) (w81 hw) (by decide) (by decide)) Wk.cleanC (w89 hw) (w90 hw) (w81 hw) (w91 hw) (by decide) (argsL := [(.ref t), (.int (Int32.ofNat s)), (.int (Int32.ofNat (e - s)))]) (st := []) rfl rfl (lenOf pd8 rfl) rfl (Nat.le_of_eq rfl) (k' := 4) rfl (n' := 12) rfl (by decide) (by decide) rfl ?_
      intro r34 h35 Q35 O35
      obtain ⟨x36, rfl, E35, S35⟩ := Q35
      refine Ww.goto C d_jdk_42m92_44 (by decide) (pc' := 57) (by decide) ?_
      exact Ww.retA C hE rfl rfl d_jdk_42m92_57 (by decide) (by decide) ⟨_, rfl, E35, S35⟩
    · -- pc 17: not taken
      refine Ww.aloadN (pc' := 21) C d_jdk_42m92_20 rfl rfl rfl ?_
      have s0 : s = 0 := by
        exact (Wk.eq32 (b := 0) (by omega) (by omega)).mp q17
      have en : e = cs.length := by
        exact (Wk.eq32 (by omega) (by omega)).mp q27
      exact Ww.retA C hE rfl rfl d_jdk_42m92_21 (by decide) (by decide) ⟨_, rfl, Wk.Ext.refl _, by rw [s0, en]; simpa using F⟩
set_option maxRecDepth 65536 in
set_option maxHeartbeats 40000000 in
theorem own_wos (l : Launch) {Z : State} {a0 : Array Value} (hw : Ws a0 Z) (hE : EW Z a0 EL) {h0 : Heap} (O0 : Ext Z.heap h0) (hs : Sets Z) (x : Addr) (cs : List Int32) (F : Str Z h0 x cs) (hl4 : cs.length ≤ 4) :
    Ww.Con l Z EL (⟨"com/example/shelfmark/shelfmark/model/MarcRecord", "withoutOuterSpaces", "(Ljava/lang/String;)Ljava/lang/String;"⟩ : MethodName) prog_36_method_11_code 3 (some (.object "java/lang/String")) ({ frames := 5, cells := 4, slots := 12, locals := 100 } : Room) #[(.ref x)] h0 (fun v h' => ∃ x' : Addr, v = some (.ref x') ∧ Ext h0 h' ∧ Str Z h' x' (trim cs)) := by
  refine Ww.Con.intro (plainFor_of_name pn5) O0 (fun m => ef12 m x) ?_
  intro W C
  replace C : Wk.Cx Z W "com/example/shelfmark/shelfmark/model/MarcRecord" "withoutOuterSpaces" prog_36_method_11_code 3 (some (.object "java/lang/String")) := C
  refine Ww.iconst (pc' := 1) C d_prog_36m11_0 (v := (0 : Int32)) rfl rfl ?_
  refine Ww.istoreN (pc' := 2) C d_prog_36m11_1 (Ls' := #[.val (.ref x), .val (.int (0 : Int32)), .unset]) rfl rfl ?_
  refine Ww.aloadN (pc' := 3) C d_prog_36m11_2 rfl rfl rfl ?_
  refine Ww.callV (pc' := 6) C d_prog_36m11_3 (a := x) (fun vm0 C => (strLen C hw hs O0 (Wn := 0) F (by decide) (by decide))) (pureC (P := fun v => v = some (.int (Int32.ofNat cs.length))) O0) (fun v h' q => Or.inl q.2) F.exa (w30 hw) (w31 hw) (fun vm0 hZ0 => notFace_of_selects (args := #[]) (mvT (s := W.s.setVm vm0) hZ0 (w33 hw))) (w33 hw) (w32 hw) (by decide) (argsL := []) (st := []) rfl rfl (lenOf pd5 rfl) rfl (Nat.le_of_eq rfl) (k' := 0) rfl (n' := 0) rfl (by decide) (by decide) rfl ?_
  intro r11 h12 Q12 O12
  obtain ⟨rfl, e13⟩ := Q12
  obtain rfl := e13.symm
  refine Ww.istoreN (pc' := 7) C d_prog_36m11_6 (Ls' := #[.val (.ref x), .val (.int (0 : Int32)), .val (.int (Int32.ofNat cs.length))]) rfl rfl ?_
  have J28 : ∀ b, lead cs = b → Ww.Run l ({ frames := 5, cells := 4, slots := 12, locals := 100 } : Room) Z EL W (fun v h' => ∃ x' : Addr, v = some (.ref x') ∧ Ext h0 h' ∧ Str Z h' x' (trim cs)) [] h0 0 0 (mkF W.m 28 #[.val (.ref x), .val (.int (Int32.ofNat b)), .val (.int (Int32.ofNat cs.length))] []) := by
    intro b hb
    have hbn := lead_le cs
    rw [hb] at hbn
    have J51 : ∀ e, endAt cs b cs.length = e → Ww.Run l ({ frames := 5, cells := 4, slots := 12, locals := 100 } : Room) Z EL W (fun v h' => ∃ x' : Addr, v = some (.ref x') ∧ Ext h0 h' ∧ Str Z h' x' (trim cs)) [] h0 0 0 (mkF W.m 51 #[.val (.ref x), .val (.int (Int32.ofNat b)), .val (.int (Int32.ofNat e))] []) := by
      intro e hee
      have hbe : b ≤ e := by
        rw [← hee]; exact le_endAt cs b _ hbn
      have hen : e ≤ cs.length := by
        rw [← hee]; exact endAt_le cs b _
      refine Ww.aloadN (pc' := 52) C d_prog_36m11_51 rfl rfl rfl ?_
      refine Ww.iloadN (pc' := 53) C d_prog_36m11_52 rfl rfl ?_
      refine Ww.iloadN (pc' := 54) C d_prog_36m11_53 rfl rfl ?_
      refine Ww.callVS (pc' := 57) C d_prog_36m11_54 (a := x) (Ww.Con.pays hE (Wn := 0) (own_substring l hw hE O0 hs x cs b e F hl4 hbe (by omega)) (w45 hw) (w7 hw) (by decide) (by decide)) Wk.cleanC F.exa (w41 hw) (w42 hw) (fun vm0 hZ0 => notFace_of_selects (args := #[]) (mvT (s := W.s.setVm vm0) hZ0 (w44 hw))) (w44 hw) (w43 hw) (by decide) (argsL := [(.int (Int32.ofNat b)), (.int (Int32.ofNat e))]) (st := []) rfl rfl (lenOf pd9 rfl) rfl (Nat.le_of_eq rfl) (k' := 4) rfl (n' := 12) rfl (by decide) (by decide) rfl ?_
      intro r14 h15 Q15 O15
      obtain ⟨x16, rfl, E15, S15⟩ := Q15
      exact Ww.retA C hE rfl rfl d_prog_36m11_57 (by decide) (by decide) ⟨_, rfl, E15, by rw [show trim cs = (cs.drop b).take (e - b) by unfold trim; rw [hb, hee]]; exact S15⟩
    have L28 : ∀ e, b ≤ e → e ≤ cs.length → endAt cs b e = endAt cs b cs.length → Ww.Run l ({ frames := 5, cells := 4, slots := 12, locals := 100 } : Room) Z EL W (fun v h' => ∃ x' : Addr, v = some (.ref x') ∧ Ext h0 h' ∧ Str Z h' x' (trim cs)) [] h0 0 0 (mkF W.m 28 #[.val (.ref x), .val (.int (Int32.ofNat b)), .val (.int (Int32.ofNat e))] []) := by
      intro e
      induction e with
      | zero =>
        intro hbe hen hr
        refine Ww.iloadN (pc' := 29) C d_prog_36m11_28 rfl rfl ?_
        refine Ww.iloadN (pc' := 30) C d_prog_36m11_29 rfl rfl ?_
        refine Ww.icmp_le C d_prog_36m11_30 (by decide) (pcT := 51) (by decide) (pc' := 33) rfl (fun q17 => ?_) (fun q => absurd ((Wk.lt32 (by omega) (by omega)).mp q) (by omega))
        exact J51 0 hr.symm
      | succ e ih =>
        intro hbe hen hr
        refine Ww.iloadN (pc' := 29) C d_prog_36m11_28 rfl rfl ?_
        refine Ww.iloadN (pc' := 30) C d_prog_36m11_29 rfl rfl ?_
        refine Ww.icmp_le C d_prog_36m11_30 (by decide) (pcT := 51) (by decide) (pc' := 33) rfl (fun q18 => ?_) (fun q18 => ?_)
        · -- pc 30: taken
          exact J51 (e + 1) (hr.symm.trans (endAt_stop (fun z => q18 ((Wk.lt32 (by omega) (by omega)).mpr z.1))))
        · -- pc 30: not taken
          have hbl : b < e + 1 := (Wk.lt32 (by omega) (by omega)).mp q18
          refine Ww.aloadN (pc' := 34) C d_prog_36m11_33 rfl rfl rfl ?_
          refine Ww.iloadN (pc' := 35) C d_prog_36m11_34 rfl rfl ?_
          refine Ww.iconst (pc' := 36) C d_prog_36m11_35 (v := (1 : Int32)) rfl rfl ?_
          obtain ⟨v19, hv19⟩ : ∃ z : Int32, (Int32.ofNat (e + 1)) - (1 : Int32) = z := ⟨_, rfl⟩
          refine Ww.isub (pc' := 37) C d_prog_36m11_36 hv19 rfl ?_
          have f20 : v19 = (Int32.ofNat e) := (Wk.sub32 (a := e + 1) (b := 1) (by omega) (by omega) hv19).trans (congrArg Int32.ofNat (by omega))
          rw [f20]
          refine Ww.callV (pc' := 40) C d_prog_36m11_37 (a := x) (fun vm0 C => (strAt C hw hs O0 (Wn := 0) (i := e) F (by omega) rfl (by decide) (by decide))) (pureC (P := fun v => v = some (.int (cs.getD e 0))) O0) (fun v h' q => Or.inl q.2) F.exa (w69 hw) (w70 hw) (fun vm0 hZ0 => notFace_of_selects (args := #[]) (mvT (s := W.s.setVm vm0) hZ0 (w72 hw))) (w72 hw) (w71 hw) (by decide) (argsL := [(.int (Int32.ofNat e))]) (st := []) rfl rfl (lenOf pd10 rfl) rfl (Nat.le_of_eq rfl) (k' := 0) rfl (n' := 0) rfl (by decide) (by decide) rfl ?_
          intro r21 h22 Q22 O22
          obtain ⟨rfl, e23⟩ := Q22
          obtain rfl := e23.symm
          refine Ww.bipush (pc' := 42) C d_prog_36m11_40 (v := (32 : Int32)) rfl rfl ?_
          refine Ww.icmp_ne C d_prog_36m11_42 (by decide) (pcT := 51) (by decide) (pc' := 45) rfl (fun q24 => ?_) (fun q24 => ?_)
          · -- pc 42: taken
            exact J51 (e + 1) (hr.symm.trans (endAt_stop (fun z => q24 z.2)))
          · -- pc 42: not taken
            obtain ⟨v25, hv25⟩ : ∃ z : Int32, (Int32.ofNat (e + 1)) + Int32.ofInt (-1) = z := ⟨_, rfl⟩
            refine Ww.iinc (pc' := 48) C d_prog_36m11_45 rfl hv25 (Ls' := #[.val (.ref x), .val (.int (Int32.ofNat b)), .val (.int v25)]) rfl rfl ?_
            refine Ww.goto C d_prog_36m11_48 (by decide) (pc' := 28) (by decide) ?_
            have hn : v25 = Int32.ofNat e := by
              exact Wk.dec32 (by omega) hv25
            rw [hn]
            exact ih (by omega) (by omega) (by rw [← hr]; exact (endAt_go ⟨hbl, q24⟩).symm)
    exact L28 cs.length hbn (Nat.le_refl _) rfl
  have L7 : ∀ d j, j + d = cs.length → lead cs = j + lead (cs.drop j) → Ww.Run l ({ frames := 5, cells := 4, slots := 12, locals := 100 } : Room) Z EL W (fun v h' => ∃ x' : Addr, v = some (.ref x') ∧ Ext h0 h' ∧ Str Z h' x' (trim cs)) [] h0 0 0 (mkF W.m 7 #[.val (.ref x), .val (.int (Int32.ofNat j)), .val (.int (Int32.ofNat cs.length))] []) := by
    intro d
    induction d with
    | zero =>
      intro j hjd hr
      have hlt : ¬ (Int32.ofNat j < Int32.ofNat cs.length) := fun q => absurd ((Wk.lt32 (by omega) (by omega)).mp q) (by omega)
      have hj0 : lead cs = j := by
        rw [hr, List.drop_eq_nil_of_le (by omega)]; rfl
      refine Ww.iloadN (pc' := 8) C d_prog_36m11_7 rfl rfl ?_
      refine Ww.iloadN (pc' := 9) C d_prog_36m11_8 rfl rfl ?_
      refine Ww.icmp_ge C d_prog_36m11_9 (by decide) (pcT := 28) (by decide) (pc' := 12) rfl (fun q26 => ?_) (fun q => absurd q hlt)
      exact J28 j hj0
    | succ d ih =>
      intro j hjd hr
      have hlt : Int32.ofNat j < Int32.ofNat cs.length := (Wk.lt32 (by omega) (by omega)).mpr (by omega)
      have hjl : j < cs.length := by omega
      have hdr := own_drop hjl
      refine Ww.iloadN (pc' := 8) C d_prog_36m11_7 rfl rfl ?_
      refine Ww.iloadN (pc' := 9) C d_prog_36m11_8 rfl rfl ?_
      refine Ww.icmp_ge C d_prog_36m11_9 (by decide) (pcT := 28) (by decide) (pc' := 12) rfl (fun q => absurd hlt q) (fun q27 => ?_)
      refine Ww.aloadN (pc' := 13) C d_prog_36m11_12 rfl rfl rfl ?_
      refine Ww.iloadN (pc' := 14) C d_prog_36m11_13 rfl rfl ?_
      refine Ww.callV (pc' := 17) C d_prog_36m11_14 (a := x) (fun vm0 C => (strAt C hw hs O0 (Wn := 0) (i := j) F hjl rfl (by decide) (by decide))) (pureC (P := fun v => v = some (.int (cs.getD j 0))) O0) (fun v h' q => Or.inl q.2) F.exa (w69 hw) (w70 hw) (fun vm0 hZ0 => notFace_of_selects (args := #[]) (mvT (s := W.s.setVm vm0) hZ0 (w72 hw))) (w72 hw) (w71 hw) (by decide) (argsL := [(.int (Int32.ofNat j))]) (st := []) rfl rfl (lenOf pd10 rfl) rfl (Nat.le_of_eq rfl) (k' := 0) rfl (n' := 0) rfl (by decide) (by decide) rfl ?_
      intro r28 h29 Q29 O29
      obtain ⟨rfl, e30⟩ := Q29
      obtain rfl := e30.symm
      refine Ww.bipush (pc' := 19) C d_prog_36m11_17 (v := (32 : Int32)) rfl rfl ?_
      refine Ww.icmp_ne C d_prog_36m11_19 (by decide) (pcT := 28) (by decide) (pc' := 22) rfl (fun q31 => ?_) (fun q31 => ?_)
      · -- pc 19: taken
        exact J28 j (by rw [hr, hdr, show lead (cs.getD j 0 :: cs.drop (j + 1)) = 0 from if_neg q31]; rfl)
      · -- pc 19: not taken
        obtain ⟨v32, hv32⟩ : ∃ z : Int32, (Int32.ofNat j) + Int32.ofInt 1 = z := ⟨_, rfl⟩
        refine Ww.iinc (pc' := 25) C d_prog_36m11_22 rfl hv32 (Ls' := #[.val (.ref x), .val (.int v32), .val (.int (Int32.ofNat cs.length))]) rfl rfl ?_
        refine Ww.goto C d_prog_36m11_25 (by decide) (pc' := 7) (by decide) ?_
        have hn : v32 = Int32.ofNat (j + 1) := by
          rw [← hv32]; exact Wk.succ32 (by omega)
        rw [hn]
        exact ih (j + 1) (by omega) (by rw [hr, hdr, show lead (cs.getD j 0 :: cs.drop (j + 1)) = lead (cs.drop (j + 1)) + 1 from if_pos q31]; omega)
  exact L7 cs.length 0 (by omega) (by simp)
set_option maxRecDepth 65536 in
set_option maxHeartbeats 40000000 in
theorem own_new4e (l : Launch) {Z : State} {a0 : Array Value} (hw : Ws a0 Z) (hE : EW Z a0 EL) {h0 : Heap} (O0 : Ext Z.heap h0) (a1 a2 : Addr) (g1 : Z.heap.size ≤ a1) (E1 : Exa Z h0 a1 "java/lang/String") (F1 : Fld Z h0 a1 "java/lang/String" "value" "[B" .null) (F2 : Fld Z h0 a1 "java/lang/String" "coder" "B" (.int (0 : Int32))) :
    Ww.Con l Z EL (⟨"java/lang/String", "<init>", "([CIILjava/lang/Void;)V"⟩ : MethodName) jdk_42_method_149_code 6 none ({ frames := 1, cells := 4, slots := 8, locals := 12 } : Room) #[(.ref a1), (.ref a2), (.int (0 : Int32)), (.int (0 : Int32)), .null] h0 (fun v h' => v = none ∧ Keep h0 h' [a1] ∧ Str Z h' a1 []) := by
  refine Ww.Con.intro (plainFor_of_name pn2) O0 (fun m => ef13 m a1 a2) ?_
  intro W C
  replace C : Wk.Cx Z W "java/lang/String" "<init>" jdk_42_method_149_code 6 none := C
  refine Ww.Run.safe E1.lt (Ww.SafeAt.str0 E1 F1) ?_
  refine Ww.aloadN (pc' := 1) C d_jdk_42m149_0 rfl rfl rfl ?_
  refine Ww.initO (pc' := 4) C d_jdk_42m149_1 (Wn := 0) (w15 hw) (w16 hw) (w17 hw) rfl (by decide) (Nat.le_of_eq rfl) (by decide) rfl ?_
  refine Ww.iloadN (pc' := 5) C d_jdk_42m149_4 rfl rfl ?_
  refine Ww.if_ne C d_jdk_42m149_5 (by decide) (pcT := 27) (by decide) (pc' := 8) rfl (fun q => absurd q (by decide)) (fun q11 => ?_)
  refine Ww.aloadN (pc' := 9) C d_jdk_42m149_8 rfl rfl rfl ?_
  refine Ww.ldcS (pc' := 11) C d_jdk_42m149_9 (w18 hw) (wS hw) hE (by decide) (vs := []) ⟨by decide, by decide⟩ (z := (0 : Int32)) (by decide) (by decide) (nb := 0) (by decide) (by decide) (k' := 2) rfl (n' := 4) rfl (by decide) (by decide) rfl ?_
  intro a12 b13 h14 E14 A14 C14 V14 B14 N14 O14
  refine Ww.getF (pc' := 14) C d_jdk_42m149_11 (w24 hw) Via.refl V14 rfl ?_
  refine Ww.putF (pc' := 17) C d_jdk_42m149_14 (w24 hw) Via.refl (F1.ext E14) (E1.ext E14) (Or.inr ⟨(w20 hw), rfl, rfl⟩) (w6 hw) (ty := (.array .byte)) (by decide) rfl rfl g1 (List.mem_of_getElem? (i := 0) rfl) rfl ?_
  intro h15 W15 O15
  have F16 := (F1.ext E14).same W15
  refine Ww.aloadN (pc' := 18) C d_jdk_42m149_17 rfl rfl rfl ?_
  refine Ww.ldcS (pc' := 20) C d_jdk_42m149_18 (w18 hw) (wS hw) hE (by decide) (vs := []) ⟨by decide, by decide⟩ (z := (0 : Int32)) (by decide) (by decide) (nb := 0) (by decide) (by decide) (k' := 4) rfl (n' := 8) rfl (by decide) (by decide) rfl ?_
  intro a17 b18 h19 E19 A19 C19 V19 B19 N19 O19
  refine Ww.getF (pc' := 23) C d_jdk_42m149_20 (w25 hw) Via.refl C19 rfl ?_
  refine Ww.putF (pc' := 26) C d_jdk_42m149_23 (w25 hw) Via.refl (((F2.ext E14).other W15 (Or.inr (slot_ne (Or.inr (w21 hw)) (Or.inr (w20 hw)) (by decide) (t := .byte) (t' := (.array .byte)) (by decide) (by decide)))).ext E19) (((E1.ext E14).wr W15).ext E19) (Or.inr ⟨(w21 hw), rfl, rfl⟩) (w6 hw) (ty := .byte) (by decide) (by decide) (by decide) g1 (List.mem_of_getElem? (i := 0) rfl) rfl ?_
  intro h20 W20 O20
  have F21 := (((F2.ext E14).other W15 (Or.inr (slot_ne (Or.inr (w21 hw)) (Or.inr (w20 hw)) (by decide) (t := .byte) (t' := (.array .byte)) (by decide) (by decide)))).ext E19).same W20
  exact Ww.retV C hE d_jdk_42m149_26 (by decide) (by decide) ⟨rfl, (((((Keep.refl _ _).ext E14).wr W15 (Or.inl (List.mem_singleton.mpr rfl))).ext E19).wr W20 (Or.inl (List.mem_singleton.mpr rfl))), ((((E1.ext E14).wr W15).ext E19).wr W20), F21, ⟨_, ((F16.ext E19).other W20 (Or.inr (slot_ne (Or.inr (w20 hw)) (Or.inr (w21 hw)) (by decide) (t := (.array .byte)) (t' := .byte) (by decide) (by decide)))), (((B14.other W15 (Ne.symm (N14 a1 (List.mem_of_getElem? (i := 0) rfl)).2)).ext E19).other W20 (Ne.symm (N14 a1 (List.mem_of_getElem? (i := 0) rfl)).2))⟩, (fun _ h => nomatch h), by decide⟩
set_option maxRecDepth 65536 in
set_option maxHeartbeats 40000000 in
theorem own_newE (l : Launch) {Z : State} {a0 : Array Value} (hw : Ws a0 Z) (hE : EW Z a0 EL) {h0 : Heap} (O0 : Ext Z.heap h0) (a1 a2 : Addr) (g1 : Z.heap.size ≤ a1) (E1 : Exa Z h0 a1 "java/lang/String") (F1 : Fld Z h0 a1 "java/lang/String" "value" "[B" .null) (F2 : Fld Z h0 a1 "java/lang/String" "coder" "B" (.int (0 : Int32))) (V2 : Wk.Ary Z h0 a2 .char []) :
    Ww.Con l Z EL (⟨"java/lang/String", "<init>", "([C)V"⟩ : MethodName) jdk_42_method_3_code 2 none ({ frames := 2, cells := 4, slots := 8, locals := 29 } : Room) #[(.ref a1), (.ref a2)] h0 (fun v h' => v = none ∧ Keep h0 h' [a1] ∧ Str Z h' a1 []) := by
  refine Ww.Con.intro (plainFor_of_name pn2) O0 (fun m => ef14 m a1 a2) ?_
  intro W C
  replace C : Wk.Cx Z W "java/lang/String" "<init>" jdk_42_method_3_code 2 none := C
  refine Ww.aloadN (pc' := 1) C d_jdk_42m3_0 rfl rfl rfl ?_
  refine Ww.aloadN (pc' := 2) C d_jdk_42m3_1 rfl rfl rfl ?_
  refine Ww.iconst (pc' := 3) C d_jdk_42m3_2 (v := (0 : Int32)) rfl rfl ?_
  refine Ww.aloadN (pc' := 4) C d_jdk_42m3_3 rfl rfl rfl ?_
  refine Ww.alen (pc' := 5) C d_jdk_42m3_4 V2 (z := (0 : Int32)) rfl rfl ?_
  refine Ww.aconstNull (pc' := 6) C d_jdk_42m3_5 rfl ?_
  refine Ww.callIS (pc' := 9) C d_jdk_42m3_6 (a := a1) (Ww.Con.pays hE (Wn := 0) (own_new4e l hw hE O0 a1 a2 g1 E1 F1 F2) (w14 hw) (w7 hw) (by decide) (by decide)) Wk.cleanC rfl (w11 hw) (w12 hw) (w14 hw) (by decide) (argsL := [(.ref a2), (.int (0 : Int32)), (.int (0 : Int32)), .null]) (st := []) rfl rfl (lenOf pd11 rfl) rfl (Nat.le_of_eq rfl) (k' := 4) rfl (n' := 8) rfl (by decide) (by decide) rfl ?_
  intro r11 h12 Q12 O12
  obtain ⟨rfl, Kh12, Sh12⟩ := Q12
  exact Ww.retV C hE d_jdk_42m3_9 (by decide) (by decide) ⟨rfl, ((Keep.refl _ _).trans Kh12 (allS (Or.inl (List.mem_singleton.mpr rfl)) all0)), Sh12⟩
set_option maxRecDepth 65536 in
set_option maxHeartbeats 80000000 in
theorem own_law (l : Launch) {Z : State} {a0 : Array Value} (hw : Ws a0 Z) (hE : EW Z a0 EL) (p0 p1 p2 p3 p4 : Int32) (hs : Sets Z)  :
    Ww.Con l Z EL x code maxLocals ret room_1 #[(.int p0), (.int p1), (.int p2), (.int p3), (.int p4)] Z.heap (fun v _ => v = some (.int 1)) := by
  refine Ww.Con.intro (plainFor_of_name pn0) (Wk.Ext.refl _) (fun m => ef15 m p0 p1 p2 p3 p4) ?_
  intro W C
  replace C : Wk.Cx Z W "com/example/shelfmark/shelfmark/model/MarcRecordWithoutOuterSpacesPinLaw" "law" code 17 (some .boolean) := C
  have O0 : Ext Z.heap Z.heap := Wk.Ext.refl _
  refine Ww.iloadN (pc' := 1) C at_0 rfl rfl ?_
  refine Ww.bipush (pc' := 3) C at_1 (v := (7 : Int32)) rfl rfl ?_
  obtain ⟨v11, hv11⟩ : ∃ z : Int32, p0 &&& (7 : Int32) = z := ⟨_, rfl⟩
  refine Ww.iand (pc' := 4) C at_3 hv11 rfl ?_
  refine Ww.iconst (pc' := 5) C at_4 (v := (5 : Int32)) rfl rfl ?_
  obtain ⟨v12, hv12⟩ : ∃ z : Int32, v11 % (5 : Int32) = z := ⟨_, rfl⟩
  refine Ww.irem (pc' := 6) C at_5 (by decide) hv12 rfl ?_
  refine Ww.istore (pc' := 8) C at_6 (Ls' := #[.val (.int p0), .val (.int p1), .val (.int p2), .val (.int p3), .val (.int p4), .val (.int v12), .unset, .unset, .unset, .unset, .unset, .unset, .unset, .unset, .unset, .unset, .unset]) rfl rfl ?_
  refine Ww.iloadN (pc' := 9) C at_8 rfl rfl ?_
  refine Ww.callS (pc' := 12) C at_9 (fun vm0 C => (Wk.Con.pays C (Wn := 0) (own_draw l hw O0 p1) (w3 hw) (w2 hw) (by decide) (by decide))) Wk.cleanC (fun v h' q => by obtain ⟨_, -, -, e⟩ := q; exact Or.inl e) (w0 hw) (w1 hw) (w2 hw) (w3 hw) (by decide) (argsL := [(.int p1)]) (st := []) rfl rfl (lenOf pd10 rfl) rfl (Nat.le_of_eq rfl) (k' := 0) rfl (n' := 0) rfl (by decide) (by decide) rfl ?_
  intro r13 h14 Q14 O14
  obtain ⟨c15, rfl, rc15, e16⟩ := Q14
  obtain rfl := e16.symm
  refine Ww.istore (pc' := 14) C at_12 (Ls' := #[.val (.int p0), .val (.int p1), .val (.int p2), .val (.int p3), .val (.int p4), .val (.int v12), .val (.int c15), .unset, .unset, .unset, .unset, .unset, .unset, .unset, .unset, .unset, .unset]) rfl rfl ?_
  refine Ww.iloadN (pc' := 15) C at_14 rfl rfl ?_
  refine Ww.callS (pc' := 18) C at_15 (fun vm0 C => (Wk.Con.pays C (Wn := 0) (own_draw l hw O0 p2) (w3 hw) (w2 hw) (by decide) (by decide))) Wk.cleanC (fun v h' q => by obtain ⟨_, -, -, e⟩ := q; exact Or.inl e) (w0 hw) (w1 hw) (w2 hw) (w3 hw) (by decide) (argsL := [(.int p2)]) (st := []) rfl rfl (lenOf pd10 rfl) rfl (Nat.le_of_eq rfl) (k' := 0) rfl (n' := 0) rfl (by decide) (by decide) rfl ?_
  intro r17 h18 Q18 O18
  obtain ⟨c19, rfl, rc19, e20⟩ := Q18
  obtain rfl := e20.symm
  refine Ww.istore (pc' := 20) C at_18 (Ls' := #[.val (.int p0), .val (.int p1), .val (.int p2), .val (.int p3), .val (.int p4), .val (.int v12), .val (.int c15), .val (.int c19), .unset, .unset, .unset, .unset, .unset, .unset, .unset, .unset, .unset]) rfl rfl ?_
  refine Ww.iloadN (pc' := 21) C at_20 rfl rfl ?_
  refine Ww.callS (pc' := 24) C at_21 (fun vm0 C => (Wk.Con.pays C (Wn := 0) (own_draw l hw O0 p3) (w3 hw) (w2 hw) (by decide) (by decide))) Wk.cleanC (fun v h' q => by obtain ⟨_, -, -, e⟩ := q; exact Or.inl e) (w0 hw) (w1 hw) (w2 hw) (w3 hw) (by decide) (argsL := [(.int p3)]) (st := []) rfl rfl (lenOf pd10 rfl) rfl (Nat.le_of_eq rfl) (k' := 0) rfl (n' := 0) rfl (by decide) (by decide) rfl ?_
  intro r21 h22 Q22 O22
  obtain ⟨c23, rfl, rc23, e24⟩ := Q22
  obtain rfl := e24.symm
  refine Ww.istore (pc' := 26) C at_24 (Ls' := #[.val (.int p0), .val (.int p1), .val (.int p2), .val (.int p3), .val (.int p4), .val (.int v12), .val (.int c15), .val (.int c19), .val (.int c23), .unset, .unset, .unset, .unset, .unset, .unset, .unset, .unset]) rfl rfl ?_
  refine Ww.iload (pc' := 28) C at_26 rfl rfl ?_
  refine Ww.callS (pc' := 31) C at_28 (fun vm0 C => (Wk.Con.pays C (Wn := 0) (own_draw l hw O0 p4) (w3 hw) (w2 hw) (by decide) (by decide))) Wk.cleanC (fun v h' q => by obtain ⟨_, -, -, e⟩ := q; exact Or.inl e) (w0 hw) (w1 hw) (w2 hw) (w3 hw) (by decide) (argsL := [(.int p4)]) (st := []) rfl rfl (lenOf pd10 rfl) rfl (Nat.le_of_eq rfl) (k' := 0) rfl (n' := 0) rfl (by decide) (by decide) rfl ?_
  intro r25 h26 Q26 O26
  obtain ⟨c27, rfl, rc27, e28⟩ := Q26
  obtain rfl := e28.symm
  refine Ww.istore (pc' := 33) C at_31 (Ls' := #[.val (.int p0), .val (.int p1), .val (.int p2), .val (.int p3), .val (.int p4), .val (.int v12), .val (.int c15), .val (.int c19), .val (.int c23), .val (.int c27), .unset, .unset, .unset, .unset, .unset, .unset, .unset]) rfl rfl ?_
  refine Ww.iconst (pc' := 34) C at_33 (v := (4 : Int32)) rfl rfl ?_
  refine Ww.newA (pc' := 36) C at_34 (ty := .char) rfl (w4 hw) (by decide) (cap := 4) (by decide) (by decide) (k' := 1) rfl (n' := 4) rfl (by decide) (by decide) rfl rfl ?_
  intro a29 h30 ga29 za29 E30 Va29 O30
  have V31 : Wk.Ary Z h30 a29 .char [(.int (0 : Int32)), (.int (0 : Int32)), (.int (0 : Int32)), (.int (0 : Int32))] := Va29
  refine Ww.dup (pc' := 37) C at_36 rfl rfl ?_
  refine Ww.iconst (pc' := 38) C at_37 (v := (0 : Int32)) rfl rfl ?_
  refine Ww.iload (pc' := 40) C at_38 rfl rfl ?_
  refine Ww.castore (pc' := 41) C at_40 V31 (by decide) (show _ < _ from Nat.le_of_ble_eq_true rfl) (Wk.nar_rng rc15) (vs' := [(.int c15), (.int (0 : Int32)), (.int (0 : Int32)), (.int (0 : Int32))]) rfl za29 (List.mem_of_getElem? (i := 0) rfl) rfl ?_
  intro h32 W32 V32 O32
  refine Ww.dup (pc' := 42) C at_41 rfl rfl ?_
  refine Ww.iconst (pc' := 43) C at_42 (v := (1 : Int32)) rfl rfl ?_
  refine Ww.iload (pc' := 45) C at_43 rfl rfl ?_
  refine Ww.castore (pc' := 46) C at_45 V32 (by decide) (show _ < _ from Nat.le_of_ble_eq_true rfl) (Wk.nar_rng rc19) (vs' := [(.int c15), (.int c19), (.int (0 : Int32)), (.int (0 : Int32))]) rfl za29 (List.mem_of_getElem? (i := 0) rfl) rfl ?_
  intro h33 W33 V33 O33
  refine Ww.dup (pc' := 47) C at_46 rfl rfl ?_
  refine Ww.iconst (pc' := 48) C at_47 (v := (2 : Int32)) rfl rfl ?_
  refine Ww.iload (pc' := 50) C at_48 rfl rfl ?_
  refine Ww.castore (pc' := 51) C at_50 V33 (by decide) (show _ < _ from Nat.le_of_ble_eq_true rfl) (Wk.nar_rng rc23) (vs' := [(.int c15), (.int c19), (.int c23), (.int (0 : Int32))]) rfl za29 (List.mem_of_getElem? (i := 0) rfl) rfl ?_
  intro h34 W34 V34 O34
  refine Ww.dup (pc' := 52) C at_51 rfl rfl ?_
  refine Ww.iconst (pc' := 53) C at_52 (v := (3 : Int32)) rfl rfl ?_
  refine Ww.iload (pc' := 55) C at_53 rfl rfl ?_
  refine Ww.castore (pc' := 56) C at_55 V34 (by decide) (show _ < _ from Nat.le_of_ble_eq_true rfl) (Wk.nar_rng rc27) (vs' := [(.int c15), (.int c19), (.int c23), (.int c27)]) rfl za29 (List.mem_of_getElem? (i := 0) rfl) rfl ?_
  intro h35 W35 V35 O35
  refine Ww.astore (pc' := 58) C at_56 rfl (Ls' := #[.val (.int p0), .val (.int p1), .val (.int p2), .val (.int p3), .val (.int p4), .val (.int v12), .val (.int c15), .val (.int c19), .val (.int c23), .val (.int c27), .val (.ref a29), .unset, .unset, .unset, .unset, .unset, .unset]) rfl rfl ?_
  have m0 : 0 ≤ v11.toInt := by
    rw [← hv11, c_mask p0 7 3 (by decide) (by decide)]
    omega
  have t0 : 0 ≤ v12.toInt ∧ v12.toInt < 5 := by
    have a := Wk.modr m0 (by decide) hv12
    have c5 : (5 : Int32).toInt = 5 := by decide
    omega
  have hl5 : v12 = 0 ∨ v12 = 1 ∨ v12 = 2 ∨ v12 = 3 ∨ v12 = 4 := by
    have c0 : (0 : Int32).toInt = 0 := by decide
    have c1 : (1 : Int32).toInt = 1 := by decide
    have c2 : (2 : Int32).toInt = 2 := by decide
    have c3 : (3 : Int32).toInt = 3 := by decide
    have c4 : (4 : Int32).toInt = 4 := by decide
    have a : v12.toInt = 0 ∨ v12.toInt = 1 ∨ v12.toInt = 2 ∨ v12.toInt = 3 ∨ v12.toInt = 4 := by omega
    rcases a with a | a | a | a | a
    · exact Or.inl (Wk.eqI (a.trans c0.symm))
    · exact Or.inr (Or.inl (Wk.eqI (a.trans c1.symm)))
    · exact Or.inr (Or.inr (Or.inl (Wk.eqI (a.trans c2.symm))))
    · exact Or.inr (Or.inr (Or.inr (Or.inl (Wk.eqI (a.trans c3.symm)))))
    · exact Or.inr (Or.inr (Or.inr (Or.inr ((Wk.eqI (a.trans c4.symm))))))
  rcases hl5 with hl5 | hl5 | hl5 | hl5 | hl5
  · -- the length is 0
    subst hl5
    refine Ww.iload (pc' := 60) C at_58 rfl rfl ?_
    refine Ww.newA (pc' := 62) C at_60 (ty := .char) rfl (w4 hw) (by decide) (cap := 0) (by decide) (by decide) (k' := 2) rfl (n' := 4) rfl (by decide) (by decide) rfl rfl ?_
    intro a36 h37 ga36 za36 E37 Va36 O37
    have V38 : Wk.Ary Z h37 a36 .char [] := Va36
    refine Ww.astore (pc' := 64) C at_62 rfl (Ls' := #[.val (.int p0), .val (.int p1), .val (.int p2), .val (.int p3), .val (.int p4), .val (.int (0 : Int32)), .val (.int c15), .val (.int c19), .val (.int c23), .val (.int c27), .val (.ref a29), .val (.ref a36), .unset, .unset, .unset, .unset, .unset]) rfl rfl ?_
    refine Ww.iload (pc' := 66) C at_64 rfl rfl ?_
    refine Ww.if_le C at_66 (by decide) (pcT := 75) (by decide) (pc' := 69) rfl (fun q39 => ?_) (fun q => absurd q (by decide))
    refine Ww.iload (pc' := 77) C at_75 rfl rfl ?_
    refine Ww.iconst (pc' := 78) C at_77 (v := (1 : Int32)) rfl rfl ?_
    refine Ww.icmp_le C at_78 (by decide) (pcT := 87) (by decide) (pc' := 81) rfl (fun q40 => ?_) (fun q => absurd q (by decide))
    refine Ww.iload (pc' := 89) C at_87 rfl rfl ?_
    refine Ww.iconst (pc' := 90) C at_89 (v := (2 : Int32)) rfl rfl ?_
    refine Ww.icmp_le C at_90 (by decide) (pcT := 99) (by decide) (pc' := 93) rfl (fun q41 => ?_) (fun q => absurd q (by decide))
    refine Ww.iload (pc' := 101) C at_99 rfl rfl ?_
    refine Ww.iconst (pc' := 102) C at_101 (v := (3 : Int32)) rfl rfl ?_
    refine Ww.icmp_le C at_102 (by decide) (pcT := 111) (by decide) (pc' := 105) rfl (fun q42 => ?_) (fun q => absurd q (by decide))
    refine Ww.iload (pc' := 113) C at_111 rfl rfl ?_
    refine Ww.istore (pc' := 115) C at_113 (Ls' := #[.val (.int p0), .val (.int p1), .val (.int p2), .val (.int p3), .val (.int p4), .val (.int (0 : Int32)), .val (.int c15), .val (.int c19), .val (.int c23), .val (.int c27), .val (.ref a29), .val (.ref a36), .val (.int (0 : Int32)), .unset, .unset, .unset, .unset]) rfl rfl ?_
    refine Ww.iload (pc' := 117) C at_115 rfl rfl ?_
    refine Ww.iconst (pc' := 118) C at_117 (v := (3 : Int32)) rfl rfl ?_
    refine Ww.icmp_le C at_118 (by decide) (pcT := 132) (by decide) (pc' := 121) rfl (fun q43 => ?_) (fun q => absurd q (by decide))
    refine Ww.iload (pc' := 134) C at_132 rfl rfl ?_
    refine Ww.iconst (pc' := 135) C at_134 (v := (2 : Int32)) rfl rfl ?_
    refine Ww.icmp_le C at_135 (by decide) (pcT := 149) (by decide) (pc' := 138) rfl (fun q44 => ?_) (fun q => absurd q (by decide))
    refine Ww.iload (pc' := 151) C at_149 rfl rfl ?_
    refine Ww.iconst (pc' := 152) C at_151 (v := (1 : Int32)) rfl rfl ?_
    refine Ww.icmp_le C at_152 (by decide) (pcT := 166) (by decide) (pc' := 155) rfl (fun q45 => ?_) (fun q => absurd q (by decide))
    refine Ww.iload (pc' := 168) C at_166 rfl rfl ?_
    refine Ww.if_le C at_168 (by decide) (pcT := 182) (by decide) (pc' := 171) rfl (fun q46 => ?_) (fun q => absurd q (by decide))
    refine Ww.iload (pc' := 184) C at_182 rfl rfl ?_
    refine Ww.istore (pc' := 186) C at_184 (Ls' := #[.val (.int p0), .val (.int p1), .val (.int p2), .val (.int p3), .val (.int p4), .val (.int (0 : Int32)), .val (.int c15), .val (.int c19), .val (.int c23), .val (.int c27), .val (.ref a29), .val (.ref a36), .val (.int (0 : Int32)), .val (.int (0 : Int32)), .unset, .unset, .unset]) rfl rfl ?_
    refine Ww.iload (pc' := 188) C at_186 rfl rfl ?_
    refine Ww.if_le C at_188 (by decide) (pcT := 202) (by decide) (pc' := 191) rfl (fun q47 => ?_) (fun q => absurd q (by decide))
    refine Ww.iload (pc' := 204) C at_202 rfl rfl ?_
    refine Ww.iconst (pc' := 205) C at_204 (v := (1 : Int32)) rfl rfl ?_
    refine Ww.icmp_le C at_205 (by decide) (pcT := 219) (by decide) (pc' := 208) rfl (fun q48 => ?_) (fun q => absurd q (by decide))
    refine Ww.iload (pc' := 221) C at_219 rfl rfl ?_
    refine Ww.iconst (pc' := 222) C at_221 (v := (2 : Int32)) rfl rfl ?_
    refine Ww.icmp_le C at_222 (by decide) (pcT := 236) (by decide) (pc' := 225) rfl (fun q49 => ?_) (fun q => absurd q (by decide))
    refine Ww.iload (pc' := 238) C at_236 rfl rfl ?_
    refine Ww.iconst (pc' := 239) C at_238 (v := (3 : Int32)) rfl rfl ?_
    refine Ww.icmp_le C at_239 (by decide) (pcT := 253) (by decide) (pc' := 242) rfl (fun q50 => ?_) (fun q => absurd q (by decide))
    refine Ww.iload (pc' := 255) C at_253 rfl rfl ?_
    refine Ww.iload (pc' := 257) C at_255 rfl rfl ?_
    refine Ww.isub (pc' := 258) C at_257 (v := (0 : Int32)) (by decide) rfl ?_
    refine Ww.istore (pc' := 260) C at_258 (Ls' := #[.val (.int p0), .val (.int p1), .val (.int p2), .val (.int p3), .val (.int p4), .val (.int (0 : Int32)), .val (.int c15), .val (.int c19), .val (.int c23), .val (.int c27), .val (.ref a29), .val (.ref a36), .val (.int (0 : Int32)), .val (.int (0 : Int32)), .val (.int (0 : Int32)), .unset, .unset]) rfl rfl ?_
    refine Ww.newO (pc' := 263) C at_260 (w5 hw) (w6 hw) (w7 hw) (k' := 3) rfl (n' := 8) rfl (by decide) (by decide) rfl ?_
    intro a51 h52 ga51 za51 E52 Aa51 Da51 Ua51 O52
    have F53 : Fld Z h52 a51 "java/lang/String" "value" "[B" .null := Da51 (Or.inr (w20 hw)) (ty := (.array .byte)) (by decide)
    have F54 : Fld Z h52 a51 "java/lang/String" "coder" "B" (.int (0 : Int32)) := Da51 (Or.inr (w21 hw)) (ty := .byte) (by decide)
    refine Ww.dup (pc' := 264) C at_263 rfl rfl ?_
    refine Ww.aload (pc' := 266) C at_264 rfl rfl rfl ?_
    refine Ww.callIS (pc' := 269) C at_266 (a := a51) (Ww.Con.pays hE (Wn := 1) (own_newE l hw hE O52 a51 a36 za51 Aa51 F53 F54 (V38.ext E52)) (w10 hw) (w7 hw) (by decide) (by decide)) Wk.cleanC rfl (w8 hw) (w9 hw) (w10 hw) (by decide) (argsL := [(.ref a36)]) (st := [(.ref a51)]) rfl rfl (lenOf pd12 rfl) rfl (Nat.le_of_eq rfl) (k' := 7) rfl (n' := 16) rfl (by decide) (by decide) rfl ?_
    intro r55 h56 Q56 O56
    obtain ⟨rfl, Kh56, Sh56⟩ := Q56
    refine Ww.callSS (pc' := 272) C at_269 (Ww.Con.pays hE (Wn := 0) (own_wos l hw hE O56 hs a51 ([] : List Int32) Sh56 (show _ ≤ 4 from Nat.le_of_ble_eq_true rfl)) (w29 hw) (w28 hw) (by decide) (by decide)) Wk.cleanC (w26 hw) (w27 hw) (w28 hw) (w29 hw) (by decide) (argsL := [(.ref a51)]) (st := []) rfl rfl (lenOf pd13 rfl) rfl (Nat.le_of_eq rfl) (k' := 11) rfl (n' := 28) rfl (by decide) (by decide) rfl ?_
    intro r57 h58 Q58 O58
    obtain ⟨x59, rfl, E58, S58⟩ := Q58
    refine Ww.astore (pc' := 274) C at_272 rfl (Ls' := #[.val (.int p0), .val (.int p1), .val (.int p2), .val (.int p3), .val (.int p4), .val (.int (0 : Int32)), .val (.int c15), .val (.int c19), .val (.int c23), .val (.int c27), .val (.ref a29), .val (.ref a36), .val (.int (0 : Int32)), .val (.int (0 : Int32)), .val (.int (0 : Int32)), .val (.ref x59), .unset]) rfl rfl ?_
    have hT : trim [] = [] := by simp [trim, lead, endAt]
    have G15 : Str Z h58 x59 [] := hT ▸ S58
    refine Ww.aload (pc' := 276) C at_274 rfl rfl rfl ?_
    refine Ww.callV (pc' := 279) C at_276 (a := x59) (fun vm0 C => (strLen C hw hs O58 (Wn := 0) G15 (by decide) (by decide))) (pureC (P := fun v => v = some (.int (Int32.ofNat ([] : List Int32).length))) O58) (fun v h' q => Or.inl q.2) S58.exa (w55 hw) (w31 hw) (fun vm0 hZ0 => notFace_of_selects (args := #[]) (mvT (s := W.s.setVm vm0) hZ0 (w33 hw))) (w33 hw) (w32 hw) (by decide) (argsL := []) (st := []) rfl rfl (lenOf pd5 rfl) rfl (Nat.le_of_eq rfl) (k' := 11) rfl (n' := 28) rfl (by decide) (by decide) rfl ?_
    intro r60 h61 Q61 O61
    obtain ⟨rfl, e62⟩ := Q61
    obtain rfl := e62.symm
    refine Ww.iload (pc' := 281) C at_279 rfl rfl ?_
    refine Ww.icmp_ne C at_281 (by decide) (pcT := 288) (by decide) (pc' := 284) rfl (fun q => absurd rfl q) (fun q63 => ?_)
    refine Ww.iconst (pc' := 285) C at_284 (v := (1 : Int32)) rfl rfl ?_
    refine Ww.goto C at_285 (by decide) (pc' := 289) (by decide) ?_
    refine Ww.istore (pc' := 291) C at_289 (Ls' := #[.val (.int p0), .val (.int p1), .val (.int p2), .val (.int p3), .val (.int p4), .val (.int (0 : Int32)), .val (.int c15), .val (.int c19), .val (.int c23), .val (.int c27), .val (.ref a29), .val (.ref a36), .val (.int (0 : Int32)), .val (.int (0 : Int32)), .val (.int (0 : Int32)), .val (.ref x59), .val (.int (1 : Int32))]) rfl rfl ?_
    refine Ww.iload (pc' := 293) C at_291 rfl rfl ?_
    refine Ww.if_eq C at_293 (by decide) (pcT := 322) (by decide) (pc' := 296) rfl (fun q => absurd q (by decide)) (fun q64 => ?_)
    refine Ww.iload (pc' := 298) C at_296 rfl rfl ?_
    refine Ww.if_le C at_298 (by decide) (pcT := 322) (by decide) (pc' := 301) rfl (fun q65 => ?_) (fun q => absurd q (by decide))
    refine Ww.iload (pc' := 324) C at_322 rfl rfl ?_
    refine Ww.if_eq C at_324 (by decide) (pcT := 356) (by decide) (pc' := 327) rfl (fun q => absurd q (by decide)) (fun q66 => ?_)
    refine Ww.iload (pc' := 329) C at_327 rfl rfl ?_
    refine Ww.iconst (pc' := 330) C at_329 (v := (1 : Int32)) rfl rfl ?_
    refine Ww.icmp_le C at_330 (by decide) (pcT := 356) (by decide) (pc' := 333) rfl (fun q67 => ?_) (fun q => absurd q (by decide))
    refine Ww.iload (pc' := 358) C at_356 rfl rfl ?_
    refine Ww.if_eq C at_358 (by decide) (pcT := 390) (by decide) (pc' := 361) rfl (fun q => absurd q (by decide)) (fun q68 => ?_)
    refine Ww.iload (pc' := 363) C at_361 rfl rfl ?_
    refine Ww.iconst (pc' := 364) C at_363 (v := (2 : Int32)) rfl rfl ?_
    refine Ww.icmp_le C at_364 (by decide) (pcT := 390) (by decide) (pc' := 367) rfl (fun q69 => ?_) (fun q => absurd q (by decide))
    refine Ww.iload (pc' := 392) C at_390 rfl rfl ?_
    refine Ww.if_eq C at_392 (by decide) (pcT := 424) (by decide) (pc' := 395) rfl (fun q => absurd q (by decide)) (fun q70 => ?_)
    refine Ww.iload (pc' := 397) C at_395 rfl rfl ?_
    refine Ww.iconst (pc' := 398) C at_397 (v := (3 : Int32)) rfl rfl ?_
    refine Ww.icmp_le C at_398 (by decide) (pcT := 424) (by decide) (pc' := 401) rfl (fun q71 => ?_) (fun q => absurd q (by decide))
    refine Ww.iload (pc' := 426) C at_424 rfl rfl ?_
    exact Ww.retNar (ty := .boolean) C hE (by simp) at_426 rfl (by decide) (by decide) rfl
  · -- the length is 1
    subst hl5
    refine Ww.iload (pc' := 60) C at_58 rfl rfl ?_
    refine Ww.newA (pc' := 62) C at_60 (ty := .char) rfl (w4 hw) (by decide) (cap := 1) (by decide) (by decide) (k' := 2) rfl (n' := 5) rfl (by decide) (by decide) rfl rfl ?_
    intro a72 h73 ga72 za72 E73 Va72 O73
    have V74 : Wk.Ary Z h73 a72 .char [(.int (0 : Int32))] := Va72
    refine Ww.astore (pc' := 64) C at_62 rfl (Ls' := #[.val (.int p0), .val (.int p1), .val (.int p2), .val (.int p3), .val (.int p4), .val (.int (1 : Int32)), .val (.int c15), .val (.int c19), .val (.int c23), .val (.int c27), .val (.ref a29), .val (.ref a72), .unset, .unset, .unset, .unset, .unset]) rfl rfl ?_
    refine Ww.iload (pc' := 66) C at_64 rfl rfl ?_
    refine Ww.if_le C at_66 (by decide) (pcT := 75) (by decide) (pc' := 69) rfl (fun q => absurd q (by decide)) (fun q75 => ?_)
    refine Ww.aload (pc' := 71) C at_69 rfl rfl rfl ?_
    refine Ww.iconst (pc' := 72) C at_71 (v := (0 : Int32)) rfl rfl ?_
    refine Ww.iload (pc' := 74) C at_72 rfl rfl ?_
    refine Ww.castore (pc' := 75) C at_74 V74 (by decide) (show _ < _ from Nat.le_of_ble_eq_true rfl) (Wk.nar_rng rc15) (vs' := [(.int c15)]) rfl za72 (List.mem_of_getElem? (i := 0) rfl) rfl ?_
    intro h76 W76 V76 O76
    refine Ww.iload (pc' := 77) C at_75 rfl rfl ?_
    refine Ww.iconst (pc' := 78) C at_77 (v := (1 : Int32)) rfl rfl ?_
    refine Ww.icmp_le C at_78 (by decide) (pcT := 87) (by decide) (pc' := 81) rfl (fun q77 => ?_) (fun q => absurd q (by decide))
    refine Ww.iload (pc' := 89) C at_87 rfl rfl ?_
    refine Ww.iconst (pc' := 90) C at_89 (v := (2 : Int32)) rfl rfl ?_
    refine Ww.icmp_le C at_90 (by decide) (pcT := 99) (by decide) (pc' := 93) rfl (fun q78 => ?_) (fun q => absurd q (by decide))
    refine Ww.iload (pc' := 101) C at_99 rfl rfl ?_
    refine Ww.iconst (pc' := 102) C at_101 (v := (3 : Int32)) rfl rfl ?_
    refine Ww.icmp_le C at_102 (by decide) (pcT := 111) (by decide) (pc' := 105) rfl (fun q79 => ?_) (fun q => absurd q (by decide))
    refine Ww.iload (pc' := 113) C at_111 rfl rfl ?_
    refine Ww.istore (pc' := 115) C at_113 (Ls' := #[.val (.int p0), .val (.int p1), .val (.int p2), .val (.int p3), .val (.int p4), .val (.int (1 : Int32)), .val (.int c15), .val (.int c19), .val (.int c23), .val (.int c27), .val (.ref a29), .val (.ref a72), .val (.int (1 : Int32)), .unset, .unset, .unset, .unset]) rfl rfl ?_
    refine Ww.iload (pc' := 117) C at_115 rfl rfl ?_
    refine Ww.iconst (pc' := 118) C at_117 (v := (3 : Int32)) rfl rfl ?_
    refine Ww.icmp_le C at_118 (by decide) (pcT := 132) (by decide) (pc' := 121) rfl (fun q80 => ?_) (fun q => absurd q (by decide))
    refine Ww.iload (pc' := 134) C at_132 rfl rfl ?_
    refine Ww.iconst (pc' := 135) C at_134 (v := (2 : Int32)) rfl rfl ?_
    refine Ww.icmp_le C at_135 (by decide) (pcT := 149) (by decide) (pc' := 138) rfl (fun q81 => ?_) (fun q => absurd q (by decide))
    refine Ww.iload (pc' := 151) C at_149 rfl rfl ?_
    refine Ww.iconst (pc' := 152) C at_151 (v := (1 : Int32)) rfl rfl ?_
    refine Ww.icmp_le C at_152 (by decide) (pcT := 166) (by decide) (pc' := 155) rfl (fun q82 => ?_) (fun q => absurd q (by decide))
    refine Ww.iload (pc' := 168) C at_166 rfl rfl ?_
    refine Ww.if_le C at_168 (by decide) (pcT := 182) (by decide) (pc' := 171) rfl (fun q => absurd q (by decide)) (fun q83 => ?_)
    refine Ww.iload (pc' := 173) C at_171 rfl rfl ?_
    refine Ww.callS (pc' := 176) C at_173 (fun vm0 C => (Wk.Con.pays C (Wn := 0) (own_sp l hw O76 c15) (w58 hw) (w2 hw) (by decide) (by decide))) Wk.cleanC (fun v h' q => Or.inl q.2) (w56 hw) (w57 hw) (w2 hw) (w58 hw) (by decide) (argsL := [(.int c15)]) (st := []) rfl rfl (lenOf pd14 rfl) rfl (Nat.le_of_eq rfl) (k' := 2) rfl (n' := 5) rfl (by decide) (by decide) rfl ?_
    intro r84 h85 Q85 O85
    obtain ⟨q87, e86⟩ := Q85
    obtain rfl := e86.symm
    rcases q87 with ⟨rfl, q87⟩ | ⟨rfl, q87⟩
    · -- space: True
      refine Ww.if_ne C at_176 (by decide) (pcT := 182) (by decide) (pc' := 179) rfl (fun q88 => ?_) (fun q => absurd q (by decide))
      refine Ww.iload (pc' := 184) C at_182 rfl rfl ?_
      refine Ww.istore (pc' := 186) C at_184 (Ls' := #[.val (.int p0), .val (.int p1), .val (.int p2), .val (.int p3), .val (.int p4), .val (.int (1 : Int32)), .val (.int c15), .val (.int c19), .val (.int c23), .val (.int c27), .val (.ref a29), .val (.ref a72), .val (.int (1 : Int32)), .val (.int (1 : Int32)), .unset, .unset, .unset]) rfl rfl ?_
      refine Ww.iload (pc' := 188) C at_186 rfl rfl ?_
      refine Ww.if_le C at_188 (by decide) (pcT := 202) (by decide) (pc' := 191) rfl (fun q => absurd q (by decide)) (fun q89 => ?_)
      refine Ww.iload (pc' := 193) C at_191 rfl rfl ?_
      refine Ww.callS (pc' := 196) C at_193 (fun vm0 C => (Wk.Con.pays C (Wn := 0) (own_sp l hw O76 c15) (w58 hw) (w2 hw) (by decide) (by decide))) Wk.cleanC (fun v h' q => Or.inl q.2) (w56 hw) (w57 hw) (w2 hw) (w58 hw) (by decide) (argsL := [(.int c15)]) (st := []) rfl rfl (lenOf pd14 rfl) rfl (Nat.le_of_eq rfl) (k' := 2) rfl (n' := 5) rfl (by decide) (by decide) rfl ?_
      intro r90 h91 Q91 O91
      obtain ⟨q93, e92⟩ := Q91
      obtain rfl := e92.symm
      rcases q93 with ⟨rfl, q93⟩ | ⟨rfl, q93⟩
      · -- space: True
        refine Ww.if_ne C at_196 (by decide) (pcT := 202) (by decide) (pc' := 199) rfl (fun q94 => ?_) (fun q => absurd q (by decide))
        refine Ww.iload (pc' := 204) C at_202 rfl rfl ?_
        refine Ww.iconst (pc' := 205) C at_204 (v := (1 : Int32)) rfl rfl ?_
        refine Ww.icmp_le C at_205 (by decide) (pcT := 219) (by decide) (pc' := 208) rfl (fun q95 => ?_) (fun q => absurd q (by decide))
        refine Ww.iload (pc' := 221) C at_219 rfl rfl ?_
        refine Ww.iconst (pc' := 222) C at_221 (v := (2 : Int32)) rfl rfl ?_
        refine Ww.icmp_le C at_222 (by decide) (pcT := 236) (by decide) (pc' := 225) rfl (fun q96 => ?_) (fun q => absurd q (by decide))
        refine Ww.iload (pc' := 238) C at_236 rfl rfl ?_
        refine Ww.iconst (pc' := 239) C at_238 (v := (3 : Int32)) rfl rfl ?_
        refine Ww.icmp_le C at_239 (by decide) (pcT := 253) (by decide) (pc' := 242) rfl (fun q97 => ?_) (fun q => absurd q (by decide))
        refine Ww.iload (pc' := 255) C at_253 rfl rfl ?_
        refine Ww.iload (pc' := 257) C at_255 rfl rfl ?_
        refine Ww.isub (pc' := 258) C at_257 (v := (0 : Int32)) (by decide) rfl ?_
        refine Ww.istore (pc' := 260) C at_258 (Ls' := #[.val (.int p0), .val (.int p1), .val (.int p2), .val (.int p3), .val (.int p4), .val (.int (1 : Int32)), .val (.int c15), .val (.int c19), .val (.int c23), .val (.int c27), .val (.ref a29), .val (.ref a72), .val (.int (1 : Int32)), .val (.int (1 : Int32)), .val (.int (0 : Int32)), .unset, .unset]) rfl rfl ?_
        refine Ww.newO (pc' := 263) C at_260 (w5 hw) (w6 hw) (w7 hw) (k' := 3) rfl (n' := 9) rfl (by decide) (by decide) rfl ?_
        intro a98 h99 ga98 za98 E99 Aa98 Da98 Ua98 O99
        have F100 : Fld Z h99 a98 "java/lang/String" "value" "[B" .null := Da98 (Or.inr (w20 hw)) (ty := (.array .byte)) (by decide)
        have F101 : Fld Z h99 a98 "java/lang/String" "coder" "B" (.int (0 : Int32)) := Da98 (Or.inr (w21 hw)) (ty := .byte) (by decide)
        refine Ww.dup (pc' := 264) C at_263 rfl rfl ?_
        refine Ww.aload (pc' := 266) C at_264 rfl rfl rfl ?_
        have hp102 : ∀ c ∈ ([c15] : List Int32), ¬ c < 0 ∧ ¬ (255 : Int32) < c := (List.forall_mem_cons.mpr ⟨rc15, (fun _ h => nomatch h)⟩)
        refine Ww.callI (pc' := 269) C at_266 (a := a98) (fun vm0 C => (strNew C hw hs O99 (cs := [c15]) (n := 1) (Wn := 1) za98 Aa98 F100 F101 (V76.ext E99) rfl (by decide) (by decide) hp102 (by decide) (by decide))) (strNewC (n := 1) O99 za98 rfl (by decide) hp102) (fun v h' q => Or.inr (Or.inr ⟨a98, (List.mem_of_getElem? (i := 0) rfl), q.2.1⟩)) rfl (w8 hw) (w9 hw) (w10 hw) (by decide) (argsL := [(.ref a72)]) (st := [(.ref a98)]) rfl rfl (lenOf pd12 rfl) rfl (Nat.le_of_eq rfl) (k' := 4) rfl (n' := 10) rfl (by decide) (by decide) rfl ?_
        intro r103 h104 Q104 O104
        obtain ⟨rfl, Kh104, Sh104⟩ := Q104
        refine Ww.callSS (pc' := 272) C at_269 (Ww.Con.pays hE (Wn := 0) (own_wos l hw hE O104 hs a98 [c15] Sh104 (show _ ≤ 4 from Nat.le_of_ble_eq_true rfl)) (w29 hw) (w28 hw) (by decide) (by decide)) Wk.cleanC (w26 hw) (w27 hw) (w28 hw) (w29 hw) (by decide) (argsL := [(.ref a98)]) (st := []) rfl rfl (lenOf pd13 rfl) rfl (Nat.le_of_eq rfl) (k' := 8) rfl (n' := 22) rfl (by decide) (by decide) rfl ?_
        intro r105 h106 Q106 O106
        obtain ⟨x107, rfl, E106, S106⟩ := Q106
        refine Ww.astore (pc' := 274) C at_272 rfl (Ls' := #[.val (.int p0), .val (.int p1), .val (.int p2), .val (.int p3), .val (.int p4), .val (.int (1 : Int32)), .val (.int c15), .val (.int c19), .val (.int c23), .val (.int c27), .val (.ref a29), .val (.ref a72), .val (.int (1 : Int32)), .val (.int (1 : Int32)), .val (.int (0 : Int32)), .val (.ref x107), .unset]) rfl rfl ?_
        have hT : trim [c15] = [] := by simp [trim, lead, endAt, q87]
        have G15 : Str Z h106 x107 [] := hT ▸ S106
        refine Ww.aload (pc' := 276) C at_274 rfl rfl rfl ?_
        refine Ww.callV (pc' := 279) C at_276 (a := x107) (fun vm0 C => (strLen C hw hs O106 (Wn := 0) G15 (by decide) (by decide))) (pureC (P := fun v => v = some (.int (Int32.ofNat ([] : List Int32).length))) O106) (fun v h' q => Or.inl q.2) S106.exa (w55 hw) (w31 hw) (fun vm0 hZ0 => notFace_of_selects (args := #[]) (mvT (s := W.s.setVm vm0) hZ0 (w33 hw))) (w33 hw) (w32 hw) (by decide) (argsL := []) (st := []) rfl rfl (lenOf pd5 rfl) rfl (Nat.le_of_eq rfl) (k' := 8) rfl (n' := 22) rfl (by decide) (by decide) rfl ?_
        intro r108 h109 Q109 O109
        obtain ⟨rfl, e110⟩ := Q109
        obtain rfl := e110.symm
        refine Ww.iload (pc' := 281) C at_279 rfl rfl ?_
        refine Ww.icmp_ne C at_281 (by decide) (pcT := 288) (by decide) (pc' := 284) rfl (fun q => absurd rfl q) (fun q111 => ?_)
        refine Ww.iconst (pc' := 285) C at_284 (v := (1 : Int32)) rfl rfl ?_
        refine Ww.goto C at_285 (by decide) (pc' := 289) (by decide) ?_
        refine Ww.istore (pc' := 291) C at_289 (Ls' := #[.val (.int p0), .val (.int p1), .val (.int p2), .val (.int p3), .val (.int p4), .val (.int (1 : Int32)), .val (.int c15), .val (.int c19), .val (.int c23), .val (.int c27), .val (.ref a29), .val (.ref a72), .val (.int (1 : Int32)), .val (.int (1 : Int32)), .val (.int (0 : Int32)), .val (.ref x107), .val (.int (1 : Int32))]) rfl rfl ?_
        refine Ww.iload (pc' := 293) C at_291 rfl rfl ?_
        refine Ww.if_eq C at_293 (by decide) (pcT := 322) (by decide) (pc' := 296) rfl (fun q => absurd q (by decide)) (fun q112 => ?_)
        refine Ww.iload (pc' := 298) C at_296 rfl rfl ?_
        refine Ww.if_le C at_298 (by decide) (pcT := 322) (by decide) (pc' := 301) rfl (fun q113 => ?_) (fun q => absurd q (by decide))
        refine Ww.iload (pc' := 324) C at_322 rfl rfl ?_
        refine Ww.if_eq C at_324 (by decide) (pcT := 356) (by decide) (pc' := 327) rfl (fun q => absurd q (by decide)) (fun q114 => ?_)
        refine Ww.iload (pc' := 329) C at_327 rfl rfl ?_
        refine Ww.iconst (pc' := 330) C at_329 (v := (1 : Int32)) rfl rfl ?_
        refine Ww.icmp_le C at_330 (by decide) (pcT := 356) (by decide) (pc' := 333) rfl (fun q115 => ?_) (fun q => absurd q (by decide))
        refine Ww.iload (pc' := 358) C at_356 rfl rfl ?_
        refine Ww.if_eq C at_358 (by decide) (pcT := 390) (by decide) (pc' := 361) rfl (fun q => absurd q (by decide)) (fun q116 => ?_)
        refine Ww.iload (pc' := 363) C at_361 rfl rfl ?_
        refine Ww.iconst (pc' := 364) C at_363 (v := (2 : Int32)) rfl rfl ?_
        refine Ww.icmp_le C at_364 (by decide) (pcT := 390) (by decide) (pc' := 367) rfl (fun q117 => ?_) (fun q => absurd q (by decide))
        refine Ww.iload (pc' := 392) C at_390 rfl rfl ?_
        refine Ww.if_eq C at_392 (by decide) (pcT := 424) (by decide) (pc' := 395) rfl (fun q => absurd q (by decide)) (fun q118 => ?_)
        refine Ww.iload (pc' := 397) C at_395 rfl rfl ?_
        refine Ww.iconst (pc' := 398) C at_397 (v := (3 : Int32)) rfl rfl ?_
        refine Ww.icmp_le C at_398 (by decide) (pcT := 424) (by decide) (pc' := 401) rfl (fun q119 => ?_) (fun q => absurd q (by decide))
        refine Ww.iload (pc' := 426) C at_424 rfl rfl ?_
        exact Ww.retNar (ty := .boolean) C hE (by simp) at_426 rfl (by decide) (by decide) rfl
      · -- space: False
        exact absurd q87 q93
    · -- space: False
      refine Ww.if_ne C at_176 (by decide) (pcT := 182) (by decide) (pc' := 179) rfl (fun q => absurd q (by decide)) (fun q120 => ?_)
      refine Ww.iconst (pc' := 180) C at_179 (v := (0 : Int32)) rfl rfl ?_
      refine Ww.istore (pc' := 182) C at_180 (Ls' := #[.val (.int p0), .val (.int p1), .val (.int p2), .val (.int p3), .val (.int p4), .val (.int (1 : Int32)), .val (.int c15), .val (.int c19), .val (.int c23), .val (.int c27), .val (.ref a29), .val (.ref a72), .val (.int (0 : Int32)), .unset, .unset, .unset, .unset]) rfl rfl ?_
      refine Ww.iload (pc' := 184) C at_182 rfl rfl ?_
      refine Ww.istore (pc' := 186) C at_184 (Ls' := #[.val (.int p0), .val (.int p1), .val (.int p2), .val (.int p3), .val (.int p4), .val (.int (1 : Int32)), .val (.int c15), .val (.int c19), .val (.int c23), .val (.int c27), .val (.ref a29), .val (.ref a72), .val (.int (0 : Int32)), .val (.int (0 : Int32)), .unset, .unset, .unset]) rfl rfl ?_
      refine Ww.iload (pc' := 188) C at_186 rfl rfl ?_
      refine Ww.if_le C at_188 (by decide) (pcT := 202) (by decide) (pc' := 191) rfl (fun q => absurd q (by decide)) (fun q121 => ?_)
      refine Ww.iload (pc' := 193) C at_191 rfl rfl ?_
      refine Ww.callS (pc' := 196) C at_193 (fun vm0 C => (Wk.Con.pays C (Wn := 0) (own_sp l hw O76 c15) (w58 hw) (w2 hw) (by decide) (by decide))) Wk.cleanC (fun v h' q => Or.inl q.2) (w56 hw) (w57 hw) (w2 hw) (w58 hw) (by decide) (argsL := [(.int c15)]) (st := []) rfl rfl (lenOf pd14 rfl) rfl (Nat.le_of_eq rfl) (k' := 2) rfl (n' := 5) rfl (by decide) (by decide) rfl ?_
      intro r122 h123 Q123 O123
      obtain ⟨q125, e124⟩ := Q123
      obtain rfl := e124.symm
      rcases q125 with ⟨rfl, q125⟩ | ⟨rfl, q125⟩
      · -- space: True
        exact absurd q125 q87
      · -- space: False
        refine Ww.if_ne C at_196 (by decide) (pcT := 202) (by decide) (pc' := 199) rfl (fun q => absurd q (by decide)) (fun q126 => ?_)
        refine Ww.iconst (pc' := 200) C at_199 (v := (1 : Int32)) rfl rfl ?_
        refine Ww.istore (pc' := 202) C at_200 (Ls' := #[.val (.int p0), .val (.int p1), .val (.int p2), .val (.int p3), .val (.int p4), .val (.int (1 : Int32)), .val (.int c15), .val (.int c19), .val (.int c23), .val (.int c27), .val (.ref a29), .val (.ref a72), .val (.int (0 : Int32)), .val (.int (1 : Int32)), .unset, .unset, .unset]) rfl rfl ?_
        refine Ww.iload (pc' := 204) C at_202 rfl rfl ?_
        refine Ww.iconst (pc' := 205) C at_204 (v := (1 : Int32)) rfl rfl ?_
        refine Ww.icmp_le C at_205 (by decide) (pcT := 219) (by decide) (pc' := 208) rfl (fun q127 => ?_) (fun q => absurd q (by decide))
        refine Ww.iload (pc' := 221) C at_219 rfl rfl ?_
        refine Ww.iconst (pc' := 222) C at_221 (v := (2 : Int32)) rfl rfl ?_
        refine Ww.icmp_le C at_222 (by decide) (pcT := 236) (by decide) (pc' := 225) rfl (fun q128 => ?_) (fun q => absurd q (by decide))
        refine Ww.iload (pc' := 238) C at_236 rfl rfl ?_
        refine Ww.iconst (pc' := 239) C at_238 (v := (3 : Int32)) rfl rfl ?_
        refine Ww.icmp_le C at_239 (by decide) (pcT := 253) (by decide) (pc' := 242) rfl (fun q129 => ?_) (fun q => absurd q (by decide))
        refine Ww.iload (pc' := 255) C at_253 rfl rfl ?_
        refine Ww.iload (pc' := 257) C at_255 rfl rfl ?_
        refine Ww.isub (pc' := 258) C at_257 (v := (1 : Int32)) (by decide) rfl ?_
        refine Ww.istore (pc' := 260) C at_258 (Ls' := #[.val (.int p0), .val (.int p1), .val (.int p2), .val (.int p3), .val (.int p4), .val (.int (1 : Int32)), .val (.int c15), .val (.int c19), .val (.int c23), .val (.int c27), .val (.ref a29), .val (.ref a72), .val (.int (0 : Int32)), .val (.int (1 : Int32)), .val (.int (1 : Int32)), .unset, .unset]) rfl rfl ?_
        refine Ww.newO (pc' := 263) C at_260 (w5 hw) (w6 hw) (w7 hw) (k' := 3) rfl (n' := 9) rfl (by decide) (by decide) rfl ?_
        intro a130 h131 ga130 za130 E131 Aa130 Da130 Ua130 O131
        have F132 : Fld Z h131 a130 "java/lang/String" "value" "[B" .null := Da130 (Or.inr (w20 hw)) (ty := (.array .byte)) (by decide)
        have F133 : Fld Z h131 a130 "java/lang/String" "coder" "B" (.int (0 : Int32)) := Da130 (Or.inr (w21 hw)) (ty := .byte) (by decide)
        refine Ww.dup (pc' := 264) C at_263 rfl rfl ?_
        refine Ww.aload (pc' := 266) C at_264 rfl rfl rfl ?_
        have hp134 : ∀ c ∈ ([c15] : List Int32), ¬ c < 0 ∧ ¬ (255 : Int32) < c := (List.forall_mem_cons.mpr ⟨rc15, (fun _ h => nomatch h)⟩)
        refine Ww.callI (pc' := 269) C at_266 (a := a130) (fun vm0 C => (strNew C hw hs O131 (cs := [c15]) (n := 1) (Wn := 1) za130 Aa130 F132 F133 (V76.ext E131) rfl (by decide) (by decide) hp134 (by decide) (by decide))) (strNewC (n := 1) O131 za130 rfl (by decide) hp134) (fun v h' q => Or.inr (Or.inr ⟨a130, (List.mem_of_getElem? (i := 0) rfl), q.2.1⟩)) rfl (w8 hw) (w9 hw) (w10 hw) (by decide) (argsL := [(.ref a72)]) (st := [(.ref a130)]) rfl rfl (lenOf pd12 rfl) rfl (Nat.le_of_eq rfl) (k' := 4) rfl (n' := 10) rfl (by decide) (by decide) rfl ?_
        intro r135 h136 Q136 O136
        obtain ⟨rfl, Kh136, Sh136⟩ := Q136
        refine Ww.callSS (pc' := 272) C at_269 (Ww.Con.pays hE (Wn := 0) (own_wos l hw hE O136 hs a130 [c15] Sh136 (show _ ≤ 4 from Nat.le_of_ble_eq_true rfl)) (w29 hw) (w28 hw) (by decide) (by decide)) Wk.cleanC (w26 hw) (w27 hw) (w28 hw) (w29 hw) (by decide) (argsL := [(.ref a130)]) (st := []) rfl rfl (lenOf pd13 rfl) rfl (Nat.le_of_eq rfl) (k' := 8) rfl (n' := 22) rfl (by decide) (by decide) rfl ?_
        intro r137 h138 Q138 O138
        obtain ⟨x139, rfl, E138, S138⟩ := Q138
        refine Ww.astore (pc' := 274) C at_272 rfl (Ls' := #[.val (.int p0), .val (.int p1), .val (.int p2), .val (.int p3), .val (.int p4), .val (.int (1 : Int32)), .val (.int c15), .val (.int c19), .val (.int c23), .val (.int c27), .val (.ref a29), .val (.ref a72), .val (.int (0 : Int32)), .val (.int (1 : Int32)), .val (.int (1 : Int32)), .val (.ref x139), .unset]) rfl rfl ?_
        have hT : trim [c15] = [c15] := by simp [trim, lead, endAt, q87]
        have G15 : Str Z h138 x139 [c15] := hT ▸ S138
        refine Ww.aload (pc' := 276) C at_274 rfl rfl rfl ?_
        refine Ww.callV (pc' := 279) C at_276 (a := x139) (fun vm0 C => (strLen C hw hs O138 (Wn := 0) G15 (by decide) (by decide))) (pureC (P := fun v => v = some (.int (Int32.ofNat ([c15] : List Int32).length))) O138) (fun v h' q => Or.inl q.2) S138.exa (w55 hw) (w31 hw) (fun vm0 hZ0 => notFace_of_selects (args := #[]) (mvT (s := W.s.setVm vm0) hZ0 (w33 hw))) (w33 hw) (w32 hw) (by decide) (argsL := []) (st := []) rfl rfl (lenOf pd5 rfl) rfl (Nat.le_of_eq rfl) (k' := 8) rfl (n' := 22) rfl (by decide) (by decide) rfl ?_
        intro r140 h141 Q141 O141
        obtain ⟨rfl, e142⟩ := Q141
        obtain rfl := e142.symm
        refine Ww.iload (pc' := 281) C at_279 rfl rfl ?_
        refine Ww.icmp_ne C at_281 (by decide) (pcT := 288) (by decide) (pc' := 284) rfl (fun q => absurd rfl q) (fun q143 => ?_)
        refine Ww.iconst (pc' := 285) C at_284 (v := (1 : Int32)) rfl rfl ?_
        refine Ww.goto C at_285 (by decide) (pc' := 289) (by decide) ?_
        refine Ww.istore (pc' := 291) C at_289 (Ls' := #[.val (.int p0), .val (.int p1), .val (.int p2), .val (.int p3), .val (.int p4), .val (.int (1 : Int32)), .val (.int c15), .val (.int c19), .val (.int c23), .val (.int c27), .val (.ref a29), .val (.ref a72), .val (.int (0 : Int32)), .val (.int (1 : Int32)), .val (.int (1 : Int32)), .val (.ref x139), .val (.int (1 : Int32))]) rfl rfl ?_
        refine Ww.iload (pc' := 293) C at_291 rfl rfl ?_
        refine Ww.if_eq C at_293 (by decide) (pcT := 322) (by decide) (pc' := 296) rfl (fun q => absurd q (by decide)) (fun q144 => ?_)
        refine Ww.iload (pc' := 298) C at_296 rfl rfl ?_
        refine Ww.if_le C at_298 (by decide) (pcT := 322) (by decide) (pc' := 301) rfl (fun q => absurd q (by decide)) (fun q145 => ?_)
        refine Ww.aload (pc' := 303) C at_301 rfl rfl rfl ?_
        refine Ww.iconst (pc' := 304) C at_303 (v := (0 : Int32)) rfl rfl ?_
        refine Ww.callV (pc' := 307) C at_304 (a := x139) (fun vm0 C => (strAt C hw hs O138 (Wn := 0) (i := 0) G15 (show _ < _ from Nat.le_of_ble_eq_true rfl) rfl (by decide) (by decide))) (pureC (P := fun v => v = some (.int (([c15] : List Int32).getD 0 0))) O138) (fun v h' q => Or.inl q.2) S138.exa (w114 hw) (w70 hw) (fun vm0 hZ0 => notFace_of_selects (args := #[]) (mvT (s := W.s.setVm vm0) hZ0 (w72 hw))) (w72 hw) (w71 hw) (by decide) (argsL := [(.int (0 : Int32))]) (st := []) rfl rfl (lenOf pd10 rfl) rfl (Nat.le_of_eq rfl) (k' := 8) rfl (n' := 22) rfl (by decide) (by decide) rfl ?_
        intro r146 h147 Q147 O147
        obtain ⟨rfl, e148⟩ := Q147
        obtain rfl := e148.symm
        refine Ww.aload (pc' := 309) C at_307 rfl rfl rfl ?_
        refine Ww.iload (pc' := 311) C at_309 rfl rfl ?_
        have X149 : Ext h35 h76 := Wk.Ext.wr (Z := Z) E73 W76 (Nat.le_of_eq ga72.symm)
        have X150 : Ext h35 h131 := Wk.Ext.trans X149 E131
        have X151 : Ext h35 h136 := Wk.Ext.keep1 (Z := Z) X150 Kh136 (Nat.le_trans X149.1 (Nat.le_of_eq ga130.symm))
        have X152 : Ext h35 h138 := Wk.Ext.trans X151 E138
        refine Ww.caload (pc' := 312) C at_311 (V35.ext X152) (by decide) (v := (.int c15)) rfl rfl ?_
        refine Ww.icmp_ne C at_312 (by decide) (pcT := 319) (by decide) (pc' := 315) rfl (fun q => absurd rfl q) (fun q153 => ?_)
        refine Ww.iconst (pc' := 316) C at_315 (v := (1 : Int32)) rfl rfl ?_
        refine Ww.goto C at_316 (by decide) (pc' := 320) (by decide) ?_
        refine Ww.istore (pc' := 322) C at_320 (Ls' := #[.val (.int p0), .val (.int p1), .val (.int p2), .val (.int p3), .val (.int p4), .val (.int (1 : Int32)), .val (.int c15), .val (.int c19), .val (.int c23), .val (.int c27), .val (.ref a29), .val (.ref a72), .val (.int (0 : Int32)), .val (.int (1 : Int32)), .val (.int (1 : Int32)), .val (.ref x139), .val (.int (1 : Int32))]) rfl rfl ?_
        refine Ww.iload (pc' := 324) C at_322 rfl rfl ?_
        refine Ww.if_eq C at_324 (by decide) (pcT := 356) (by decide) (pc' := 327) rfl (fun q => absurd q (by decide)) (fun q154 => ?_)
        refine Ww.iload (pc' := 329) C at_327 rfl rfl ?_
        refine Ww.iconst (pc' := 330) C at_329 (v := (1 : Int32)) rfl rfl ?_
        refine Ww.icmp_le C at_330 (by decide) (pcT := 356) (by decide) (pc' := 333) rfl (fun q155 => ?_) (fun q => absurd q (by decide))
        refine Ww.iload (pc' := 358) C at_356 rfl rfl ?_
        refine Ww.if_eq C at_358 (by decide) (pcT := 390) (by decide) (pc' := 361) rfl (fun q => absurd q (by decide)) (fun q156 => ?_)
        refine Ww.iload (pc' := 363) C at_361 rfl rfl ?_
        refine Ww.iconst (pc' := 364) C at_363 (v := (2 : Int32)) rfl rfl ?_
        refine Ww.icmp_le C at_364 (by decide) (pcT := 390) (by decide) (pc' := 367) rfl (fun q157 => ?_) (fun q => absurd q (by decide))
        refine Ww.iload (pc' := 392) C at_390 rfl rfl ?_
        refine Ww.if_eq C at_392 (by decide) (pcT := 424) (by decide) (pc' := 395) rfl (fun q => absurd q (by decide)) (fun q158 => ?_)
        refine Ww.iload (pc' := 397) C at_395 rfl rfl ?_
        refine Ww.iconst (pc' := 398) C at_397 (v := (3 : Int32)) rfl rfl ?_
        refine Ww.icmp_le C at_398 (by decide) (pcT := 424) (by decide) (pc' := 401) rfl (fun q159 => ?_) (fun q => absurd q (by decide))
        refine Ww.iload (pc' := 426) C at_424 rfl rfl ?_
        exact Ww.retNar (ty := .boolean) C hE (by simp) at_426 rfl (by decide) (by decide) rfl
  · -- the length is 2
    subst hl5
    refine Ww.iload (pc' := 60) C at_58 rfl rfl ?_
    refine Ww.newA (pc' := 62) C at_60 (ty := .char) rfl (w4 hw) (by decide) (cap := 2) (by decide) (by decide) (k' := 2) rfl (n' := 6) rfl (by decide) (by decide) rfl rfl ?_
    intro a160 h161 ga160 za160 E161 Va160 O161
    have V162 : Wk.Ary Z h161 a160 .char [(.int (0 : Int32)), (.int (0 : Int32))] := Va160
    refine Ww.astore (pc' := 64) C at_62 rfl (Ls' := #[.val (.int p0), .val (.int p1), .val (.int p2), .val (.int p3), .val (.int p4), .val (.int (2 : Int32)), .val (.int c15), .val (.int c19), .val (.int c23), .val (.int c27), .val (.ref a29), .val (.ref a160), .unset, .unset, .unset, .unset, .unset]) rfl rfl ?_
    refine Ww.iload (pc' := 66) C at_64 rfl rfl ?_
    refine Ww.if_le C at_66 (by decide) (pcT := 75) (by decide) (pc' := 69) rfl (fun q => absurd q (by decide)) (fun q163 => ?_)
    refine Ww.aload (pc' := 71) C at_69 rfl rfl rfl ?_
    refine Ww.iconst (pc' := 72) C at_71 (v := (0 : Int32)) rfl rfl ?_
    refine Ww.iload (pc' := 74) C at_72 rfl rfl ?_
    refine Ww.castore (pc' := 75) C at_74 V162 (by decide) (show _ < _ from Nat.le_of_ble_eq_true rfl) (Wk.nar_rng rc15) (vs' := [(.int c15), (.int (0 : Int32))]) rfl za160 (List.mem_of_getElem? (i := 0) rfl) rfl ?_
    intro h164 W164 V164 O164
    refine Ww.iload (pc' := 77) C at_75 rfl rfl ?_
    refine Ww.iconst (pc' := 78) C at_77 (v := (1 : Int32)) rfl rfl ?_
    refine Ww.icmp_le C at_78 (by decide) (pcT := 87) (by decide) (pc' := 81) rfl (fun q => absurd q (by decide)) (fun q165 => ?_)
    refine Ww.aload (pc' := 83) C at_81 rfl rfl rfl ?_
    refine Ww.iconst (pc' := 84) C at_83 (v := (1 : Int32)) rfl rfl ?_
    refine Ww.iload (pc' := 86) C at_84 rfl rfl ?_
    refine Ww.castore (pc' := 87) C at_86 V164 (by decide) (show _ < _ from Nat.le_of_ble_eq_true rfl) (Wk.nar_rng rc19) (vs' := [(.int c15), (.int c19)]) rfl za160 (List.mem_of_getElem? (i := 0) rfl) rfl ?_
    intro h166 W166 V166 O166
    refine Ww.iload (pc' := 89) C at_87 rfl rfl ?_
    refine Ww.iconst (pc' := 90) C at_89 (v := (2 : Int32)) rfl rfl ?_
    refine Ww.icmp_le C at_90 (by decide) (pcT := 99) (by decide) (pc' := 93) rfl (fun q167 => ?_) (fun q => absurd q (by decide))
    refine Ww.iload (pc' := 101) C at_99 rfl rfl ?_
    refine Ww.iconst (pc' := 102) C at_101 (v := (3 : Int32)) rfl rfl ?_
    refine Ww.icmp_le C at_102 (by decide) (pcT := 111) (by decide) (pc' := 105) rfl (fun q168 => ?_) (fun q => absurd q (by decide))
    refine Ww.iload (pc' := 113) C at_111 rfl rfl ?_
    refine Ww.istore (pc' := 115) C at_113 (Ls' := #[.val (.int p0), .val (.int p1), .val (.int p2), .val (.int p3), .val (.int p4), .val (.int (2 : Int32)), .val (.int c15), .val (.int c19), .val (.int c23), .val (.int c27), .val (.ref a29), .val (.ref a160), .val (.int (2 : Int32)), .unset, .unset, .unset, .unset]) rfl rfl ?_
    refine Ww.iload (pc' := 117) C at_115 rfl rfl ?_
    refine Ww.iconst (pc' := 118) C at_117 (v := (3 : Int32)) rfl rfl ?_
    refine Ww.icmp_le C at_118 (by decide) (pcT := 132) (by decide) (pc' := 121) rfl (fun q169 => ?_) (fun q => absurd q (by decide))
    refine Ww.iload (pc' := 134) C at_132 rfl rfl ?_
    refine Ww.iconst (pc' := 135) C at_134 (v := (2 : Int32)) rfl rfl ?_
    refine Ww.icmp_le C at_135 (by decide) (pcT := 149) (by decide) (pc' := 138) rfl (fun q170 => ?_) (fun q => absurd q (by decide))
    refine Ww.iload (pc' := 151) C at_149 rfl rfl ?_
    refine Ww.iconst (pc' := 152) C at_151 (v := (1 : Int32)) rfl rfl ?_
    refine Ww.icmp_le C at_152 (by decide) (pcT := 166) (by decide) (pc' := 155) rfl (fun q => absurd q (by decide)) (fun q171 => ?_)
    refine Ww.iload (pc' := 157) C at_155 rfl rfl ?_
    refine Ww.callS (pc' := 160) C at_157 (fun vm0 C => (Wk.Con.pays C (Wn := 0) (own_sp l hw O166 c19) (w58 hw) (w2 hw) (by decide) (by decide))) Wk.cleanC (fun v h' q => Or.inl q.2) (w56 hw) (w57 hw) (w2 hw) (w58 hw) (by decide) (argsL := [(.int c19)]) (st := []) rfl rfl (lenOf pd14 rfl) rfl (Nat.le_of_eq rfl) (k' := 2) rfl (n' := 6) rfl (by decide) (by decide) rfl ?_
    intro r172 h173 Q173 O173
    obtain ⟨q175, e174⟩ := Q173
    obtain rfl := e174.symm
    rcases q175 with ⟨rfl, q175⟩ | ⟨rfl, q175⟩
    · -- space: True
      refine Ww.if_ne C at_160 (by decide) (pcT := 166) (by decide) (pc' := 163) rfl (fun q176 => ?_) (fun q => absurd q (by decide))
      refine Ww.iload (pc' := 168) C at_166 rfl rfl ?_
      refine Ww.if_le C at_168 (by decide) (pcT := 182) (by decide) (pc' := 171) rfl (fun q => absurd q (by decide)) (fun q177 => ?_)
      refine Ww.iload (pc' := 173) C at_171 rfl rfl ?_
      refine Ww.callS (pc' := 176) C at_173 (fun vm0 C => (Wk.Con.pays C (Wn := 0) (own_sp l hw O166 c15) (w58 hw) (w2 hw) (by decide) (by decide))) Wk.cleanC (fun v h' q => Or.inl q.2) (w56 hw) (w57 hw) (w2 hw) (w58 hw) (by decide) (argsL := [(.int c15)]) (st := []) rfl rfl (lenOf pd14 rfl) rfl (Nat.le_of_eq rfl) (k' := 2) rfl (n' := 6) rfl (by decide) (by decide) rfl ?_
      intro r178 h179 Q179 O179
      obtain ⟨q181, e180⟩ := Q179
      obtain rfl := e180.symm
      rcases q181 with ⟨rfl, q181⟩ | ⟨rfl, q181⟩
      · -- space: True
        refine Ww.if_ne C at_176 (by decide) (pcT := 182) (by decide) (pc' := 179) rfl (fun q182 => ?_) (fun q => absurd q (by decide))
        refine Ww.iload (pc' := 184) C at_182 rfl rfl ?_
        refine Ww.istore (pc' := 186) C at_184 (Ls' := #[.val (.int p0), .val (.int p1), .val (.int p2), .val (.int p3), .val (.int p4), .val (.int (2 : Int32)), .val (.int c15), .val (.int c19), .val (.int c23), .val (.int c27), .val (.ref a29), .val (.ref a160), .val (.int (2 : Int32)), .val (.int (2 : Int32)), .unset, .unset, .unset]) rfl rfl ?_
        refine Ww.iload (pc' := 188) C at_186 rfl rfl ?_
        refine Ww.if_le C at_188 (by decide) (pcT := 202) (by decide) (pc' := 191) rfl (fun q => absurd q (by decide)) (fun q183 => ?_)
        refine Ww.iload (pc' := 193) C at_191 rfl rfl ?_
        refine Ww.callS (pc' := 196) C at_193 (fun vm0 C => (Wk.Con.pays C (Wn := 0) (own_sp l hw O166 c15) (w58 hw) (w2 hw) (by decide) (by decide))) Wk.cleanC (fun v h' q => Or.inl q.2) (w56 hw) (w57 hw) (w2 hw) (w58 hw) (by decide) (argsL := [(.int c15)]) (st := []) rfl rfl (lenOf pd14 rfl) rfl (Nat.le_of_eq rfl) (k' := 2) rfl (n' := 6) rfl (by decide) (by decide) rfl ?_
        intro r184 h185 Q185 O185
        obtain ⟨q187, e186⟩ := Q185
        obtain rfl := e186.symm
        rcases q187 with ⟨rfl, q187⟩ | ⟨rfl, q187⟩
        · -- space: True
          refine Ww.if_ne C at_196 (by decide) (pcT := 202) (by decide) (pc' := 199) rfl (fun q188 => ?_) (fun q => absurd q (by decide))
          refine Ww.iload (pc' := 204) C at_202 rfl rfl ?_
          refine Ww.iconst (pc' := 205) C at_204 (v := (1 : Int32)) rfl rfl ?_
          refine Ww.icmp_le C at_205 (by decide) (pcT := 219) (by decide) (pc' := 208) rfl (fun q => absurd q (by decide)) (fun q189 => ?_)
          refine Ww.iload (pc' := 210) C at_208 rfl rfl ?_
          refine Ww.callS (pc' := 213) C at_210 (fun vm0 C => (Wk.Con.pays C (Wn := 0) (own_sp l hw O166 c19) (w58 hw) (w2 hw) (by decide) (by decide))) Wk.cleanC (fun v h' q => Or.inl q.2) (w56 hw) (w57 hw) (w2 hw) (w58 hw) (by decide) (argsL := [(.int c19)]) (st := []) rfl rfl (lenOf pd14 rfl) rfl (Nat.le_of_eq rfl) (k' := 2) rfl (n' := 6) rfl (by decide) (by decide) rfl ?_
          intro r190 h191 Q191 O191
          obtain ⟨q193, e192⟩ := Q191
          obtain rfl := e192.symm
          rcases q193 with ⟨rfl, q193⟩ | ⟨rfl, q193⟩
          · -- space: True
            refine Ww.if_ne C at_213 (by decide) (pcT := 219) (by decide) (pc' := 216) rfl (fun q194 => ?_) (fun q => absurd q (by decide))
            refine Ww.iload (pc' := 221) C at_219 rfl rfl ?_
            refine Ww.iconst (pc' := 222) C at_221 (v := (2 : Int32)) rfl rfl ?_
            refine Ww.icmp_le C at_222 (by decide) (pcT := 236) (by decide) (pc' := 225) rfl (fun q195 => ?_) (fun q => absurd q (by decide))
            refine Ww.iload (pc' := 238) C at_236 rfl rfl ?_
            refine Ww.iconst (pc' := 239) C at_238 (v := (3 : Int32)) rfl rfl ?_
            refine Ww.icmp_le C at_239 (by decide) (pcT := 253) (by decide) (pc' := 242) rfl (fun q196 => ?_) (fun q => absurd q (by decide))
            refine Ww.iload (pc' := 255) C at_253 rfl rfl ?_
            refine Ww.iload (pc' := 257) C at_255 rfl rfl ?_
            refine Ww.isub (pc' := 258) C at_257 (v := (0 : Int32)) (by decide) rfl ?_
            refine Ww.istore (pc' := 260) C at_258 (Ls' := #[.val (.int p0), .val (.int p1), .val (.int p2), .val (.int p3), .val (.int p4), .val (.int (2 : Int32)), .val (.int c15), .val (.int c19), .val (.int c23), .val (.int c27), .val (.ref a29), .val (.ref a160), .val (.int (2 : Int32)), .val (.int (2 : Int32)), .val (.int (0 : Int32)), .unset, .unset]) rfl rfl ?_
            refine Ww.newO (pc' := 263) C at_260 (w5 hw) (w6 hw) (w7 hw) (k' := 3) rfl (n' := 10) rfl (by decide) (by decide) rfl ?_
            intro a197 h198 ga197 za197 E198 Aa197 Da197 Ua197 O198
            have F199 : Fld Z h198 a197 "java/lang/String" "value" "[B" .null := Da197 (Or.inr (w20 hw)) (ty := (.array .byte)) (by decide)
            have F200 : Fld Z h198 a197 "java/lang/String" "coder" "B" (.int (0 : Int32)) := Da197 (Or.inr (w21 hw)) (ty := .byte) (by decide)
            refine Ww.dup (pc' := 264) C at_263 rfl rfl ?_
            refine Ww.aload (pc' := 266) C at_264 rfl rfl rfl ?_
            have hp201 : ∀ c ∈ ([c15, c19] : List Int32), ¬ c < 0 ∧ ¬ (255 : Int32) < c := (List.forall_mem_cons.mpr ⟨rc15, (List.forall_mem_cons.mpr ⟨rc19, (fun _ h => nomatch h)⟩)⟩)
            refine Ww.callI (pc' := 269) C at_266 (a := a197) (fun vm0 C => (strNew C hw hs O198 (cs := [c15, c19]) (n := 2) (Wn := 1) za197 Aa197 F199 F200 (V166.ext E198) rfl (by decide) (by decide) hp201 (by decide) (by decide))) (strNewC (n := 2) O198 za197 rfl (by decide) hp201) (fun v h' q => Or.inr (Or.inr ⟨a197, (List.mem_of_getElem? (i := 0) rfl), q.2.1⟩)) rfl (w8 hw) (w9 hw) (w10 hw) (by decide) (argsL := [(.ref a160)]) (st := [(.ref a197)]) rfl rfl (lenOf pd12 rfl) rfl (Nat.le_of_eq rfl) (k' := 4) rfl (n' := 12) rfl (by decide) (by decide) rfl ?_
            intro r202 h203 Q203 O203
            obtain ⟨rfl, Kh203, Sh203⟩ := Q203
            refine Ww.callSS (pc' := 272) C at_269 (Ww.Con.pays hE (Wn := 0) (own_wos l hw hE O203 hs a197 [c15, c19] Sh203 (show _ ≤ 4 from Nat.le_of_ble_eq_true rfl)) (w29 hw) (w28 hw) (by decide) (by decide)) Wk.cleanC (w26 hw) (w27 hw) (w28 hw) (w29 hw) (by decide) (argsL := [(.ref a197)]) (st := []) rfl rfl (lenOf pd13 rfl) rfl (Nat.le_of_eq rfl) (k' := 8) rfl (n' := 24) rfl (by decide) (by decide) rfl ?_
            intro r204 h205 Q205 O205
            obtain ⟨x206, rfl, E205, S205⟩ := Q205
            refine Ww.astore (pc' := 274) C at_272 rfl (Ls' := #[.val (.int p0), .val (.int p1), .val (.int p2), .val (.int p3), .val (.int p4), .val (.int (2 : Int32)), .val (.int c15), .val (.int c19), .val (.int c23), .val (.int c27), .val (.ref a29), .val (.ref a160), .val (.int (2 : Int32)), .val (.int (2 : Int32)), .val (.int (0 : Int32)), .val (.ref x206), .unset]) rfl rfl ?_
            have hT : trim [c15, c19] = [] := by simp [trim, lead, endAt, q181, q175]
            have G15 : Str Z h205 x206 [] := hT ▸ S205
            refine Ww.aload (pc' := 276) C at_274 rfl rfl rfl ?_
            refine Ww.callV (pc' := 279) C at_276 (a := x206) (fun vm0 C => (strLen C hw hs O205 (Wn := 0) G15 (by decide) (by decide))) (pureC (P := fun v => v = some (.int (Int32.ofNat ([] : List Int32).length))) O205) (fun v h' q => Or.inl q.2) S205.exa (w55 hw) (w31 hw) (fun vm0 hZ0 => notFace_of_selects (args := #[]) (mvT (s := W.s.setVm vm0) hZ0 (w33 hw))) (w33 hw) (w32 hw) (by decide) (argsL := []) (st := []) rfl rfl (lenOf pd5 rfl) rfl (Nat.le_of_eq rfl) (k' := 8) rfl (n' := 24) rfl (by decide) (by decide) rfl ?_
            intro r207 h208 Q208 O208
            obtain ⟨rfl, e209⟩ := Q208
            obtain rfl := e209.symm
            refine Ww.iload (pc' := 281) C at_279 rfl rfl ?_
            refine Ww.icmp_ne C at_281 (by decide) (pcT := 288) (by decide) (pc' := 284) rfl (fun q => absurd rfl q) (fun q210 => ?_)
            refine Ww.iconst (pc' := 285) C at_284 (v := (1 : Int32)) rfl rfl ?_
            refine Ww.goto C at_285 (by decide) (pc' := 289) (by decide) ?_
            refine Ww.istore (pc' := 291) C at_289 (Ls' := #[.val (.int p0), .val (.int p1), .val (.int p2), .val (.int p3), .val (.int p4), .val (.int (2 : Int32)), .val (.int c15), .val (.int c19), .val (.int c23), .val (.int c27), .val (.ref a29), .val (.ref a160), .val (.int (2 : Int32)), .val (.int (2 : Int32)), .val (.int (0 : Int32)), .val (.ref x206), .val (.int (1 : Int32))]) rfl rfl ?_
            refine Ww.iload (pc' := 293) C at_291 rfl rfl ?_
            refine Ww.if_eq C at_293 (by decide) (pcT := 322) (by decide) (pc' := 296) rfl (fun q => absurd q (by decide)) (fun q211 => ?_)
            refine Ww.iload (pc' := 298) C at_296 rfl rfl ?_
            refine Ww.if_le C at_298 (by decide) (pcT := 322) (by decide) (pc' := 301) rfl (fun q212 => ?_) (fun q => absurd q (by decide))
            refine Ww.iload (pc' := 324) C at_322 rfl rfl ?_
            refine Ww.if_eq C at_324 (by decide) (pcT := 356) (by decide) (pc' := 327) rfl (fun q => absurd q (by decide)) (fun q213 => ?_)
            refine Ww.iload (pc' := 329) C at_327 rfl rfl ?_
            refine Ww.iconst (pc' := 330) C at_329 (v := (1 : Int32)) rfl rfl ?_
            refine Ww.icmp_le C at_330 (by decide) (pcT := 356) (by decide) (pc' := 333) rfl (fun q214 => ?_) (fun q => absurd q (by decide))
            refine Ww.iload (pc' := 358) C at_356 rfl rfl ?_
            refine Ww.if_eq C at_358 (by decide) (pcT := 390) (by decide) (pc' := 361) rfl (fun q => absurd q (by decide)) (fun q215 => ?_)
            refine Ww.iload (pc' := 363) C at_361 rfl rfl ?_
            refine Ww.iconst (pc' := 364) C at_363 (v := (2 : Int32)) rfl rfl ?_
            refine Ww.icmp_le C at_364 (by decide) (pcT := 390) (by decide) (pc' := 367) rfl (fun q216 => ?_) (fun q => absurd q (by decide))
            refine Ww.iload (pc' := 392) C at_390 rfl rfl ?_
            refine Ww.if_eq C at_392 (by decide) (pcT := 424) (by decide) (pc' := 395) rfl (fun q => absurd q (by decide)) (fun q217 => ?_)
            refine Ww.iload (pc' := 397) C at_395 rfl rfl ?_
            refine Ww.iconst (pc' := 398) C at_397 (v := (3 : Int32)) rfl rfl ?_
            refine Ww.icmp_le C at_398 (by decide) (pcT := 424) (by decide) (pc' := 401) rfl (fun q218 => ?_) (fun q => absurd q (by decide))
            refine Ww.iload (pc' := 426) C at_424 rfl rfl ?_
            exact Ww.retNar (ty := .boolean) C hE (by simp) at_426 rfl (by decide) (by decide) rfl
          · -- space: False
            exact absurd q175 q193
        · -- space: False
          exact absurd q181 q187
      · -- space: False
        refine Ww.if_ne C at_176 (by decide) (pcT := 182) (by decide) (pc' := 179) rfl (fun q => absurd q (by decide)) (fun q219 => ?_)
        refine Ww.iconst (pc' := 180) C at_179 (v := (0 : Int32)) rfl rfl ?_
        refine Ww.istore (pc' := 182) C at_180 (Ls' := #[.val (.int p0), .val (.int p1), .val (.int p2), .val (.int p3), .val (.int p4), .val (.int (2 : Int32)), .val (.int c15), .val (.int c19), .val (.int c23), .val (.int c27), .val (.ref a29), .val (.ref a160), .val (.int (0 : Int32)), .unset, .unset, .unset, .unset]) rfl rfl ?_
        refine Ww.iload (pc' := 184) C at_182 rfl rfl ?_
        refine Ww.istore (pc' := 186) C at_184 (Ls' := #[.val (.int p0), .val (.int p1), .val (.int p2), .val (.int p3), .val (.int p4), .val (.int (2 : Int32)), .val (.int c15), .val (.int c19), .val (.int c23), .val (.int c27), .val (.ref a29), .val (.ref a160), .val (.int (0 : Int32)), .val (.int (0 : Int32)), .unset, .unset, .unset]) rfl rfl ?_
        refine Ww.iload (pc' := 188) C at_186 rfl rfl ?_
        refine Ww.if_le C at_188 (by decide) (pcT := 202) (by decide) (pc' := 191) rfl (fun q => absurd q (by decide)) (fun q220 => ?_)
        refine Ww.iload (pc' := 193) C at_191 rfl rfl ?_
        refine Ww.callS (pc' := 196) C at_193 (fun vm0 C => (Wk.Con.pays C (Wn := 0) (own_sp l hw O166 c15) (w58 hw) (w2 hw) (by decide) (by decide))) Wk.cleanC (fun v h' q => Or.inl q.2) (w56 hw) (w57 hw) (w2 hw) (w58 hw) (by decide) (argsL := [(.int c15)]) (st := []) rfl rfl (lenOf pd14 rfl) rfl (Nat.le_of_eq rfl) (k' := 2) rfl (n' := 6) rfl (by decide) (by decide) rfl ?_
        intro r221 h222 Q222 O222
        obtain ⟨q224, e223⟩ := Q222
        obtain rfl := e223.symm
        rcases q224 with ⟨rfl, q224⟩ | ⟨rfl, q224⟩
        · -- space: True
          exact absurd q224 q181
        · -- space: False
          refine Ww.if_ne C at_196 (by decide) (pcT := 202) (by decide) (pc' := 199) rfl (fun q => absurd q (by decide)) (fun q225 => ?_)
          refine Ww.iconst (pc' := 200) C at_199 (v := (1 : Int32)) rfl rfl ?_
          refine Ww.istore (pc' := 202) C at_200 (Ls' := #[.val (.int p0), .val (.int p1), .val (.int p2), .val (.int p3), .val (.int p4), .val (.int (2 : Int32)), .val (.int c15), .val (.int c19), .val (.int c23), .val (.int c27), .val (.ref a29), .val (.ref a160), .val (.int (0 : Int32)), .val (.int (1 : Int32)), .unset, .unset, .unset]) rfl rfl ?_
          refine Ww.iload (pc' := 204) C at_202 rfl rfl ?_
          refine Ww.iconst (pc' := 205) C at_204 (v := (1 : Int32)) rfl rfl ?_
          refine Ww.icmp_le C at_205 (by decide) (pcT := 219) (by decide) (pc' := 208) rfl (fun q => absurd q (by decide)) (fun q226 => ?_)
          refine Ww.iload (pc' := 210) C at_208 rfl rfl ?_
          refine Ww.callS (pc' := 213) C at_210 (fun vm0 C => (Wk.Con.pays C (Wn := 0) (own_sp l hw O166 c19) (w58 hw) (w2 hw) (by decide) (by decide))) Wk.cleanC (fun v h' q => Or.inl q.2) (w56 hw) (w57 hw) (w2 hw) (w58 hw) (by decide) (argsL := [(.int c19)]) (st := []) rfl rfl (lenOf pd14 rfl) rfl (Nat.le_of_eq rfl) (k' := 2) rfl (n' := 6) rfl (by decide) (by decide) rfl ?_
          intro r227 h228 Q228 O228
          obtain ⟨q230, e229⟩ := Q228
          obtain rfl := e229.symm
          rcases q230 with ⟨rfl, q230⟩ | ⟨rfl, q230⟩
          · -- space: True
            refine Ww.if_ne C at_213 (by decide) (pcT := 219) (by decide) (pc' := 216) rfl (fun q231 => ?_) (fun q => absurd q (by decide))
            refine Ww.iload (pc' := 221) C at_219 rfl rfl ?_
            refine Ww.iconst (pc' := 222) C at_221 (v := (2 : Int32)) rfl rfl ?_
            refine Ww.icmp_le C at_222 (by decide) (pcT := 236) (by decide) (pc' := 225) rfl (fun q232 => ?_) (fun q => absurd q (by decide))
            refine Ww.iload (pc' := 238) C at_236 rfl rfl ?_
            refine Ww.iconst (pc' := 239) C at_238 (v := (3 : Int32)) rfl rfl ?_
            refine Ww.icmp_le C at_239 (by decide) (pcT := 253) (by decide) (pc' := 242) rfl (fun q233 => ?_) (fun q => absurd q (by decide))
            refine Ww.iload (pc' := 255) C at_253 rfl rfl ?_
            refine Ww.iload (pc' := 257) C at_255 rfl rfl ?_
            refine Ww.isub (pc' := 258) C at_257 (v := (1 : Int32)) (by decide) rfl ?_
            refine Ww.istore (pc' := 260) C at_258 (Ls' := #[.val (.int p0), .val (.int p1), .val (.int p2), .val (.int p3), .val (.int p4), .val (.int (2 : Int32)), .val (.int c15), .val (.int c19), .val (.int c23), .val (.int c27), .val (.ref a29), .val (.ref a160), .val (.int (0 : Int32)), .val (.int (1 : Int32)), .val (.int (1 : Int32)), .unset, .unset]) rfl rfl ?_
            refine Ww.newO (pc' := 263) C at_260 (w5 hw) (w6 hw) (w7 hw) (k' := 3) rfl (n' := 10) rfl (by decide) (by decide) rfl ?_
            intro a234 h235 ga234 za234 E235 Aa234 Da234 Ua234 O235
            have F236 : Fld Z h235 a234 "java/lang/String" "value" "[B" .null := Da234 (Or.inr (w20 hw)) (ty := (.array .byte)) (by decide)
            have F237 : Fld Z h235 a234 "java/lang/String" "coder" "B" (.int (0 : Int32)) := Da234 (Or.inr (w21 hw)) (ty := .byte) (by decide)
            refine Ww.dup (pc' := 264) C at_263 rfl rfl ?_
            refine Ww.aload (pc' := 266) C at_264 rfl rfl rfl ?_
            have hp238 : ∀ c ∈ ([c15, c19] : List Int32), ¬ c < 0 ∧ ¬ (255 : Int32) < c := (List.forall_mem_cons.mpr ⟨rc15, (List.forall_mem_cons.mpr ⟨rc19, (fun _ h => nomatch h)⟩)⟩)
            refine Ww.callI (pc' := 269) C at_266 (a := a234) (fun vm0 C => (strNew C hw hs O235 (cs := [c15, c19]) (n := 2) (Wn := 1) za234 Aa234 F236 F237 (V166.ext E235) rfl (by decide) (by decide) hp238 (by decide) (by decide))) (strNewC (n := 2) O235 za234 rfl (by decide) hp238) (fun v h' q => Or.inr (Or.inr ⟨a234, (List.mem_of_getElem? (i := 0) rfl), q.2.1⟩)) rfl (w8 hw) (w9 hw) (w10 hw) (by decide) (argsL := [(.ref a160)]) (st := [(.ref a234)]) rfl rfl (lenOf pd12 rfl) rfl (Nat.le_of_eq rfl) (k' := 4) rfl (n' := 12) rfl (by decide) (by decide) rfl ?_
            intro r239 h240 Q240 O240
            obtain ⟨rfl, Kh240, Sh240⟩ := Q240
            refine Ww.callSS (pc' := 272) C at_269 (Ww.Con.pays hE (Wn := 0) (own_wos l hw hE O240 hs a234 [c15, c19] Sh240 (show _ ≤ 4 from Nat.le_of_ble_eq_true rfl)) (w29 hw) (w28 hw) (by decide) (by decide)) Wk.cleanC (w26 hw) (w27 hw) (w28 hw) (w29 hw) (by decide) (argsL := [(.ref a234)]) (st := []) rfl rfl (lenOf pd13 rfl) rfl (Nat.le_of_eq rfl) (k' := 8) rfl (n' := 24) rfl (by decide) (by decide) rfl ?_
            intro r241 h242 Q242 O242
            obtain ⟨x243, rfl, E242, S242⟩ := Q242
            refine Ww.astore (pc' := 274) C at_272 rfl (Ls' := #[.val (.int p0), .val (.int p1), .val (.int p2), .val (.int p3), .val (.int p4), .val (.int (2 : Int32)), .val (.int c15), .val (.int c19), .val (.int c23), .val (.int c27), .val (.ref a29), .val (.ref a160), .val (.int (0 : Int32)), .val (.int (1 : Int32)), .val (.int (1 : Int32)), .val (.ref x243), .unset]) rfl rfl ?_
            have hT : trim [c15, c19] = [c15] := by simp [trim, lead, endAt, q181, q175]
            have G15 : Str Z h242 x243 [c15] := hT ▸ S242
            refine Ww.aload (pc' := 276) C at_274 rfl rfl rfl ?_
            refine Ww.callV (pc' := 279) C at_276 (a := x243) (fun vm0 C => (strLen C hw hs O242 (Wn := 0) G15 (by decide) (by decide))) (pureC (P := fun v => v = some (.int (Int32.ofNat ([c15] : List Int32).length))) O242) (fun v h' q => Or.inl q.2) S242.exa (w55 hw) (w31 hw) (fun vm0 hZ0 => notFace_of_selects (args := #[]) (mvT (s := W.s.setVm vm0) hZ0 (w33 hw))) (w33 hw) (w32 hw) (by decide) (argsL := []) (st := []) rfl rfl (lenOf pd5 rfl) rfl (Nat.le_of_eq rfl) (k' := 8) rfl (n' := 24) rfl (by decide) (by decide) rfl ?_
            intro r244 h245 Q245 O245
            obtain ⟨rfl, e246⟩ := Q245
            obtain rfl := e246.symm
            refine Ww.iload (pc' := 281) C at_279 rfl rfl ?_
            refine Ww.icmp_ne C at_281 (by decide) (pcT := 288) (by decide) (pc' := 284) rfl (fun q => absurd rfl q) (fun q247 => ?_)
            refine Ww.iconst (pc' := 285) C at_284 (v := (1 : Int32)) rfl rfl ?_
            refine Ww.goto C at_285 (by decide) (pc' := 289) (by decide) ?_
            refine Ww.istore (pc' := 291) C at_289 (Ls' := #[.val (.int p0), .val (.int p1), .val (.int p2), .val (.int p3), .val (.int p4), .val (.int (2 : Int32)), .val (.int c15), .val (.int c19), .val (.int c23), .val (.int c27), .val (.ref a29), .val (.ref a160), .val (.int (0 : Int32)), .val (.int (1 : Int32)), .val (.int (1 : Int32)), .val (.ref x243), .val (.int (1 : Int32))]) rfl rfl ?_
            refine Ww.iload (pc' := 293) C at_291 rfl rfl ?_
            refine Ww.if_eq C at_293 (by decide) (pcT := 322) (by decide) (pc' := 296) rfl (fun q => absurd q (by decide)) (fun q248 => ?_)
            refine Ww.iload (pc' := 298) C at_296 rfl rfl ?_
            refine Ww.if_le C at_298 (by decide) (pcT := 322) (by decide) (pc' := 301) rfl (fun q => absurd q (by decide)) (fun q249 => ?_)
            refine Ww.aload (pc' := 303) C at_301 rfl rfl rfl ?_
            refine Ww.iconst (pc' := 304) C at_303 (v := (0 : Int32)) rfl rfl ?_
            refine Ww.callV (pc' := 307) C at_304 (a := x243) (fun vm0 C => (strAt C hw hs O242 (Wn := 0) (i := 0) G15 (show _ < _ from Nat.le_of_ble_eq_true rfl) rfl (by decide) (by decide))) (pureC (P := fun v => v = some (.int (([c15] : List Int32).getD 0 0))) O242) (fun v h' q => Or.inl q.2) S242.exa (w114 hw) (w70 hw) (fun vm0 hZ0 => notFace_of_selects (args := #[]) (mvT (s := W.s.setVm vm0) hZ0 (w72 hw))) (w72 hw) (w71 hw) (by decide) (argsL := [(.int (0 : Int32))]) (st := []) rfl rfl (lenOf pd10 rfl) rfl (Nat.le_of_eq rfl) (k' := 8) rfl (n' := 24) rfl (by decide) (by decide) rfl ?_
            intro r250 h251 Q251 O251
            obtain ⟨rfl, e252⟩ := Q251
            obtain rfl := e252.symm
            refine Ww.aload (pc' := 309) C at_307 rfl rfl rfl ?_
            refine Ww.iload (pc' := 311) C at_309 rfl rfl ?_
            have X253 : Ext h35 h164 := Wk.Ext.wr (Z := Z) E161 W164 (Nat.le_of_eq ga160.symm)
            have X254 : Ext h35 h166 := Wk.Ext.wr (Z := Z) X253 W166 (Nat.le_of_eq ga160.symm)
            have X255 : Ext h35 h235 := Wk.Ext.trans X254 E235
            have X256 : Ext h35 h240 := Wk.Ext.keep1 (Z := Z) X255 Kh240 (Nat.le_trans X254.1 (Nat.le_of_eq ga234.symm))
            have X257 : Ext h35 h242 := Wk.Ext.trans X256 E242
            refine Ww.caload (pc' := 312) C at_311 (V35.ext X257) (by decide) (v := (.int c15)) rfl rfl ?_
            refine Ww.icmp_ne C at_312 (by decide) (pcT := 319) (by decide) (pc' := 315) rfl (fun q => absurd rfl q) (fun q258 => ?_)
            refine Ww.iconst (pc' := 316) C at_315 (v := (1 : Int32)) rfl rfl ?_
            refine Ww.goto C at_316 (by decide) (pc' := 320) (by decide) ?_
            refine Ww.istore (pc' := 322) C at_320 (Ls' := #[.val (.int p0), .val (.int p1), .val (.int p2), .val (.int p3), .val (.int p4), .val (.int (2 : Int32)), .val (.int c15), .val (.int c19), .val (.int c23), .val (.int c27), .val (.ref a29), .val (.ref a160), .val (.int (0 : Int32)), .val (.int (1 : Int32)), .val (.int (1 : Int32)), .val (.ref x243), .val (.int (1 : Int32))]) rfl rfl ?_
            refine Ww.iload (pc' := 324) C at_322 rfl rfl ?_
            refine Ww.if_eq C at_324 (by decide) (pcT := 356) (by decide) (pc' := 327) rfl (fun q => absurd q (by decide)) (fun q259 => ?_)
            refine Ww.iload (pc' := 329) C at_327 rfl rfl ?_
            refine Ww.iconst (pc' := 330) C at_329 (v := (1 : Int32)) rfl rfl ?_
            refine Ww.icmp_le C at_330 (by decide) (pcT := 356) (by decide) (pc' := 333) rfl (fun q260 => ?_) (fun q => absurd q (by decide))
            refine Ww.iload (pc' := 358) C at_356 rfl rfl ?_
            refine Ww.if_eq C at_358 (by decide) (pcT := 390) (by decide) (pc' := 361) rfl (fun q => absurd q (by decide)) (fun q261 => ?_)
            refine Ww.iload (pc' := 363) C at_361 rfl rfl ?_
            refine Ww.iconst (pc' := 364) C at_363 (v := (2 : Int32)) rfl rfl ?_
            refine Ww.icmp_le C at_364 (by decide) (pcT := 390) (by decide) (pc' := 367) rfl (fun q262 => ?_) (fun q => absurd q (by decide))
            refine Ww.iload (pc' := 392) C at_390 rfl rfl ?_
            refine Ww.if_eq C at_392 (by decide) (pcT := 424) (by decide) (pc' := 395) rfl (fun q => absurd q (by decide)) (fun q263 => ?_)
            refine Ww.iload (pc' := 397) C at_395 rfl rfl ?_
            refine Ww.iconst (pc' := 398) C at_397 (v := (3 : Int32)) rfl rfl ?_
            refine Ww.icmp_le C at_398 (by decide) (pcT := 424) (by decide) (pc' := 401) rfl (fun q264 => ?_) (fun q => absurd q (by decide))
            refine Ww.iload (pc' := 426) C at_424 rfl rfl ?_
            exact Ww.retNar (ty := .boolean) C hE (by simp) at_426 rfl (by decide) (by decide) rfl
          · -- space: False
            exact absurd q175 q230
    · -- space: False
      refine Ww.if_ne C at_160 (by decide) (pcT := 166) (by decide) (pc' := 163) rfl (fun q => absurd q (by decide)) (fun q265 => ?_)
      refine Ww.iconst (pc' := 164) C at_163 (v := (1 : Int32)) rfl rfl ?_
      refine Ww.istore (pc' := 166) C at_164 (Ls' := #[.val (.int p0), .val (.int p1), .val (.int p2), .val (.int p3), .val (.int p4), .val (.int (2 : Int32)), .val (.int c15), .val (.int c19), .val (.int c23), .val (.int c27), .val (.ref a29), .val (.ref a160), .val (.int (1 : Int32)), .unset, .unset, .unset, .unset]) rfl rfl ?_
      refine Ww.iload (pc' := 168) C at_166 rfl rfl ?_
      refine Ww.if_le C at_168 (by decide) (pcT := 182) (by decide) (pc' := 171) rfl (fun q => absurd q (by decide)) (fun q266 => ?_)
      refine Ww.iload (pc' := 173) C at_171 rfl rfl ?_
      refine Ww.callS (pc' := 176) C at_173 (fun vm0 C => (Wk.Con.pays C (Wn := 0) (own_sp l hw O166 c15) (w58 hw) (w2 hw) (by decide) (by decide))) Wk.cleanC (fun v h' q => Or.inl q.2) (w56 hw) (w57 hw) (w2 hw) (w58 hw) (by decide) (argsL := [(.int c15)]) (st := []) rfl rfl (lenOf pd14 rfl) rfl (Nat.le_of_eq rfl) (k' := 2) rfl (n' := 6) rfl (by decide) (by decide) rfl ?_
      intro r267 h268 Q268 O268
      obtain ⟨q270, e269⟩ := Q268
      obtain rfl := e269.symm
      rcases q270 with ⟨rfl, q270⟩ | ⟨rfl, q270⟩
      · -- space: True
        refine Ww.if_ne C at_176 (by decide) (pcT := 182) (by decide) (pc' := 179) rfl (fun q271 => ?_) (fun q => absurd q (by decide))
        refine Ww.iload (pc' := 184) C at_182 rfl rfl ?_
        refine Ww.istore (pc' := 186) C at_184 (Ls' := #[.val (.int p0), .val (.int p1), .val (.int p2), .val (.int p3), .val (.int p4), .val (.int (2 : Int32)), .val (.int c15), .val (.int c19), .val (.int c23), .val (.int c27), .val (.ref a29), .val (.ref a160), .val (.int (1 : Int32)), .val (.int (1 : Int32)), .unset, .unset, .unset]) rfl rfl ?_
        refine Ww.iload (pc' := 188) C at_186 rfl rfl ?_
        refine Ww.if_le C at_188 (by decide) (pcT := 202) (by decide) (pc' := 191) rfl (fun q => absurd q (by decide)) (fun q272 => ?_)
        refine Ww.iload (pc' := 193) C at_191 rfl rfl ?_
        refine Ww.callS (pc' := 196) C at_193 (fun vm0 C => (Wk.Con.pays C (Wn := 0) (own_sp l hw O166 c15) (w58 hw) (w2 hw) (by decide) (by decide))) Wk.cleanC (fun v h' q => Or.inl q.2) (w56 hw) (w57 hw) (w2 hw) (w58 hw) (by decide) (argsL := [(.int c15)]) (st := []) rfl rfl (lenOf pd14 rfl) rfl (Nat.le_of_eq rfl) (k' := 2) rfl (n' := 6) rfl (by decide) (by decide) rfl ?_
        intro r273 h274 Q274 O274
        obtain ⟨q276, e275⟩ := Q274
        obtain rfl := e275.symm
        rcases q276 with ⟨rfl, q276⟩ | ⟨rfl, q276⟩
        · -- space: True
          refine Ww.if_ne C at_196 (by decide) (pcT := 202) (by decide) (pc' := 199) rfl (fun q277 => ?_) (fun q => absurd q (by decide))
          refine Ww.iload (pc' := 204) C at_202 rfl rfl ?_
          refine Ww.iconst (pc' := 205) C at_204 (v := (1 : Int32)) rfl rfl ?_
          refine Ww.icmp_le C at_205 (by decide) (pcT := 219) (by decide) (pc' := 208) rfl (fun q => absurd q (by decide)) (fun q278 => ?_)
          refine Ww.iload (pc' := 210) C at_208 rfl rfl ?_
          refine Ww.callS (pc' := 213) C at_210 (fun vm0 C => (Wk.Con.pays C (Wn := 0) (own_sp l hw O166 c19) (w58 hw) (w2 hw) (by decide) (by decide))) Wk.cleanC (fun v h' q => Or.inl q.2) (w56 hw) (w57 hw) (w2 hw) (w58 hw) (by decide) (argsL := [(.int c19)]) (st := []) rfl rfl (lenOf pd14 rfl) rfl (Nat.le_of_eq rfl) (k' := 2) rfl (n' := 6) rfl (by decide) (by decide) rfl ?_
          intro r279 h280 Q280 O280
          obtain ⟨q282, e281⟩ := Q280
          obtain rfl := e281.symm
          rcases q282 with ⟨rfl, q282⟩ | ⟨rfl, q282⟩
          · -- space: True
            exact absurd q282 q175
          · -- space: False
            refine Ww.if_ne C at_213 (by decide) (pcT := 219) (by decide) (pc' := 216) rfl (fun q => absurd q (by decide)) (fun q283 => ?_)
            refine Ww.iconst (pc' := 217) C at_216 (v := (2 : Int32)) rfl rfl ?_
            refine Ww.istore (pc' := 219) C at_217 (Ls' := #[.val (.int p0), .val (.int p1), .val (.int p2), .val (.int p3), .val (.int p4), .val (.int (2 : Int32)), .val (.int c15), .val (.int c19), .val (.int c23), .val (.int c27), .val (.ref a29), .val (.ref a160), .val (.int (1 : Int32)), .val (.int (2 : Int32)), .unset, .unset, .unset]) rfl rfl ?_
            refine Ww.iload (pc' := 221) C at_219 rfl rfl ?_
            refine Ww.iconst (pc' := 222) C at_221 (v := (2 : Int32)) rfl rfl ?_
            refine Ww.icmp_le C at_222 (by decide) (pcT := 236) (by decide) (pc' := 225) rfl (fun q284 => ?_) (fun q => absurd q (by decide))
            refine Ww.iload (pc' := 238) C at_236 rfl rfl ?_
            refine Ww.iconst (pc' := 239) C at_238 (v := (3 : Int32)) rfl rfl ?_
            refine Ww.icmp_le C at_239 (by decide) (pcT := 253) (by decide) (pc' := 242) rfl (fun q285 => ?_) (fun q => absurd q (by decide))
            refine Ww.iload (pc' := 255) C at_253 rfl rfl ?_
            refine Ww.iload (pc' := 257) C at_255 rfl rfl ?_
            refine Ww.isub (pc' := 258) C at_257 (v := (1 : Int32)) (by decide) rfl ?_
            refine Ww.istore (pc' := 260) C at_258 (Ls' := #[.val (.int p0), .val (.int p1), .val (.int p2), .val (.int p3), .val (.int p4), .val (.int (2 : Int32)), .val (.int c15), .val (.int c19), .val (.int c23), .val (.int c27), .val (.ref a29), .val (.ref a160), .val (.int (1 : Int32)), .val (.int (2 : Int32)), .val (.int (1 : Int32)), .unset, .unset]) rfl rfl ?_
            refine Ww.newO (pc' := 263) C at_260 (w5 hw) (w6 hw) (w7 hw) (k' := 3) rfl (n' := 10) rfl (by decide) (by decide) rfl ?_
            intro a286 h287 ga286 za286 E287 Aa286 Da286 Ua286 O287
            have F288 : Fld Z h287 a286 "java/lang/String" "value" "[B" .null := Da286 (Or.inr (w20 hw)) (ty := (.array .byte)) (by decide)
            have F289 : Fld Z h287 a286 "java/lang/String" "coder" "B" (.int (0 : Int32)) := Da286 (Or.inr (w21 hw)) (ty := .byte) (by decide)
            refine Ww.dup (pc' := 264) C at_263 rfl rfl ?_
            refine Ww.aload (pc' := 266) C at_264 rfl rfl rfl ?_
            have hp290 : ∀ c ∈ ([c15, c19] : List Int32), ¬ c < 0 ∧ ¬ (255 : Int32) < c := (List.forall_mem_cons.mpr ⟨rc15, (List.forall_mem_cons.mpr ⟨rc19, (fun _ h => nomatch h)⟩)⟩)
            refine Ww.callI (pc' := 269) C at_266 (a := a286) (fun vm0 C => (strNew C hw hs O287 (cs := [c15, c19]) (n := 2) (Wn := 1) za286 Aa286 F288 F289 (V166.ext E287) rfl (by decide) (by decide) hp290 (by decide) (by decide))) (strNewC (n := 2) O287 za286 rfl (by decide) hp290) (fun v h' q => Or.inr (Or.inr ⟨a286, (List.mem_of_getElem? (i := 0) rfl), q.2.1⟩)) rfl (w8 hw) (w9 hw) (w10 hw) (by decide) (argsL := [(.ref a160)]) (st := [(.ref a286)]) rfl rfl (lenOf pd12 rfl) rfl (Nat.le_of_eq rfl) (k' := 4) rfl (n' := 12) rfl (by decide) (by decide) rfl ?_
            intro r291 h292 Q292 O292
            obtain ⟨rfl, Kh292, Sh292⟩ := Q292
            refine Ww.callSS (pc' := 272) C at_269 (Ww.Con.pays hE (Wn := 0) (own_wos l hw hE O292 hs a286 [c15, c19] Sh292 (show _ ≤ 4 from Nat.le_of_ble_eq_true rfl)) (w29 hw) (w28 hw) (by decide) (by decide)) Wk.cleanC (w26 hw) (w27 hw) (w28 hw) (w29 hw) (by decide) (argsL := [(.ref a286)]) (st := []) rfl rfl (lenOf pd13 rfl) rfl (Nat.le_of_eq rfl) (k' := 8) rfl (n' := 24) rfl (by decide) (by decide) rfl ?_
            intro r293 h294 Q294 O294
            obtain ⟨x295, rfl, E294, S294⟩ := Q294
            refine Ww.astore (pc' := 274) C at_272 rfl (Ls' := #[.val (.int p0), .val (.int p1), .val (.int p2), .val (.int p3), .val (.int p4), .val (.int (2 : Int32)), .val (.int c15), .val (.int c19), .val (.int c23), .val (.int c27), .val (.ref a29), .val (.ref a160), .val (.int (1 : Int32)), .val (.int (2 : Int32)), .val (.int (1 : Int32)), .val (.ref x295), .unset]) rfl rfl ?_
            have hT : trim [c15, c19] = [c19] := by simp [trim, lead, endAt, q270, q175]
            have G15 : Str Z h294 x295 [c19] := hT ▸ S294
            refine Ww.aload (pc' := 276) C at_274 rfl rfl rfl ?_
            refine Ww.callV (pc' := 279) C at_276 (a := x295) (fun vm0 C => (strLen C hw hs O294 (Wn := 0) G15 (by decide) (by decide))) (pureC (P := fun v => v = some (.int (Int32.ofNat ([c19] : List Int32).length))) O294) (fun v h' q => Or.inl q.2) S294.exa (w55 hw) (w31 hw) (fun vm0 hZ0 => notFace_of_selects (args := #[]) (mvT (s := W.s.setVm vm0) hZ0 (w33 hw))) (w33 hw) (w32 hw) (by decide) (argsL := []) (st := []) rfl rfl (lenOf pd5 rfl) rfl (Nat.le_of_eq rfl) (k' := 8) rfl (n' := 24) rfl (by decide) (by decide) rfl ?_
            intro r296 h297 Q297 O297
            obtain ⟨rfl, e298⟩ := Q297
            obtain rfl := e298.symm
            refine Ww.iload (pc' := 281) C at_279 rfl rfl ?_
            refine Ww.icmp_ne C at_281 (by decide) (pcT := 288) (by decide) (pc' := 284) rfl (fun q => absurd rfl q) (fun q299 => ?_)
            refine Ww.iconst (pc' := 285) C at_284 (v := (1 : Int32)) rfl rfl ?_
            refine Ww.goto C at_285 (by decide) (pc' := 289) (by decide) ?_
            refine Ww.istore (pc' := 291) C at_289 (Ls' := #[.val (.int p0), .val (.int p1), .val (.int p2), .val (.int p3), .val (.int p4), .val (.int (2 : Int32)), .val (.int c15), .val (.int c19), .val (.int c23), .val (.int c27), .val (.ref a29), .val (.ref a160), .val (.int (1 : Int32)), .val (.int (2 : Int32)), .val (.int (1 : Int32)), .val (.ref x295), .val (.int (1 : Int32))]) rfl rfl ?_
            refine Ww.iload (pc' := 293) C at_291 rfl rfl ?_
            refine Ww.if_eq C at_293 (by decide) (pcT := 322) (by decide) (pc' := 296) rfl (fun q => absurd q (by decide)) (fun q300 => ?_)
            refine Ww.iload (pc' := 298) C at_296 rfl rfl ?_
            refine Ww.if_le C at_298 (by decide) (pcT := 322) (by decide) (pc' := 301) rfl (fun q => absurd q (by decide)) (fun q301 => ?_)
            refine Ww.aload (pc' := 303) C at_301 rfl rfl rfl ?_
            refine Ww.iconst (pc' := 304) C at_303 (v := (0 : Int32)) rfl rfl ?_
            refine Ww.callV (pc' := 307) C at_304 (a := x295) (fun vm0 C => (strAt C hw hs O294 (Wn := 0) (i := 0) G15 (show _ < _ from Nat.le_of_ble_eq_true rfl) rfl (by decide) (by decide))) (pureC (P := fun v => v = some (.int (([c19] : List Int32).getD 0 0))) O294) (fun v h' q => Or.inl q.2) S294.exa (w114 hw) (w70 hw) (fun vm0 hZ0 => notFace_of_selects (args := #[]) (mvT (s := W.s.setVm vm0) hZ0 (w72 hw))) (w72 hw) (w71 hw) (by decide) (argsL := [(.int (0 : Int32))]) (st := []) rfl rfl (lenOf pd10 rfl) rfl (Nat.le_of_eq rfl) (k' := 8) rfl (n' := 24) rfl (by decide) (by decide) rfl ?_
            intro r302 h303 Q303 O303
            obtain ⟨rfl, e304⟩ := Q303
            obtain rfl := e304.symm
            refine Ww.aload (pc' := 309) C at_307 rfl rfl rfl ?_
            refine Ww.iload (pc' := 311) C at_309 rfl rfl ?_
            have X305 : Ext h35 h164 := Wk.Ext.wr (Z := Z) E161 W164 (Nat.le_of_eq ga160.symm)
            have X306 : Ext h35 h166 := Wk.Ext.wr (Z := Z) X305 W166 (Nat.le_of_eq ga160.symm)
            have X307 : Ext h35 h287 := Wk.Ext.trans X306 E287
            have X308 : Ext h35 h292 := Wk.Ext.keep1 (Z := Z) X307 Kh292 (Nat.le_trans X306.1 (Nat.le_of_eq ga286.symm))
            have X309 : Ext h35 h294 := Wk.Ext.trans X308 E294
            refine Ww.caload (pc' := 312) C at_311 (V35.ext X309) (by decide) (v := (.int c19)) rfl rfl ?_
            refine Ww.icmp_ne C at_312 (by decide) (pcT := 319) (by decide) (pc' := 315) rfl (fun q => absurd rfl q) (fun q310 => ?_)
            refine Ww.iconst (pc' := 316) C at_315 (v := (1 : Int32)) rfl rfl ?_
            refine Ww.goto C at_316 (by decide) (pc' := 320) (by decide) ?_
            refine Ww.istore (pc' := 322) C at_320 (Ls' := #[.val (.int p0), .val (.int p1), .val (.int p2), .val (.int p3), .val (.int p4), .val (.int (2 : Int32)), .val (.int c15), .val (.int c19), .val (.int c23), .val (.int c27), .val (.ref a29), .val (.ref a160), .val (.int (1 : Int32)), .val (.int (2 : Int32)), .val (.int (1 : Int32)), .val (.ref x295), .val (.int (1 : Int32))]) rfl rfl ?_
            refine Ww.iload (pc' := 324) C at_322 rfl rfl ?_
            refine Ww.if_eq C at_324 (by decide) (pcT := 356) (by decide) (pc' := 327) rfl (fun q => absurd q (by decide)) (fun q311 => ?_)
            refine Ww.iload (pc' := 329) C at_327 rfl rfl ?_
            refine Ww.iconst (pc' := 330) C at_329 (v := (1 : Int32)) rfl rfl ?_
            refine Ww.icmp_le C at_330 (by decide) (pcT := 356) (by decide) (pc' := 333) rfl (fun q312 => ?_) (fun q => absurd q (by decide))
            refine Ww.iload (pc' := 358) C at_356 rfl rfl ?_
            refine Ww.if_eq C at_358 (by decide) (pcT := 390) (by decide) (pc' := 361) rfl (fun q => absurd q (by decide)) (fun q313 => ?_)
            refine Ww.iload (pc' := 363) C at_361 rfl rfl ?_
            refine Ww.iconst (pc' := 364) C at_363 (v := (2 : Int32)) rfl rfl ?_
            refine Ww.icmp_le C at_364 (by decide) (pcT := 390) (by decide) (pc' := 367) rfl (fun q314 => ?_) (fun q => absurd q (by decide))
            refine Ww.iload (pc' := 392) C at_390 rfl rfl ?_
            refine Ww.if_eq C at_392 (by decide) (pcT := 424) (by decide) (pc' := 395) rfl (fun q => absurd q (by decide)) (fun q315 => ?_)
            refine Ww.iload (pc' := 397) C at_395 rfl rfl ?_
            refine Ww.iconst (pc' := 398) C at_397 (v := (3 : Int32)) rfl rfl ?_
            refine Ww.icmp_le C at_398 (by decide) (pcT := 424) (by decide) (pc' := 401) rfl (fun q316 => ?_) (fun q => absurd q (by decide))
            refine Ww.iload (pc' := 426) C at_424 rfl rfl ?_
            exact Ww.retNar (ty := .boolean) C hE (by simp) at_426 rfl (by decide) (by decide) rfl
        · -- space: False
          exact absurd q270 q276
      · -- space: False
        refine Ww.if_ne C at_176 (by decide) (pcT := 182) (by decide) (pc' := 179) rfl (fun q => absurd q (by decide)) (fun q317 => ?_)
        refine Ww.iconst (pc' := 180) C at_179 (v := (0 : Int32)) rfl rfl ?_
        refine Ww.istore (pc' := 182) C at_180 (Ls' := #[.val (.int p0), .val (.int p1), .val (.int p2), .val (.int p3), .val (.int p4), .val (.int (2 : Int32)), .val (.int c15), .val (.int c19), .val (.int c23), .val (.int c27), .val (.ref a29), .val (.ref a160), .val (.int (0 : Int32)), .unset, .unset, .unset, .unset]) rfl rfl ?_
        refine Ww.iload (pc' := 184) C at_182 rfl rfl ?_
        refine Ww.istore (pc' := 186) C at_184 (Ls' := #[.val (.int p0), .val (.int p1), .val (.int p2), .val (.int p3), .val (.int p4), .val (.int (2 : Int32)), .val (.int c15), .val (.int c19), .val (.int c23), .val (.int c27), .val (.ref a29), .val (.ref a160), .val (.int (0 : Int32)), .val (.int (0 : Int32)), .unset, .unset, .unset]) rfl rfl ?_
        refine Ww.iload (pc' := 188) C at_186 rfl rfl ?_
        refine Ww.if_le C at_188 (by decide) (pcT := 202) (by decide) (pc' := 191) rfl (fun q => absurd q (by decide)) (fun q318 => ?_)
        refine Ww.iload (pc' := 193) C at_191 rfl rfl ?_
        refine Ww.callS (pc' := 196) C at_193 (fun vm0 C => (Wk.Con.pays C (Wn := 0) (own_sp l hw O166 c15) (w58 hw) (w2 hw) (by decide) (by decide))) Wk.cleanC (fun v h' q => Or.inl q.2) (w56 hw) (w57 hw) (w2 hw) (w58 hw) (by decide) (argsL := [(.int c15)]) (st := []) rfl rfl (lenOf pd14 rfl) rfl (Nat.le_of_eq rfl) (k' := 2) rfl (n' := 6) rfl (by decide) (by decide) rfl ?_
        intro r319 h320 Q320 O320
        obtain ⟨q322, e321⟩ := Q320
        obtain rfl := e321.symm
        rcases q322 with ⟨rfl, q322⟩ | ⟨rfl, q322⟩
        · -- space: True
          exact absurd q322 q270
        · -- space: False
          refine Ww.if_ne C at_196 (by decide) (pcT := 202) (by decide) (pc' := 199) rfl (fun q => absurd q (by decide)) (fun q323 => ?_)
          refine Ww.iconst (pc' := 200) C at_199 (v := (1 : Int32)) rfl rfl ?_
          refine Ww.istore (pc' := 202) C at_200 (Ls' := #[.val (.int p0), .val (.int p1), .val (.int p2), .val (.int p3), .val (.int p4), .val (.int (2 : Int32)), .val (.int c15), .val (.int c19), .val (.int c23), .val (.int c27), .val (.ref a29), .val (.ref a160), .val (.int (0 : Int32)), .val (.int (1 : Int32)), .unset, .unset, .unset]) rfl rfl ?_
          refine Ww.iload (pc' := 204) C at_202 rfl rfl ?_
          refine Ww.iconst (pc' := 205) C at_204 (v := (1 : Int32)) rfl rfl ?_
          refine Ww.icmp_le C at_205 (by decide) (pcT := 219) (by decide) (pc' := 208) rfl (fun q => absurd q (by decide)) (fun q324 => ?_)
          refine Ww.iload (pc' := 210) C at_208 rfl rfl ?_
          refine Ww.callS (pc' := 213) C at_210 (fun vm0 C => (Wk.Con.pays C (Wn := 0) (own_sp l hw O166 c19) (w58 hw) (w2 hw) (by decide) (by decide))) Wk.cleanC (fun v h' q => Or.inl q.2) (w56 hw) (w57 hw) (w2 hw) (w58 hw) (by decide) (argsL := [(.int c19)]) (st := []) rfl rfl (lenOf pd14 rfl) rfl (Nat.le_of_eq rfl) (k' := 2) rfl (n' := 6) rfl (by decide) (by decide) rfl ?_
          intro r325 h326 Q326 O326
          obtain ⟨q328, e327⟩ := Q326
          obtain rfl := e327.symm
          rcases q328 with ⟨rfl, q328⟩ | ⟨rfl, q328⟩
          · -- space: True
            exact absurd q328 q175
          · -- space: False
            refine Ww.if_ne C at_213 (by decide) (pcT := 219) (by decide) (pc' := 216) rfl (fun q => absurd q (by decide)) (fun q329 => ?_)
            refine Ww.iconst (pc' := 217) C at_216 (v := (2 : Int32)) rfl rfl ?_
            refine Ww.istore (pc' := 219) C at_217 (Ls' := #[.val (.int p0), .val (.int p1), .val (.int p2), .val (.int p3), .val (.int p4), .val (.int (2 : Int32)), .val (.int c15), .val (.int c19), .val (.int c23), .val (.int c27), .val (.ref a29), .val (.ref a160), .val (.int (0 : Int32)), .val (.int (2 : Int32)), .unset, .unset, .unset]) rfl rfl ?_
            refine Ww.iload (pc' := 221) C at_219 rfl rfl ?_
            refine Ww.iconst (pc' := 222) C at_221 (v := (2 : Int32)) rfl rfl ?_
            refine Ww.icmp_le C at_222 (by decide) (pcT := 236) (by decide) (pc' := 225) rfl (fun q330 => ?_) (fun q => absurd q (by decide))
            refine Ww.iload (pc' := 238) C at_236 rfl rfl ?_
            refine Ww.iconst (pc' := 239) C at_238 (v := (3 : Int32)) rfl rfl ?_
            refine Ww.icmp_le C at_239 (by decide) (pcT := 253) (by decide) (pc' := 242) rfl (fun q331 => ?_) (fun q => absurd q (by decide))
            refine Ww.iload (pc' := 255) C at_253 rfl rfl ?_
            refine Ww.iload (pc' := 257) C at_255 rfl rfl ?_
            refine Ww.isub (pc' := 258) C at_257 (v := (2 : Int32)) (by decide) rfl ?_
            refine Ww.istore (pc' := 260) C at_258 (Ls' := #[.val (.int p0), .val (.int p1), .val (.int p2), .val (.int p3), .val (.int p4), .val (.int (2 : Int32)), .val (.int c15), .val (.int c19), .val (.int c23), .val (.int c27), .val (.ref a29), .val (.ref a160), .val (.int (0 : Int32)), .val (.int (2 : Int32)), .val (.int (2 : Int32)), .unset, .unset]) rfl rfl ?_
            refine Ww.newO (pc' := 263) C at_260 (w5 hw) (w6 hw) (w7 hw) (k' := 3) rfl (n' := 10) rfl (by decide) (by decide) rfl ?_
            intro a332 h333 ga332 za332 E333 Aa332 Da332 Ua332 O333
            have F334 : Fld Z h333 a332 "java/lang/String" "value" "[B" .null := Da332 (Or.inr (w20 hw)) (ty := (.array .byte)) (by decide)
            have F335 : Fld Z h333 a332 "java/lang/String" "coder" "B" (.int (0 : Int32)) := Da332 (Or.inr (w21 hw)) (ty := .byte) (by decide)
            refine Ww.dup (pc' := 264) C at_263 rfl rfl ?_
            refine Ww.aload (pc' := 266) C at_264 rfl rfl rfl ?_
            have hp336 : ∀ c ∈ ([c15, c19] : List Int32), ¬ c < 0 ∧ ¬ (255 : Int32) < c := (List.forall_mem_cons.mpr ⟨rc15, (List.forall_mem_cons.mpr ⟨rc19, (fun _ h => nomatch h)⟩)⟩)
            refine Ww.callI (pc' := 269) C at_266 (a := a332) (fun vm0 C => (strNew C hw hs O333 (cs := [c15, c19]) (n := 2) (Wn := 1) za332 Aa332 F334 F335 (V166.ext E333) rfl (by decide) (by decide) hp336 (by decide) (by decide))) (strNewC (n := 2) O333 za332 rfl (by decide) hp336) (fun v h' q => Or.inr (Or.inr ⟨a332, (List.mem_of_getElem? (i := 0) rfl), q.2.1⟩)) rfl (w8 hw) (w9 hw) (w10 hw) (by decide) (argsL := [(.ref a160)]) (st := [(.ref a332)]) rfl rfl (lenOf pd12 rfl) rfl (Nat.le_of_eq rfl) (k' := 4) rfl (n' := 12) rfl (by decide) (by decide) rfl ?_
            intro r337 h338 Q338 O338
            obtain ⟨rfl, Kh338, Sh338⟩ := Q338
            refine Ww.callSS (pc' := 272) C at_269 (Ww.Con.pays hE (Wn := 0) (own_wos l hw hE O338 hs a332 [c15, c19] Sh338 (show _ ≤ 4 from Nat.le_of_ble_eq_true rfl)) (w29 hw) (w28 hw) (by decide) (by decide)) Wk.cleanC (w26 hw) (w27 hw) (w28 hw) (w29 hw) (by decide) (argsL := [(.ref a332)]) (st := []) rfl rfl (lenOf pd13 rfl) rfl (Nat.le_of_eq rfl) (k' := 8) rfl (n' := 24) rfl (by decide) (by decide) rfl ?_
            intro r339 h340 Q340 O340
            obtain ⟨x341, rfl, E340, S340⟩ := Q340
            refine Ww.astore (pc' := 274) C at_272 rfl (Ls' := #[.val (.int p0), .val (.int p1), .val (.int p2), .val (.int p3), .val (.int p4), .val (.int (2 : Int32)), .val (.int c15), .val (.int c19), .val (.int c23), .val (.int c27), .val (.ref a29), .val (.ref a160), .val (.int (0 : Int32)), .val (.int (2 : Int32)), .val (.int (2 : Int32)), .val (.ref x341), .unset]) rfl rfl ?_
            have hT : trim [c15, c19] = [c15, c19] := by simp [trim, lead, endAt, q270, q175]
            have G15 : Str Z h340 x341 [c15, c19] := hT ▸ S340
            refine Ww.aload (pc' := 276) C at_274 rfl rfl rfl ?_
            refine Ww.callV (pc' := 279) C at_276 (a := x341) (fun vm0 C => (strLen C hw hs O340 (Wn := 0) G15 (by decide) (by decide))) (pureC (P := fun v => v = some (.int (Int32.ofNat ([c15, c19] : List Int32).length))) O340) (fun v h' q => Or.inl q.2) S340.exa (w55 hw) (w31 hw) (fun vm0 hZ0 => notFace_of_selects (args := #[]) (mvT (s := W.s.setVm vm0) hZ0 (w33 hw))) (w33 hw) (w32 hw) (by decide) (argsL := []) (st := []) rfl rfl (lenOf pd5 rfl) rfl (Nat.le_of_eq rfl) (k' := 8) rfl (n' := 24) rfl (by decide) (by decide) rfl ?_
            intro r342 h343 Q343 O343
            obtain ⟨rfl, e344⟩ := Q343
            obtain rfl := e344.symm
            refine Ww.iload (pc' := 281) C at_279 rfl rfl ?_
            refine Ww.icmp_ne C at_281 (by decide) (pcT := 288) (by decide) (pc' := 284) rfl (fun q => absurd rfl q) (fun q345 => ?_)
            refine Ww.iconst (pc' := 285) C at_284 (v := (1 : Int32)) rfl rfl ?_
            refine Ww.goto C at_285 (by decide) (pc' := 289) (by decide) ?_
            refine Ww.istore (pc' := 291) C at_289 (Ls' := #[.val (.int p0), .val (.int p1), .val (.int p2), .val (.int p3), .val (.int p4), .val (.int (2 : Int32)), .val (.int c15), .val (.int c19), .val (.int c23), .val (.int c27), .val (.ref a29), .val (.ref a160), .val (.int (0 : Int32)), .val (.int (2 : Int32)), .val (.int (2 : Int32)), .val (.ref x341), .val (.int (1 : Int32))]) rfl rfl ?_
            refine Ww.iload (pc' := 293) C at_291 rfl rfl ?_
            refine Ww.if_eq C at_293 (by decide) (pcT := 322) (by decide) (pc' := 296) rfl (fun q => absurd q (by decide)) (fun q346 => ?_)
            refine Ww.iload (pc' := 298) C at_296 rfl rfl ?_
            refine Ww.if_le C at_298 (by decide) (pcT := 322) (by decide) (pc' := 301) rfl (fun q => absurd q (by decide)) (fun q347 => ?_)
            refine Ww.aload (pc' := 303) C at_301 rfl rfl rfl ?_
            refine Ww.iconst (pc' := 304) C at_303 (v := (0 : Int32)) rfl rfl ?_
            refine Ww.callV (pc' := 307) C at_304 (a := x341) (fun vm0 C => (strAt C hw hs O340 (Wn := 0) (i := 0) G15 (show _ < _ from Nat.le_of_ble_eq_true rfl) rfl (by decide) (by decide))) (pureC (P := fun v => v = some (.int (([c15, c19] : List Int32).getD 0 0))) O340) (fun v h' q => Or.inl q.2) S340.exa (w114 hw) (w70 hw) (fun vm0 hZ0 => notFace_of_selects (args := #[]) (mvT (s := W.s.setVm vm0) hZ0 (w72 hw))) (w72 hw) (w71 hw) (by decide) (argsL := [(.int (0 : Int32))]) (st := []) rfl rfl (lenOf pd10 rfl) rfl (Nat.le_of_eq rfl) (k' := 8) rfl (n' := 24) rfl (by decide) (by decide) rfl ?_
            intro r348 h349 Q349 O349
            obtain ⟨rfl, e350⟩ := Q349
            obtain rfl := e350.symm
            refine Ww.aload (pc' := 309) C at_307 rfl rfl rfl ?_
            refine Ww.iload (pc' := 311) C at_309 rfl rfl ?_
            have X351 : Ext h35 h164 := Wk.Ext.wr (Z := Z) E161 W164 (Nat.le_of_eq ga160.symm)
            have X352 : Ext h35 h166 := Wk.Ext.wr (Z := Z) X351 W166 (Nat.le_of_eq ga160.symm)
            have X353 : Ext h35 h333 := Wk.Ext.trans X352 E333
            have X354 : Ext h35 h338 := Wk.Ext.keep1 (Z := Z) X353 Kh338 (Nat.le_trans X352.1 (Nat.le_of_eq ga332.symm))
            have X355 : Ext h35 h340 := Wk.Ext.trans X354 E340
            refine Ww.caload (pc' := 312) C at_311 (V35.ext X355) (by decide) (v := (.int c15)) rfl rfl ?_
            refine Ww.icmp_ne C at_312 (by decide) (pcT := 319) (by decide) (pc' := 315) rfl (fun q => absurd rfl q) (fun q356 => ?_)
            refine Ww.iconst (pc' := 316) C at_315 (v := (1 : Int32)) rfl rfl ?_
            refine Ww.goto C at_316 (by decide) (pc' := 320) (by decide) ?_
            refine Ww.istore (pc' := 322) C at_320 (Ls' := #[.val (.int p0), .val (.int p1), .val (.int p2), .val (.int p3), .val (.int p4), .val (.int (2 : Int32)), .val (.int c15), .val (.int c19), .val (.int c23), .val (.int c27), .val (.ref a29), .val (.ref a160), .val (.int (0 : Int32)), .val (.int (2 : Int32)), .val (.int (2 : Int32)), .val (.ref x341), .val (.int (1 : Int32))]) rfl rfl ?_
            refine Ww.iload (pc' := 324) C at_322 rfl rfl ?_
            refine Ww.if_eq C at_324 (by decide) (pcT := 356) (by decide) (pc' := 327) rfl (fun q => absurd q (by decide)) (fun q357 => ?_)
            refine Ww.iload (pc' := 329) C at_327 rfl rfl ?_
            refine Ww.iconst (pc' := 330) C at_329 (v := (1 : Int32)) rfl rfl ?_
            refine Ww.icmp_le C at_330 (by decide) (pcT := 356) (by decide) (pc' := 333) rfl (fun q => absurd q (by decide)) (fun q358 => ?_)
            refine Ww.aload (pc' := 335) C at_333 rfl rfl rfl ?_
            refine Ww.iconst (pc' := 336) C at_335 (v := (1 : Int32)) rfl rfl ?_
            refine Ww.callV (pc' := 339) C at_336 (a := x341) (fun vm0 C => (strAt C hw hs O340 (Wn := 0) (i := 1) G15 (show _ < _ from Nat.le_of_ble_eq_true rfl) rfl (by decide) (by decide))) (pureC (P := fun v => v = some (.int (([c15, c19] : List Int32).getD 1 0))) O340) (fun v h' q => Or.inl q.2) S340.exa (w114 hw) (w70 hw) (fun vm0 hZ0 => notFace_of_selects (args := #[]) (mvT (s := W.s.setVm vm0) hZ0 (w72 hw))) (w72 hw) (w71 hw) (by decide) (argsL := [(.int (1 : Int32))]) (st := []) rfl rfl (lenOf pd10 rfl) rfl (Nat.le_of_eq rfl) (k' := 8) rfl (n' := 24) rfl (by decide) (by decide) rfl ?_
            intro r359 h360 Q360 O360
            obtain ⟨rfl, e361⟩ := Q360
            obtain rfl := e361.symm
            refine Ww.aload (pc' := 341) C at_339 rfl rfl rfl ?_
            refine Ww.iload (pc' := 343) C at_341 rfl rfl ?_
            refine Ww.iconst (pc' := 344) C at_343 (v := (1 : Int32)) rfl rfl ?_
            refine Ww.iadd (pc' := 345) C at_344 (v := (1 : Int32)) (by decide) rfl ?_
            refine Ww.caload (pc' := 346) C at_345 (V35.ext X355) (by decide) (v := (.int c19)) rfl rfl ?_
            refine Ww.icmp_ne C at_346 (by decide) (pcT := 353) (by decide) (pc' := 349) rfl (fun q => absurd rfl q) (fun q362 => ?_)
            refine Ww.iconst (pc' := 350) C at_349 (v := (1 : Int32)) rfl rfl ?_
            refine Ww.goto C at_350 (by decide) (pc' := 354) (by decide) ?_
            refine Ww.istore (pc' := 356) C at_354 (Ls' := #[.val (.int p0), .val (.int p1), .val (.int p2), .val (.int p3), .val (.int p4), .val (.int (2 : Int32)), .val (.int c15), .val (.int c19), .val (.int c23), .val (.int c27), .val (.ref a29), .val (.ref a160), .val (.int (0 : Int32)), .val (.int (2 : Int32)), .val (.int (2 : Int32)), .val (.ref x341), .val (.int (1 : Int32))]) rfl rfl ?_
            refine Ww.iload (pc' := 358) C at_356 rfl rfl ?_
            refine Ww.if_eq C at_358 (by decide) (pcT := 390) (by decide) (pc' := 361) rfl (fun q => absurd q (by decide)) (fun q363 => ?_)
            refine Ww.iload (pc' := 363) C at_361 rfl rfl ?_
            refine Ww.iconst (pc' := 364) C at_363 (v := (2 : Int32)) rfl rfl ?_
            refine Ww.icmp_le C at_364 (by decide) (pcT := 390) (by decide) (pc' := 367) rfl (fun q364 => ?_) (fun q => absurd q (by decide))
            refine Ww.iload (pc' := 392) C at_390 rfl rfl ?_
            refine Ww.if_eq C at_392 (by decide) (pcT := 424) (by decide) (pc' := 395) rfl (fun q => absurd q (by decide)) (fun q365 => ?_)
            refine Ww.iload (pc' := 397) C at_395 rfl rfl ?_
            refine Ww.iconst (pc' := 398) C at_397 (v := (3 : Int32)) rfl rfl ?_
            refine Ww.icmp_le C at_398 (by decide) (pcT := 424) (by decide) (pc' := 401) rfl (fun q366 => ?_) (fun q => absurd q (by decide))
            refine Ww.iload (pc' := 426) C at_424 rfl rfl ?_
            exact Ww.retNar (ty := .boolean) C hE (by simp) at_426 rfl (by decide) (by decide) rfl
  · -- the length is 3
    subst hl5
    refine Ww.iload (pc' := 60) C at_58 rfl rfl ?_
    refine Ww.newA (pc' := 62) C at_60 (ty := .char) rfl (w4 hw) (by decide) (cap := 3) (by decide) (by decide) (k' := 2) rfl (n' := 7) rfl (by decide) (by decide) rfl rfl ?_
    intro a367 h368 ga367 za367 E368 Va367 O368
    have V369 : Wk.Ary Z h368 a367 .char [(.int (0 : Int32)), (.int (0 : Int32)), (.int (0 : Int32))] := Va367
    refine Ww.astore (pc' := 64) C at_62 rfl (Ls' := #[.val (.int p0), .val (.int p1), .val (.int p2), .val (.int p3), .val (.int p4), .val (.int (3 : Int32)), .val (.int c15), .val (.int c19), .val (.int c23), .val (.int c27), .val (.ref a29), .val (.ref a367), .unset, .unset, .unset, .unset, .unset]) rfl rfl ?_
    refine Ww.iload (pc' := 66) C at_64 rfl rfl ?_
    refine Ww.if_le C at_66 (by decide) (pcT := 75) (by decide) (pc' := 69) rfl (fun q => absurd q (by decide)) (fun q370 => ?_)
    refine Ww.aload (pc' := 71) C at_69 rfl rfl rfl ?_
    refine Ww.iconst (pc' := 72) C at_71 (v := (0 : Int32)) rfl rfl ?_
    refine Ww.iload (pc' := 74) C at_72 rfl rfl ?_
    refine Ww.castore (pc' := 75) C at_74 V369 (by decide) (show _ < _ from Nat.le_of_ble_eq_true rfl) (Wk.nar_rng rc15) (vs' := [(.int c15), (.int (0 : Int32)), (.int (0 : Int32))]) rfl za367 (List.mem_of_getElem? (i := 0) rfl) rfl ?_
    intro h371 W371 V371 O371
    refine Ww.iload (pc' := 77) C at_75 rfl rfl ?_
    refine Ww.iconst (pc' := 78) C at_77 (v := (1 : Int32)) rfl rfl ?_
    refine Ww.icmp_le C at_78 (by decide) (pcT := 87) (by decide) (pc' := 81) rfl (fun q => absurd q (by decide)) (fun q372 => ?_)
    refine Ww.aload (pc' := 83) C at_81 rfl rfl rfl ?_
    refine Ww.iconst (pc' := 84) C at_83 (v := (1 : Int32)) rfl rfl ?_
    refine Ww.iload (pc' := 86) C at_84 rfl rfl ?_
    refine Ww.castore (pc' := 87) C at_86 V371 (by decide) (show _ < _ from Nat.le_of_ble_eq_true rfl) (Wk.nar_rng rc19) (vs' := [(.int c15), (.int c19), (.int (0 : Int32))]) rfl za367 (List.mem_of_getElem? (i := 0) rfl) rfl ?_
    intro h373 W373 V373 O373
    refine Ww.iload (pc' := 89) C at_87 rfl rfl ?_
    refine Ww.iconst (pc' := 90) C at_89 (v := (2 : Int32)) rfl rfl ?_
    refine Ww.icmp_le C at_90 (by decide) (pcT := 99) (by decide) (pc' := 93) rfl (fun q => absurd q (by decide)) (fun q374 => ?_)
    refine Ww.aload (pc' := 95) C at_93 rfl rfl rfl ?_
    refine Ww.iconst (pc' := 96) C at_95 (v := (2 : Int32)) rfl rfl ?_
    refine Ww.iload (pc' := 98) C at_96 rfl rfl ?_
    refine Ww.castore (pc' := 99) C at_98 V373 (by decide) (show _ < _ from Nat.le_of_ble_eq_true rfl) (Wk.nar_rng rc23) (vs' := [(.int c15), (.int c19), (.int c23)]) rfl za367 (List.mem_of_getElem? (i := 0) rfl) rfl ?_
    intro h375 W375 V375 O375
    refine Ww.iload (pc' := 101) C at_99 rfl rfl ?_
    refine Ww.iconst (pc' := 102) C at_101 (v := (3 : Int32)) rfl rfl ?_
    refine Ww.icmp_le C at_102 (by decide) (pcT := 111) (by decide) (pc' := 105) rfl (fun q376 => ?_) (fun q => absurd q (by decide))
    refine Ww.iload (pc' := 113) C at_111 rfl rfl ?_
    refine Ww.istore (pc' := 115) C at_113 (Ls' := #[.val (.int p0), .val (.int p1), .val (.int p2), .val (.int p3), .val (.int p4), .val (.int (3 : Int32)), .val (.int c15), .val (.int c19), .val (.int c23), .val (.int c27), .val (.ref a29), .val (.ref a367), .val (.int (3 : Int32)), .unset, .unset, .unset, .unset]) rfl rfl ?_
    refine Ww.iload (pc' := 117) C at_115 rfl rfl ?_
    refine Ww.iconst (pc' := 118) C at_117 (v := (3 : Int32)) rfl rfl ?_
    refine Ww.icmp_le C at_118 (by decide) (pcT := 132) (by decide) (pc' := 121) rfl (fun q377 => ?_) (fun q => absurd q (by decide))
    refine Ww.iload (pc' := 134) C at_132 rfl rfl ?_
    refine Ww.iconst (pc' := 135) C at_134 (v := (2 : Int32)) rfl rfl ?_
    refine Ww.icmp_le C at_135 (by decide) (pcT := 149) (by decide) (pc' := 138) rfl (fun q => absurd q (by decide)) (fun q378 => ?_)
    refine Ww.iload (pc' := 140) C at_138 rfl rfl ?_
    refine Ww.callS (pc' := 143) C at_140 (fun vm0 C => (Wk.Con.pays C (Wn := 0) (own_sp l hw O375 c23) (w58 hw) (w2 hw) (by decide) (by decide))) Wk.cleanC (fun v h' q => Or.inl q.2) (w56 hw) (w57 hw) (w2 hw) (w58 hw) (by decide) (argsL := [(.int c23)]) (st := []) rfl rfl (lenOf pd14 rfl) rfl (Nat.le_of_eq rfl) (k' := 2) rfl (n' := 7) rfl (by decide) (by decide) rfl ?_
    intro r379 h380 Q380 O380
    obtain ⟨q382, e381⟩ := Q380
    obtain rfl := e381.symm
    rcases q382 with ⟨rfl, q382⟩ | ⟨rfl, q382⟩
    · -- space: True
      refine Ww.if_ne C at_143 (by decide) (pcT := 149) (by decide) (pc' := 146) rfl (fun q383 => ?_) (fun q => absurd q (by decide))
      refine Ww.iload (pc' := 151) C at_149 rfl rfl ?_
      refine Ww.iconst (pc' := 152) C at_151 (v := (1 : Int32)) rfl rfl ?_
      refine Ww.icmp_le C at_152 (by decide) (pcT := 166) (by decide) (pc' := 155) rfl (fun q => absurd q (by decide)) (fun q384 => ?_)
      refine Ww.iload (pc' := 157) C at_155 rfl rfl ?_
      refine Ww.callS (pc' := 160) C at_157 (fun vm0 C => (Wk.Con.pays C (Wn := 0) (own_sp l hw O375 c19) (w58 hw) (w2 hw) (by decide) (by decide))) Wk.cleanC (fun v h' q => Or.inl q.2) (w56 hw) (w57 hw) (w2 hw) (w58 hw) (by decide) (argsL := [(.int c19)]) (st := []) rfl rfl (lenOf pd14 rfl) rfl (Nat.le_of_eq rfl) (k' := 2) rfl (n' := 7) rfl (by decide) (by decide) rfl ?_
      intro r385 h386 Q386 O386
      obtain ⟨q388, e387⟩ := Q386
      obtain rfl := e387.symm
      rcases q388 with ⟨rfl, q388⟩ | ⟨rfl, q388⟩
      · -- space: True
        refine Ww.if_ne C at_160 (by decide) (pcT := 166) (by decide) (pc' := 163) rfl (fun q389 => ?_) (fun q => absurd q (by decide))
        refine Ww.iload (pc' := 168) C at_166 rfl rfl ?_
        refine Ww.if_le C at_168 (by decide) (pcT := 182) (by decide) (pc' := 171) rfl (fun q => absurd q (by decide)) (fun q390 => ?_)
        refine Ww.iload (pc' := 173) C at_171 rfl rfl ?_
        refine Ww.callS (pc' := 176) C at_173 (fun vm0 C => (Wk.Con.pays C (Wn := 0) (own_sp l hw O375 c15) (w58 hw) (w2 hw) (by decide) (by decide))) Wk.cleanC (fun v h' q => Or.inl q.2) (w56 hw) (w57 hw) (w2 hw) (w58 hw) (by decide) (argsL := [(.int c15)]) (st := []) rfl rfl (lenOf pd14 rfl) rfl (Nat.le_of_eq rfl) (k' := 2) rfl (n' := 7) rfl (by decide) (by decide) rfl ?_
        intro r391 h392 Q392 O392
        obtain ⟨q394, e393⟩ := Q392
        obtain rfl := e393.symm
        rcases q394 with ⟨rfl, q394⟩ | ⟨rfl, q394⟩
        · -- space: True
          refine Ww.if_ne C at_176 (by decide) (pcT := 182) (by decide) (pc' := 179) rfl (fun q395 => ?_) (fun q => absurd q (by decide))
          refine Ww.iload (pc' := 184) C at_182 rfl rfl ?_
          refine Ww.istore (pc' := 186) C at_184 (Ls' := #[.val (.int p0), .val (.int p1), .val (.int p2), .val (.int p3), .val (.int p4), .val (.int (3 : Int32)), .val (.int c15), .val (.int c19), .val (.int c23), .val (.int c27), .val (.ref a29), .val (.ref a367), .val (.int (3 : Int32)), .val (.int (3 : Int32)), .unset, .unset, .unset]) rfl rfl ?_
          refine Ww.iload (pc' := 188) C at_186 rfl rfl ?_
          refine Ww.if_le C at_188 (by decide) (pcT := 202) (by decide) (pc' := 191) rfl (fun q => absurd q (by decide)) (fun q396 => ?_)
          refine Ww.iload (pc' := 193) C at_191 rfl rfl ?_
          refine Ww.callS (pc' := 196) C at_193 (fun vm0 C => (Wk.Con.pays C (Wn := 0) (own_sp l hw O375 c15) (w58 hw) (w2 hw) (by decide) (by decide))) Wk.cleanC (fun v h' q => Or.inl q.2) (w56 hw) (w57 hw) (w2 hw) (w58 hw) (by decide) (argsL := [(.int c15)]) (st := []) rfl rfl (lenOf pd14 rfl) rfl (Nat.le_of_eq rfl) (k' := 2) rfl (n' := 7) rfl (by decide) (by decide) rfl ?_
          intro r397 h398 Q398 O398
          obtain ⟨q400, e399⟩ := Q398
          obtain rfl := e399.symm
          rcases q400 with ⟨rfl, q400⟩ | ⟨rfl, q400⟩
          · -- space: True
            refine Ww.if_ne C at_196 (by decide) (pcT := 202) (by decide) (pc' := 199) rfl (fun q401 => ?_) (fun q => absurd q (by decide))
            refine Ww.iload (pc' := 204) C at_202 rfl rfl ?_
            refine Ww.iconst (pc' := 205) C at_204 (v := (1 : Int32)) rfl rfl ?_
            refine Ww.icmp_le C at_205 (by decide) (pcT := 219) (by decide) (pc' := 208) rfl (fun q => absurd q (by decide)) (fun q402 => ?_)
            refine Ww.iload (pc' := 210) C at_208 rfl rfl ?_
            refine Ww.callS (pc' := 213) C at_210 (fun vm0 C => (Wk.Con.pays C (Wn := 0) (own_sp l hw O375 c19) (w58 hw) (w2 hw) (by decide) (by decide))) Wk.cleanC (fun v h' q => Or.inl q.2) (w56 hw) (w57 hw) (w2 hw) (w58 hw) (by decide) (argsL := [(.int c19)]) (st := []) rfl rfl (lenOf pd14 rfl) rfl (Nat.le_of_eq rfl) (k' := 2) rfl (n' := 7) rfl (by decide) (by decide) rfl ?_
            intro r403 h404 Q404 O404
            obtain ⟨q406, e405⟩ := Q404
            obtain rfl := e405.symm
            rcases q406 with ⟨rfl, q406⟩ | ⟨rfl, q406⟩
            · -- space: True
              refine Ww.if_ne C at_213 (by decide) (pcT := 219) (by decide) (pc' := 216) rfl (fun q407 => ?_) (fun q => absurd q (by decide))
              refine Ww.iload (pc' := 221) C at_219 rfl rfl ?_
              refine Ww.iconst (pc' := 222) C at_221 (v := (2 : Int32)) rfl rfl ?_
              refine Ww.icmp_le C at_222 (by decide) (pcT := 236) (by decide) (pc' := 225) rfl (fun q => absurd q (by decide)) (fun q408 => ?_)
              refine Ww.iload (pc' := 227) C at_225 rfl rfl ?_
              refine Ww.callS (pc' := 230) C at_227 (fun vm0 C => (Wk.Con.pays C (Wn := 0) (own_sp l hw O375 c23) (w58 hw) (w2 hw) (by decide) (by decide))) Wk.cleanC (fun v h' q => Or.inl q.2) (w56 hw) (w57 hw) (w2 hw) (w58 hw) (by decide) (argsL := [(.int c23)]) (st := []) rfl rfl (lenOf pd14 rfl) rfl (Nat.le_of_eq rfl) (k' := 2) rfl (n' := 7) rfl (by decide) (by decide) rfl ?_
              intro r409 h410 Q410 O410
              obtain ⟨q412, e411⟩ := Q410
              obtain rfl := e411.symm
              rcases q412 with ⟨rfl, q412⟩ | ⟨rfl, q412⟩
              · -- space: True
                refine Ww.if_ne C at_230 (by decide) (pcT := 236) (by decide) (pc' := 233) rfl (fun q413 => ?_) (fun q => absurd q (by decide))
                refine Ww.iload (pc' := 238) C at_236 rfl rfl ?_
                refine Ww.iconst (pc' := 239) C at_238 (v := (3 : Int32)) rfl rfl ?_
                refine Ww.icmp_le C at_239 (by decide) (pcT := 253) (by decide) (pc' := 242) rfl (fun q414 => ?_) (fun q => absurd q (by decide))
                refine Ww.iload (pc' := 255) C at_253 rfl rfl ?_
                refine Ww.iload (pc' := 257) C at_255 rfl rfl ?_
                refine Ww.isub (pc' := 258) C at_257 (v := (0 : Int32)) (by decide) rfl ?_
                refine Ww.istore (pc' := 260) C at_258 (Ls' := #[.val (.int p0), .val (.int p1), .val (.int p2), .val (.int p3), .val (.int p4), .val (.int (3 : Int32)), .val (.int c15), .val (.int c19), .val (.int c23), .val (.int c27), .val (.ref a29), .val (.ref a367), .val (.int (3 : Int32)), .val (.int (3 : Int32)), .val (.int (0 : Int32)), .unset, .unset]) rfl rfl ?_
                refine Ww.newO (pc' := 263) C at_260 (w5 hw) (w6 hw) (w7 hw) (k' := 3) rfl (n' := 11) rfl (by decide) (by decide) rfl ?_
                intro a415 h416 ga415 za415 E416 Aa415 Da415 Ua415 O416
                have F417 : Fld Z h416 a415 "java/lang/String" "value" "[B" .null := Da415 (Or.inr (w20 hw)) (ty := (.array .byte)) (by decide)
                have F418 : Fld Z h416 a415 "java/lang/String" "coder" "B" (.int (0 : Int32)) := Da415 (Or.inr (w21 hw)) (ty := .byte) (by decide)
                refine Ww.dup (pc' := 264) C at_263 rfl rfl ?_
                refine Ww.aload (pc' := 266) C at_264 rfl rfl rfl ?_
                have hp419 : ∀ c ∈ ([c15, c19, c23] : List Int32), ¬ c < 0 ∧ ¬ (255 : Int32) < c := (List.forall_mem_cons.mpr ⟨rc15, (List.forall_mem_cons.mpr ⟨rc19, (List.forall_mem_cons.mpr ⟨rc23, (fun _ h => nomatch h)⟩)⟩)⟩)
                refine Ww.callI (pc' := 269) C at_266 (a := a415) (fun vm0 C => (strNew C hw hs O416 (cs := [c15, c19, c23]) (n := 3) (Wn := 1) za415 Aa415 F417 F418 (V375.ext E416) rfl (by decide) (by decide) hp419 (by decide) (by decide))) (strNewC (n := 3) O416 za415 rfl (by decide) hp419) (fun v h' q => Or.inr (Or.inr ⟨a415, (List.mem_of_getElem? (i := 0) rfl), q.2.1⟩)) rfl (w8 hw) (w9 hw) (w10 hw) (by decide) (argsL := [(.ref a367)]) (st := [(.ref a415)]) rfl rfl (lenOf pd12 rfl) rfl (Nat.le_of_eq rfl) (k' := 4) rfl (n' := 14) rfl (by decide) (by decide) rfl ?_
                intro r420 h421 Q421 O421
                obtain ⟨rfl, Kh421, Sh421⟩ := Q421
                refine Ww.callSS (pc' := 272) C at_269 (Ww.Con.pays hE (Wn := 0) (own_wos l hw hE O421 hs a415 [c15, c19, c23] Sh421 (show _ ≤ 4 from Nat.le_of_ble_eq_true rfl)) (w29 hw) (w28 hw) (by decide) (by decide)) Wk.cleanC (w26 hw) (w27 hw) (w28 hw) (w29 hw) (by decide) (argsL := [(.ref a415)]) (st := []) rfl rfl (lenOf pd13 rfl) rfl (Nat.le_of_eq rfl) (k' := 8) rfl (n' := 26) rfl (by decide) (by decide) rfl ?_
                intro r422 h423 Q423 O423
                obtain ⟨x424, rfl, E423, S423⟩ := Q423
                refine Ww.astore (pc' := 274) C at_272 rfl (Ls' := #[.val (.int p0), .val (.int p1), .val (.int p2), .val (.int p3), .val (.int p4), .val (.int (3 : Int32)), .val (.int c15), .val (.int c19), .val (.int c23), .val (.int c27), .val (.ref a29), .val (.ref a367), .val (.int (3 : Int32)), .val (.int (3 : Int32)), .val (.int (0 : Int32)), .val (.ref x424), .unset]) rfl rfl ?_
                have hT : trim [c15, c19, c23] = [] := by simp [trim, lead, endAt, q394, q388, q382]
                have G15 : Str Z h423 x424 [] := hT ▸ S423
                refine Ww.aload (pc' := 276) C at_274 rfl rfl rfl ?_
                refine Ww.callV (pc' := 279) C at_276 (a := x424) (fun vm0 C => (strLen C hw hs O423 (Wn := 0) G15 (by decide) (by decide))) (pureC (P := fun v => v = some (.int (Int32.ofNat ([] : List Int32).length))) O423) (fun v h' q => Or.inl q.2) S423.exa (w55 hw) (w31 hw) (fun vm0 hZ0 => notFace_of_selects (args := #[]) (mvT (s := W.s.setVm vm0) hZ0 (w33 hw))) (w33 hw) (w32 hw) (by decide) (argsL := []) (st := []) rfl rfl (lenOf pd5 rfl) rfl (Nat.le_of_eq rfl) (k' := 8) rfl (n' := 26) rfl (by decide) (by decide) rfl ?_
                intro r425 h426 Q426 O426
                obtain ⟨rfl, e427⟩ := Q426
                obtain rfl := e427.symm
                refine Ww.iload (pc' := 281) C at_279 rfl rfl ?_
                refine Ww.icmp_ne C at_281 (by decide) (pcT := 288) (by decide) (pc' := 284) rfl (fun q => absurd rfl q) (fun q428 => ?_)
                refine Ww.iconst (pc' := 285) C at_284 (v := (1 : Int32)) rfl rfl ?_
                refine Ww.goto C at_285 (by decide) (pc' := 289) (by decide) ?_
                refine Ww.istore (pc' := 291) C at_289 (Ls' := #[.val (.int p0), .val (.int p1), .val (.int p2), .val (.int p3), .val (.int p4), .val (.int (3 : Int32)), .val (.int c15), .val (.int c19), .val (.int c23), .val (.int c27), .val (.ref a29), .val (.ref a367), .val (.int (3 : Int32)), .val (.int (3 : Int32)), .val (.int (0 : Int32)), .val (.ref x424), .val (.int (1 : Int32))]) rfl rfl ?_
                refine Ww.iload (pc' := 293) C at_291 rfl rfl ?_
                refine Ww.if_eq C at_293 (by decide) (pcT := 322) (by decide) (pc' := 296) rfl (fun q => absurd q (by decide)) (fun q429 => ?_)
                refine Ww.iload (pc' := 298) C at_296 rfl rfl ?_
                refine Ww.if_le C at_298 (by decide) (pcT := 322) (by decide) (pc' := 301) rfl (fun q430 => ?_) (fun q => absurd q (by decide))
                refine Ww.iload (pc' := 324) C at_322 rfl rfl ?_
                refine Ww.if_eq C at_324 (by decide) (pcT := 356) (by decide) (pc' := 327) rfl (fun q => absurd q (by decide)) (fun q431 => ?_)
                refine Ww.iload (pc' := 329) C at_327 rfl rfl ?_
                refine Ww.iconst (pc' := 330) C at_329 (v := (1 : Int32)) rfl rfl ?_
                refine Ww.icmp_le C at_330 (by decide) (pcT := 356) (by decide) (pc' := 333) rfl (fun q432 => ?_) (fun q => absurd q (by decide))
                refine Ww.iload (pc' := 358) C at_356 rfl rfl ?_
                refine Ww.if_eq C at_358 (by decide) (pcT := 390) (by decide) (pc' := 361) rfl (fun q => absurd q (by decide)) (fun q433 => ?_)
                refine Ww.iload (pc' := 363) C at_361 rfl rfl ?_
                refine Ww.iconst (pc' := 364) C at_363 (v := (2 : Int32)) rfl rfl ?_
                refine Ww.icmp_le C at_364 (by decide) (pcT := 390) (by decide) (pc' := 367) rfl (fun q434 => ?_) (fun q => absurd q (by decide))
                refine Ww.iload (pc' := 392) C at_390 rfl rfl ?_
                refine Ww.if_eq C at_392 (by decide) (pcT := 424) (by decide) (pc' := 395) rfl (fun q => absurd q (by decide)) (fun q435 => ?_)
                refine Ww.iload (pc' := 397) C at_395 rfl rfl ?_
                refine Ww.iconst (pc' := 398) C at_397 (v := (3 : Int32)) rfl rfl ?_
                refine Ww.icmp_le C at_398 (by decide) (pcT := 424) (by decide) (pc' := 401) rfl (fun q436 => ?_) (fun q => absurd q (by decide))
                refine Ww.iload (pc' := 426) C at_424 rfl rfl ?_
                exact Ww.retNar (ty := .boolean) C hE (by simp) at_426 rfl (by decide) (by decide) rfl
              · -- space: False
                exact absurd q382 q412
            · -- space: False
              exact absurd q388 q406
          · -- space: False
            exact absurd q394 q400
        · -- space: False
          refine Ww.if_ne C at_176 (by decide) (pcT := 182) (by decide) (pc' := 179) rfl (fun q => absurd q (by decide)) (fun q437 => ?_)
          refine Ww.iconst (pc' := 180) C at_179 (v := (0 : Int32)) rfl rfl ?_
          refine Ww.istore (pc' := 182) C at_180 (Ls' := #[.val (.int p0), .val (.int p1), .val (.int p2), .val (.int p3), .val (.int p4), .val (.int (3 : Int32)), .val (.int c15), .val (.int c19), .val (.int c23), .val (.int c27), .val (.ref a29), .val (.ref a367), .val (.int (0 : Int32)), .unset, .unset, .unset, .unset]) rfl rfl ?_
          refine Ww.iload (pc' := 184) C at_182 rfl rfl ?_
          refine Ww.istore (pc' := 186) C at_184 (Ls' := #[.val (.int p0), .val (.int p1), .val (.int p2), .val (.int p3), .val (.int p4), .val (.int (3 : Int32)), .val (.int c15), .val (.int c19), .val (.int c23), .val (.int c27), .val (.ref a29), .val (.ref a367), .val (.int (0 : Int32)), .val (.int (0 : Int32)), .unset, .unset, .unset]) rfl rfl ?_
          refine Ww.iload (pc' := 188) C at_186 rfl rfl ?_
          refine Ww.if_le C at_188 (by decide) (pcT := 202) (by decide) (pc' := 191) rfl (fun q => absurd q (by decide)) (fun q438 => ?_)
          refine Ww.iload (pc' := 193) C at_191 rfl rfl ?_
          refine Ww.callS (pc' := 196) C at_193 (fun vm0 C => (Wk.Con.pays C (Wn := 0) (own_sp l hw O375 c15) (w58 hw) (w2 hw) (by decide) (by decide))) Wk.cleanC (fun v h' q => Or.inl q.2) (w56 hw) (w57 hw) (w2 hw) (w58 hw) (by decide) (argsL := [(.int c15)]) (st := []) rfl rfl (lenOf pd14 rfl) rfl (Nat.le_of_eq rfl) (k' := 2) rfl (n' := 7) rfl (by decide) (by decide) rfl ?_
          intro r439 h440 Q440 O440
          obtain ⟨q442, e441⟩ := Q440
          obtain rfl := e441.symm
          rcases q442 with ⟨rfl, q442⟩ | ⟨rfl, q442⟩
          · -- space: True
            exact absurd q442 q394
          · -- space: False
            refine Ww.if_ne C at_196 (by decide) (pcT := 202) (by decide) (pc' := 199) rfl (fun q => absurd q (by decide)) (fun q443 => ?_)
            refine Ww.iconst (pc' := 200) C at_199 (v := (1 : Int32)) rfl rfl ?_
            refine Ww.istore (pc' := 202) C at_200 (Ls' := #[.val (.int p0), .val (.int p1), .val (.int p2), .val (.int p3), .val (.int p4), .val (.int (3 : Int32)), .val (.int c15), .val (.int c19), .val (.int c23), .val (.int c27), .val (.ref a29), .val (.ref a367), .val (.int (0 : Int32)), .val (.int (1 : Int32)), .unset, .unset, .unset]) rfl rfl ?_
            refine Ww.iload (pc' := 204) C at_202 rfl rfl ?_
            refine Ww.iconst (pc' := 205) C at_204 (v := (1 : Int32)) rfl rfl ?_
            refine Ww.icmp_le C at_205 (by decide) (pcT := 219) (by decide) (pc' := 208) rfl (fun q => absurd q (by decide)) (fun q444 => ?_)
            refine Ww.iload (pc' := 210) C at_208 rfl rfl ?_
            refine Ww.callS (pc' := 213) C at_210 (fun vm0 C => (Wk.Con.pays C (Wn := 0) (own_sp l hw O375 c19) (w58 hw) (w2 hw) (by decide) (by decide))) Wk.cleanC (fun v h' q => Or.inl q.2) (w56 hw) (w57 hw) (w2 hw) (w58 hw) (by decide) (argsL := [(.int c19)]) (st := []) rfl rfl (lenOf pd14 rfl) rfl (Nat.le_of_eq rfl) (k' := 2) rfl (n' := 7) rfl (by decide) (by decide) rfl ?_
            intro r445 h446 Q446 O446
            obtain ⟨q448, e447⟩ := Q446
            obtain rfl := e447.symm
            rcases q448 with ⟨rfl, q448⟩ | ⟨rfl, q448⟩
            · -- space: True
              refine Ww.if_ne C at_213 (by decide) (pcT := 219) (by decide) (pc' := 216) rfl (fun q449 => ?_) (fun q => absurd q (by decide))
              refine Ww.iload (pc' := 221) C at_219 rfl rfl ?_
              refine Ww.iconst (pc' := 222) C at_221 (v := (2 : Int32)) rfl rfl ?_
              refine Ww.icmp_le C at_222 (by decide) (pcT := 236) (by decide) (pc' := 225) rfl (fun q => absurd q (by decide)) (fun q450 => ?_)
              refine Ww.iload (pc' := 227) C at_225 rfl rfl ?_
              refine Ww.callS (pc' := 230) C at_227 (fun vm0 C => (Wk.Con.pays C (Wn := 0) (own_sp l hw O375 c23) (w58 hw) (w2 hw) (by decide) (by decide))) Wk.cleanC (fun v h' q => Or.inl q.2) (w56 hw) (w57 hw) (w2 hw) (w58 hw) (by decide) (argsL := [(.int c23)]) (st := []) rfl rfl (lenOf pd14 rfl) rfl (Nat.le_of_eq rfl) (k' := 2) rfl (n' := 7) rfl (by decide) (by decide) rfl ?_
              intro r451 h452 Q452 O452
              obtain ⟨q454, e453⟩ := Q452
              obtain rfl := e453.symm
              rcases q454 with ⟨rfl, q454⟩ | ⟨rfl, q454⟩
              · -- space: True
                refine Ww.if_ne C at_230 (by decide) (pcT := 236) (by decide) (pc' := 233) rfl (fun q455 => ?_) (fun q => absurd q (by decide))
                refine Ww.iload (pc' := 238) C at_236 rfl rfl ?_
                refine Ww.iconst (pc' := 239) C at_238 (v := (3 : Int32)) rfl rfl ?_
                refine Ww.icmp_le C at_239 (by decide) (pcT := 253) (by decide) (pc' := 242) rfl (fun q456 => ?_) (fun q => absurd q (by decide))
                refine Ww.iload (pc' := 255) C at_253 rfl rfl ?_
                refine Ww.iload (pc' := 257) C at_255 rfl rfl ?_
                refine Ww.isub (pc' := 258) C at_257 (v := (1 : Int32)) (by decide) rfl ?_
                refine Ww.istore (pc' := 260) C at_258 (Ls' := #[.val (.int p0), .val (.int p1), .val (.int p2), .val (.int p3), .val (.int p4), .val (.int (3 : Int32)), .val (.int c15), .val (.int c19), .val (.int c23), .val (.int c27), .val (.ref a29), .val (.ref a367), .val (.int (0 : Int32)), .val (.int (1 : Int32)), .val (.int (1 : Int32)), .unset, .unset]) rfl rfl ?_
                refine Ww.newO (pc' := 263) C at_260 (w5 hw) (w6 hw) (w7 hw) (k' := 3) rfl (n' := 11) rfl (by decide) (by decide) rfl ?_
                intro a457 h458 ga457 za457 E458 Aa457 Da457 Ua457 O458
                have F459 : Fld Z h458 a457 "java/lang/String" "value" "[B" .null := Da457 (Or.inr (w20 hw)) (ty := (.array .byte)) (by decide)
                have F460 : Fld Z h458 a457 "java/lang/String" "coder" "B" (.int (0 : Int32)) := Da457 (Or.inr (w21 hw)) (ty := .byte) (by decide)
                refine Ww.dup (pc' := 264) C at_263 rfl rfl ?_
                refine Ww.aload (pc' := 266) C at_264 rfl rfl rfl ?_
                have hp461 : ∀ c ∈ ([c15, c19, c23] : List Int32), ¬ c < 0 ∧ ¬ (255 : Int32) < c := (List.forall_mem_cons.mpr ⟨rc15, (List.forall_mem_cons.mpr ⟨rc19, (List.forall_mem_cons.mpr ⟨rc23, (fun _ h => nomatch h)⟩)⟩)⟩)
                refine Ww.callI (pc' := 269) C at_266 (a := a457) (fun vm0 C => (strNew C hw hs O458 (cs := [c15, c19, c23]) (n := 3) (Wn := 1) za457 Aa457 F459 F460 (V375.ext E458) rfl (by decide) (by decide) hp461 (by decide) (by decide))) (strNewC (n := 3) O458 za457 rfl (by decide) hp461) (fun v h' q => Or.inr (Or.inr ⟨a457, (List.mem_of_getElem? (i := 0) rfl), q.2.1⟩)) rfl (w8 hw) (w9 hw) (w10 hw) (by decide) (argsL := [(.ref a367)]) (st := [(.ref a457)]) rfl rfl (lenOf pd12 rfl) rfl (Nat.le_of_eq rfl) (k' := 4) rfl (n' := 14) rfl (by decide) (by decide) rfl ?_
                intro r462 h463 Q463 O463
                obtain ⟨rfl, Kh463, Sh463⟩ := Q463
                refine Ww.callSS (pc' := 272) C at_269 (Ww.Con.pays hE (Wn := 0) (own_wos l hw hE O463 hs a457 [c15, c19, c23] Sh463 (show _ ≤ 4 from Nat.le_of_ble_eq_true rfl)) (w29 hw) (w28 hw) (by decide) (by decide)) Wk.cleanC (w26 hw) (w27 hw) (w28 hw) (w29 hw) (by decide) (argsL := [(.ref a457)]) (st := []) rfl rfl (lenOf pd13 rfl) rfl (Nat.le_of_eq rfl) (k' := 8) rfl (n' := 26) rfl (by decide) (by decide) rfl ?_
                intro r464 h465 Q465 O465
                obtain ⟨x466, rfl, E465, S465⟩ := Q465
                refine Ww.astore (pc' := 274) C at_272 rfl (Ls' := #[.val (.int p0), .val (.int p1), .val (.int p2), .val (.int p3), .val (.int p4), .val (.int (3 : Int32)), .val (.int c15), .val (.int c19), .val (.int c23), .val (.int c27), .val (.ref a29), .val (.ref a367), .val (.int (0 : Int32)), .val (.int (1 : Int32)), .val (.int (1 : Int32)), .val (.ref x466), .unset]) rfl rfl ?_
                have hT : trim [c15, c19, c23] = [c15] := by simp [trim, lead, endAt, q394, q388, q382]
                have G15 : Str Z h465 x466 [c15] := hT ▸ S465
                refine Ww.aload (pc' := 276) C at_274 rfl rfl rfl ?_
                refine Ww.callV (pc' := 279) C at_276 (a := x466) (fun vm0 C => (strLen C hw hs O465 (Wn := 0) G15 (by decide) (by decide))) (pureC (P := fun v => v = some (.int (Int32.ofNat ([c15] : List Int32).length))) O465) (fun v h' q => Or.inl q.2) S465.exa (w55 hw) (w31 hw) (fun vm0 hZ0 => notFace_of_selects (args := #[]) (mvT (s := W.s.setVm vm0) hZ0 (w33 hw))) (w33 hw) (w32 hw) (by decide) (argsL := []) (st := []) rfl rfl (lenOf pd5 rfl) rfl (Nat.le_of_eq rfl) (k' := 8) rfl (n' := 26) rfl (by decide) (by decide) rfl ?_
                intro r467 h468 Q468 O468
                obtain ⟨rfl, e469⟩ := Q468
                obtain rfl := e469.symm
                refine Ww.iload (pc' := 281) C at_279 rfl rfl ?_
                refine Ww.icmp_ne C at_281 (by decide) (pcT := 288) (by decide) (pc' := 284) rfl (fun q => absurd rfl q) (fun q470 => ?_)
                refine Ww.iconst (pc' := 285) C at_284 (v := (1 : Int32)) rfl rfl ?_
                refine Ww.goto C at_285 (by decide) (pc' := 289) (by decide) ?_
                refine Ww.istore (pc' := 291) C at_289 (Ls' := #[.val (.int p0), .val (.int p1), .val (.int p2), .val (.int p3), .val (.int p4), .val (.int (3 : Int32)), .val (.int c15), .val (.int c19), .val (.int c23), .val (.int c27), .val (.ref a29), .val (.ref a367), .val (.int (0 : Int32)), .val (.int (1 : Int32)), .val (.int (1 : Int32)), .val (.ref x466), .val (.int (1 : Int32))]) rfl rfl ?_
                refine Ww.iload (pc' := 293) C at_291 rfl rfl ?_
                refine Ww.if_eq C at_293 (by decide) (pcT := 322) (by decide) (pc' := 296) rfl (fun q => absurd q (by decide)) (fun q471 => ?_)
                refine Ww.iload (pc' := 298) C at_296 rfl rfl ?_
                refine Ww.if_le C at_298 (by decide) (pcT := 322) (by decide) (pc' := 301) rfl (fun q => absurd q (by decide)) (fun q472 => ?_)
                refine Ww.aload (pc' := 303) C at_301 rfl rfl rfl ?_
                refine Ww.iconst (pc' := 304) C at_303 (v := (0 : Int32)) rfl rfl ?_
                refine Ww.callV (pc' := 307) C at_304 (a := x466) (fun vm0 C => (strAt C hw hs O465 (Wn := 0) (i := 0) G15 (show _ < _ from Nat.le_of_ble_eq_true rfl) rfl (by decide) (by decide))) (pureC (P := fun v => v = some (.int (([c15] : List Int32).getD 0 0))) O465) (fun v h' q => Or.inl q.2) S465.exa (w114 hw) (w70 hw) (fun vm0 hZ0 => notFace_of_selects (args := #[]) (mvT (s := W.s.setVm vm0) hZ0 (w72 hw))) (w72 hw) (w71 hw) (by decide) (argsL := [(.int (0 : Int32))]) (st := []) rfl rfl (lenOf pd10 rfl) rfl (Nat.le_of_eq rfl) (k' := 8) rfl (n' := 26) rfl (by decide) (by decide) rfl ?_
                intro r473 h474 Q474 O474
                obtain ⟨rfl, e475⟩ := Q474
                obtain rfl := e475.symm
                refine Ww.aload (pc' := 309) C at_307 rfl rfl rfl ?_
                refine Ww.iload (pc' := 311) C at_309 rfl rfl ?_
                have X476 : Ext h35 h371 := Wk.Ext.wr (Z := Z) E368 W371 (Nat.le_of_eq ga367.symm)
                have X477 : Ext h35 h373 := Wk.Ext.wr (Z := Z) X476 W373 (Nat.le_of_eq ga367.symm)
                have X478 : Ext h35 h375 := Wk.Ext.wr (Z := Z) X477 W375 (Nat.le_of_eq ga367.symm)
                have X479 : Ext h35 h458 := Wk.Ext.trans X478 E458
                have X480 : Ext h35 h463 := Wk.Ext.keep1 (Z := Z) X479 Kh463 (Nat.le_trans X478.1 (Nat.le_of_eq ga457.symm))
                have X481 : Ext h35 h465 := Wk.Ext.trans X480 E465
                refine Ww.caload (pc' := 312) C at_311 (V35.ext X481) (by decide) (v := (.int c15)) rfl rfl ?_
                refine Ww.icmp_ne C at_312 (by decide) (pcT := 319) (by decide) (pc' := 315) rfl (fun q => absurd rfl q) (fun q482 => ?_)
                refine Ww.iconst (pc' := 316) C at_315 (v := (1 : Int32)) rfl rfl ?_
                refine Ww.goto C at_316 (by decide) (pc' := 320) (by decide) ?_
                refine Ww.istore (pc' := 322) C at_320 (Ls' := #[.val (.int p0), .val (.int p1), .val (.int p2), .val (.int p3), .val (.int p4), .val (.int (3 : Int32)), .val (.int c15), .val (.int c19), .val (.int c23), .val (.int c27), .val (.ref a29), .val (.ref a367), .val (.int (0 : Int32)), .val (.int (1 : Int32)), .val (.int (1 : Int32)), .val (.ref x466), .val (.int (1 : Int32))]) rfl rfl ?_
                refine Ww.iload (pc' := 324) C at_322 rfl rfl ?_
                refine Ww.if_eq C at_324 (by decide) (pcT := 356) (by decide) (pc' := 327) rfl (fun q => absurd q (by decide)) (fun q483 => ?_)
                refine Ww.iload (pc' := 329) C at_327 rfl rfl ?_
                refine Ww.iconst (pc' := 330) C at_329 (v := (1 : Int32)) rfl rfl ?_
                refine Ww.icmp_le C at_330 (by decide) (pcT := 356) (by decide) (pc' := 333) rfl (fun q484 => ?_) (fun q => absurd q (by decide))
                refine Ww.iload (pc' := 358) C at_356 rfl rfl ?_
                refine Ww.if_eq C at_358 (by decide) (pcT := 390) (by decide) (pc' := 361) rfl (fun q => absurd q (by decide)) (fun q485 => ?_)
                refine Ww.iload (pc' := 363) C at_361 rfl rfl ?_
                refine Ww.iconst (pc' := 364) C at_363 (v := (2 : Int32)) rfl rfl ?_
                refine Ww.icmp_le C at_364 (by decide) (pcT := 390) (by decide) (pc' := 367) rfl (fun q486 => ?_) (fun q => absurd q (by decide))
                refine Ww.iload (pc' := 392) C at_390 rfl rfl ?_
                refine Ww.if_eq C at_392 (by decide) (pcT := 424) (by decide) (pc' := 395) rfl (fun q => absurd q (by decide)) (fun q487 => ?_)
                refine Ww.iload (pc' := 397) C at_395 rfl rfl ?_
                refine Ww.iconst (pc' := 398) C at_397 (v := (3 : Int32)) rfl rfl ?_
                refine Ww.icmp_le C at_398 (by decide) (pcT := 424) (by decide) (pc' := 401) rfl (fun q488 => ?_) (fun q => absurd q (by decide))
                refine Ww.iload (pc' := 426) C at_424 rfl rfl ?_
                exact Ww.retNar (ty := .boolean) C hE (by simp) at_426 rfl (by decide) (by decide) rfl
              · -- space: False
                exact absurd q382 q454
            · -- space: False
              exact absurd q388 q448
      · -- space: False
        refine Ww.if_ne C at_160 (by decide) (pcT := 166) (by decide) (pc' := 163) rfl (fun q => absurd q (by decide)) (fun q489 => ?_)
        refine Ww.iconst (pc' := 164) C at_163 (v := (1 : Int32)) rfl rfl ?_
        refine Ww.istore (pc' := 166) C at_164 (Ls' := #[.val (.int p0), .val (.int p1), .val (.int p2), .val (.int p3), .val (.int p4), .val (.int (3 : Int32)), .val (.int c15), .val (.int c19), .val (.int c23), .val (.int c27), .val (.ref a29), .val (.ref a367), .val (.int (1 : Int32)), .unset, .unset, .unset, .unset]) rfl rfl ?_
        refine Ww.iload (pc' := 168) C at_166 rfl rfl ?_
        refine Ww.if_le C at_168 (by decide) (pcT := 182) (by decide) (pc' := 171) rfl (fun q => absurd q (by decide)) (fun q490 => ?_)
        refine Ww.iload (pc' := 173) C at_171 rfl rfl ?_
        refine Ww.callS (pc' := 176) C at_173 (fun vm0 C => (Wk.Con.pays C (Wn := 0) (own_sp l hw O375 c15) (w58 hw) (w2 hw) (by decide) (by decide))) Wk.cleanC (fun v h' q => Or.inl q.2) (w56 hw) (w57 hw) (w2 hw) (w58 hw) (by decide) (argsL := [(.int c15)]) (st := []) rfl rfl (lenOf pd14 rfl) rfl (Nat.le_of_eq rfl) (k' := 2) rfl (n' := 7) rfl (by decide) (by decide) rfl ?_
        intro r491 h492 Q492 O492
        obtain ⟨q494, e493⟩ := Q492
        obtain rfl := e493.symm
        rcases q494 with ⟨rfl, q494⟩ | ⟨rfl, q494⟩
        · -- space: True
          refine Ww.if_ne C at_176 (by decide) (pcT := 182) (by decide) (pc' := 179) rfl (fun q495 => ?_) (fun q => absurd q (by decide))
          refine Ww.iload (pc' := 184) C at_182 rfl rfl ?_
          refine Ww.istore (pc' := 186) C at_184 (Ls' := #[.val (.int p0), .val (.int p1), .val (.int p2), .val (.int p3), .val (.int p4), .val (.int (3 : Int32)), .val (.int c15), .val (.int c19), .val (.int c23), .val (.int c27), .val (.ref a29), .val (.ref a367), .val (.int (1 : Int32)), .val (.int (1 : Int32)), .unset, .unset, .unset]) rfl rfl ?_
          refine Ww.iload (pc' := 188) C at_186 rfl rfl ?_
          refine Ww.if_le C at_188 (by decide) (pcT := 202) (by decide) (pc' := 191) rfl (fun q => absurd q (by decide)) (fun q496 => ?_)
          refine Ww.iload (pc' := 193) C at_191 rfl rfl ?_
          refine Ww.callS (pc' := 196) C at_193 (fun vm0 C => (Wk.Con.pays C (Wn := 0) (own_sp l hw O375 c15) (w58 hw) (w2 hw) (by decide) (by decide))) Wk.cleanC (fun v h' q => Or.inl q.2) (w56 hw) (w57 hw) (w2 hw) (w58 hw) (by decide) (argsL := [(.int c15)]) (st := []) rfl rfl (lenOf pd14 rfl) rfl (Nat.le_of_eq rfl) (k' := 2) rfl (n' := 7) rfl (by decide) (by decide) rfl ?_
          intro r497 h498 Q498 O498
          obtain ⟨q500, e499⟩ := Q498
          obtain rfl := e499.symm
          rcases q500 with ⟨rfl, q500⟩ | ⟨rfl, q500⟩
          · -- space: True
            refine Ww.if_ne C at_196 (by decide) (pcT := 202) (by decide) (pc' := 199) rfl (fun q501 => ?_) (fun q => absurd q (by decide))
            refine Ww.iload (pc' := 204) C at_202 rfl rfl ?_
            refine Ww.iconst (pc' := 205) C at_204 (v := (1 : Int32)) rfl rfl ?_
            refine Ww.icmp_le C at_205 (by decide) (pcT := 219) (by decide) (pc' := 208) rfl (fun q => absurd q (by decide)) (fun q502 => ?_)
            refine Ww.iload (pc' := 210) C at_208 rfl rfl ?_
            refine Ww.callS (pc' := 213) C at_210 (fun vm0 C => (Wk.Con.pays C (Wn := 0) (own_sp l hw O375 c19) (w58 hw) (w2 hw) (by decide) (by decide))) Wk.cleanC (fun v h' q => Or.inl q.2) (w56 hw) (w57 hw) (w2 hw) (w58 hw) (by decide) (argsL := [(.int c19)]) (st := []) rfl rfl (lenOf pd14 rfl) rfl (Nat.le_of_eq rfl) (k' := 2) rfl (n' := 7) rfl (by decide) (by decide) rfl ?_
            intro r503 h504 Q504 O504
            obtain ⟨q506, e505⟩ := Q504
            obtain rfl := e505.symm
            rcases q506 with ⟨rfl, q506⟩ | ⟨rfl, q506⟩
            · -- space: True
              exact absurd q506 q388
            · -- space: False
              refine Ww.if_ne C at_213 (by decide) (pcT := 219) (by decide) (pc' := 216) rfl (fun q => absurd q (by decide)) (fun q507 => ?_)
              refine Ww.iconst (pc' := 217) C at_216 (v := (2 : Int32)) rfl rfl ?_
              refine Ww.istore (pc' := 219) C at_217 (Ls' := #[.val (.int p0), .val (.int p1), .val (.int p2), .val (.int p3), .val (.int p4), .val (.int (3 : Int32)), .val (.int c15), .val (.int c19), .val (.int c23), .val (.int c27), .val (.ref a29), .val (.ref a367), .val (.int (1 : Int32)), .val (.int (2 : Int32)), .unset, .unset, .unset]) rfl rfl ?_
              refine Ww.iload (pc' := 221) C at_219 rfl rfl ?_
              refine Ww.iconst (pc' := 222) C at_221 (v := (2 : Int32)) rfl rfl ?_
              refine Ww.icmp_le C at_222 (by decide) (pcT := 236) (by decide) (pc' := 225) rfl (fun q => absurd q (by decide)) (fun q508 => ?_)
              refine Ww.iload (pc' := 227) C at_225 rfl rfl ?_
              refine Ww.callS (pc' := 230) C at_227 (fun vm0 C => (Wk.Con.pays C (Wn := 0) (own_sp l hw O375 c23) (w58 hw) (w2 hw) (by decide) (by decide))) Wk.cleanC (fun v h' q => Or.inl q.2) (w56 hw) (w57 hw) (w2 hw) (w58 hw) (by decide) (argsL := [(.int c23)]) (st := []) rfl rfl (lenOf pd14 rfl) rfl (Nat.le_of_eq rfl) (k' := 2) rfl (n' := 7) rfl (by decide) (by decide) rfl ?_
              intro r509 h510 Q510 O510
              obtain ⟨q512, e511⟩ := Q510
              obtain rfl := e511.symm
              rcases q512 with ⟨rfl, q512⟩ | ⟨rfl, q512⟩
              · -- space: True
                refine Ww.if_ne C at_230 (by decide) (pcT := 236) (by decide) (pc' := 233) rfl (fun q513 => ?_) (fun q => absurd q (by decide))
                refine Ww.iload (pc' := 238) C at_236 rfl rfl ?_
                refine Ww.iconst (pc' := 239) C at_238 (v := (3 : Int32)) rfl rfl ?_
                refine Ww.icmp_le C at_239 (by decide) (pcT := 253) (by decide) (pc' := 242) rfl (fun q514 => ?_) (fun q => absurd q (by decide))
                refine Ww.iload (pc' := 255) C at_253 rfl rfl ?_
                refine Ww.iload (pc' := 257) C at_255 rfl rfl ?_
                refine Ww.isub (pc' := 258) C at_257 (v := (1 : Int32)) (by decide) rfl ?_
                refine Ww.istore (pc' := 260) C at_258 (Ls' := #[.val (.int p0), .val (.int p1), .val (.int p2), .val (.int p3), .val (.int p4), .val (.int (3 : Int32)), .val (.int c15), .val (.int c19), .val (.int c23), .val (.int c27), .val (.ref a29), .val (.ref a367), .val (.int (1 : Int32)), .val (.int (2 : Int32)), .val (.int (1 : Int32)), .unset, .unset]) rfl rfl ?_
                refine Ww.newO (pc' := 263) C at_260 (w5 hw) (w6 hw) (w7 hw) (k' := 3) rfl (n' := 11) rfl (by decide) (by decide) rfl ?_
                intro a515 h516 ga515 za515 E516 Aa515 Da515 Ua515 O516
                have F517 : Fld Z h516 a515 "java/lang/String" "value" "[B" .null := Da515 (Or.inr (w20 hw)) (ty := (.array .byte)) (by decide)
                have F518 : Fld Z h516 a515 "java/lang/String" "coder" "B" (.int (0 : Int32)) := Da515 (Or.inr (w21 hw)) (ty := .byte) (by decide)
                refine Ww.dup (pc' := 264) C at_263 rfl rfl ?_
                refine Ww.aload (pc' := 266) C at_264 rfl rfl rfl ?_
                have hp519 : ∀ c ∈ ([c15, c19, c23] : List Int32), ¬ c < 0 ∧ ¬ (255 : Int32) < c := (List.forall_mem_cons.mpr ⟨rc15, (List.forall_mem_cons.mpr ⟨rc19, (List.forall_mem_cons.mpr ⟨rc23, (fun _ h => nomatch h)⟩)⟩)⟩)
                refine Ww.callI (pc' := 269) C at_266 (a := a515) (fun vm0 C => (strNew C hw hs O516 (cs := [c15, c19, c23]) (n := 3) (Wn := 1) za515 Aa515 F517 F518 (V375.ext E516) rfl (by decide) (by decide) hp519 (by decide) (by decide))) (strNewC (n := 3) O516 za515 rfl (by decide) hp519) (fun v h' q => Or.inr (Or.inr ⟨a515, (List.mem_of_getElem? (i := 0) rfl), q.2.1⟩)) rfl (w8 hw) (w9 hw) (w10 hw) (by decide) (argsL := [(.ref a367)]) (st := [(.ref a515)]) rfl rfl (lenOf pd12 rfl) rfl (Nat.le_of_eq rfl) (k' := 4) rfl (n' := 14) rfl (by decide) (by decide) rfl ?_
                intro r520 h521 Q521 O521
                obtain ⟨rfl, Kh521, Sh521⟩ := Q521
                refine Ww.callSS (pc' := 272) C at_269 (Ww.Con.pays hE (Wn := 0) (own_wos l hw hE O521 hs a515 [c15, c19, c23] Sh521 (show _ ≤ 4 from Nat.le_of_ble_eq_true rfl)) (w29 hw) (w28 hw) (by decide) (by decide)) Wk.cleanC (w26 hw) (w27 hw) (w28 hw) (w29 hw) (by decide) (argsL := [(.ref a515)]) (st := []) rfl rfl (lenOf pd13 rfl) rfl (Nat.le_of_eq rfl) (k' := 8) rfl (n' := 26) rfl (by decide) (by decide) rfl ?_
                intro r522 h523 Q523 O523
                obtain ⟨x524, rfl, E523, S523⟩ := Q523
                refine Ww.astore (pc' := 274) C at_272 rfl (Ls' := #[.val (.int p0), .val (.int p1), .val (.int p2), .val (.int p3), .val (.int p4), .val (.int (3 : Int32)), .val (.int c15), .val (.int c19), .val (.int c23), .val (.int c27), .val (.ref a29), .val (.ref a367), .val (.int (1 : Int32)), .val (.int (2 : Int32)), .val (.int (1 : Int32)), .val (.ref x524), .unset]) rfl rfl ?_
                have hT : trim [c15, c19, c23] = [c19] := by simp [trim, lead, endAt, q494, q388, q382]
                have G15 : Str Z h523 x524 [c19] := hT ▸ S523
                refine Ww.aload (pc' := 276) C at_274 rfl rfl rfl ?_
                refine Ww.callV (pc' := 279) C at_276 (a := x524) (fun vm0 C => (strLen C hw hs O523 (Wn := 0) G15 (by decide) (by decide))) (pureC (P := fun v => v = some (.int (Int32.ofNat ([c19] : List Int32).length))) O523) (fun v h' q => Or.inl q.2) S523.exa (w55 hw) (w31 hw) (fun vm0 hZ0 => notFace_of_selects (args := #[]) (mvT (s := W.s.setVm vm0) hZ0 (w33 hw))) (w33 hw) (w32 hw) (by decide) (argsL := []) (st := []) rfl rfl (lenOf pd5 rfl) rfl (Nat.le_of_eq rfl) (k' := 8) rfl (n' := 26) rfl (by decide) (by decide) rfl ?_
                intro r525 h526 Q526 O526
                obtain ⟨rfl, e527⟩ := Q526
                obtain rfl := e527.symm
                refine Ww.iload (pc' := 281) C at_279 rfl rfl ?_
                refine Ww.icmp_ne C at_281 (by decide) (pcT := 288) (by decide) (pc' := 284) rfl (fun q => absurd rfl q) (fun q528 => ?_)
                refine Ww.iconst (pc' := 285) C at_284 (v := (1 : Int32)) rfl rfl ?_
                refine Ww.goto C at_285 (by decide) (pc' := 289) (by decide) ?_
                refine Ww.istore (pc' := 291) C at_289 (Ls' := #[.val (.int p0), .val (.int p1), .val (.int p2), .val (.int p3), .val (.int p4), .val (.int (3 : Int32)), .val (.int c15), .val (.int c19), .val (.int c23), .val (.int c27), .val (.ref a29), .val (.ref a367), .val (.int (1 : Int32)), .val (.int (2 : Int32)), .val (.int (1 : Int32)), .val (.ref x524), .val (.int (1 : Int32))]) rfl rfl ?_
                refine Ww.iload (pc' := 293) C at_291 rfl rfl ?_
                refine Ww.if_eq C at_293 (by decide) (pcT := 322) (by decide) (pc' := 296) rfl (fun q => absurd q (by decide)) (fun q529 => ?_)
                refine Ww.iload (pc' := 298) C at_296 rfl rfl ?_
                refine Ww.if_le C at_298 (by decide) (pcT := 322) (by decide) (pc' := 301) rfl (fun q => absurd q (by decide)) (fun q530 => ?_)
                refine Ww.aload (pc' := 303) C at_301 rfl rfl rfl ?_
                refine Ww.iconst (pc' := 304) C at_303 (v := (0 : Int32)) rfl rfl ?_
                refine Ww.callV (pc' := 307) C at_304 (a := x524) (fun vm0 C => (strAt C hw hs O523 (Wn := 0) (i := 0) G15 (show _ < _ from Nat.le_of_ble_eq_true rfl) rfl (by decide) (by decide))) (pureC (P := fun v => v = some (.int (([c19] : List Int32).getD 0 0))) O523) (fun v h' q => Or.inl q.2) S523.exa (w114 hw) (w70 hw) (fun vm0 hZ0 => notFace_of_selects (args := #[]) (mvT (s := W.s.setVm vm0) hZ0 (w72 hw))) (w72 hw) (w71 hw) (by decide) (argsL := [(.int (0 : Int32))]) (st := []) rfl rfl (lenOf pd10 rfl) rfl (Nat.le_of_eq rfl) (k' := 8) rfl (n' := 26) rfl (by decide) (by decide) rfl ?_
                intro r531 h532 Q532 O532
                obtain ⟨rfl, e533⟩ := Q532
                obtain rfl := e533.symm
                refine Ww.aload (pc' := 309) C at_307 rfl rfl rfl ?_
                refine Ww.iload (pc' := 311) C at_309 rfl rfl ?_
                have X534 : Ext h35 h371 := Wk.Ext.wr (Z := Z) E368 W371 (Nat.le_of_eq ga367.symm)
                have X535 : Ext h35 h373 := Wk.Ext.wr (Z := Z) X534 W373 (Nat.le_of_eq ga367.symm)
                have X536 : Ext h35 h375 := Wk.Ext.wr (Z := Z) X535 W375 (Nat.le_of_eq ga367.symm)
                have X537 : Ext h35 h516 := Wk.Ext.trans X536 E516
                have X538 : Ext h35 h521 := Wk.Ext.keep1 (Z := Z) X537 Kh521 (Nat.le_trans X536.1 (Nat.le_of_eq ga515.symm))
                have X539 : Ext h35 h523 := Wk.Ext.trans X538 E523
                refine Ww.caload (pc' := 312) C at_311 (V35.ext X539) (by decide) (v := (.int c19)) rfl rfl ?_
                refine Ww.icmp_ne C at_312 (by decide) (pcT := 319) (by decide) (pc' := 315) rfl (fun q => absurd rfl q) (fun q540 => ?_)
                refine Ww.iconst (pc' := 316) C at_315 (v := (1 : Int32)) rfl rfl ?_
                refine Ww.goto C at_316 (by decide) (pc' := 320) (by decide) ?_
                refine Ww.istore (pc' := 322) C at_320 (Ls' := #[.val (.int p0), .val (.int p1), .val (.int p2), .val (.int p3), .val (.int p4), .val (.int (3 : Int32)), .val (.int c15), .val (.int c19), .val (.int c23), .val (.int c27), .val (.ref a29), .val (.ref a367), .val (.int (1 : Int32)), .val (.int (2 : Int32)), .val (.int (1 : Int32)), .val (.ref x524), .val (.int (1 : Int32))]) rfl rfl ?_
                refine Ww.iload (pc' := 324) C at_322 rfl rfl ?_
                refine Ww.if_eq C at_324 (by decide) (pcT := 356) (by decide) (pc' := 327) rfl (fun q => absurd q (by decide)) (fun q541 => ?_)
                refine Ww.iload (pc' := 329) C at_327 rfl rfl ?_
                refine Ww.iconst (pc' := 330) C at_329 (v := (1 : Int32)) rfl rfl ?_
                refine Ww.icmp_le C at_330 (by decide) (pcT := 356) (by decide) (pc' := 333) rfl (fun q542 => ?_) (fun q => absurd q (by decide))
                refine Ww.iload (pc' := 358) C at_356 rfl rfl ?_
                refine Ww.if_eq C at_358 (by decide) (pcT := 390) (by decide) (pc' := 361) rfl (fun q => absurd q (by decide)) (fun q543 => ?_)
                refine Ww.iload (pc' := 363) C at_361 rfl rfl ?_
                refine Ww.iconst (pc' := 364) C at_363 (v := (2 : Int32)) rfl rfl ?_
                refine Ww.icmp_le C at_364 (by decide) (pcT := 390) (by decide) (pc' := 367) rfl (fun q544 => ?_) (fun q => absurd q (by decide))
                refine Ww.iload (pc' := 392) C at_390 rfl rfl ?_
                refine Ww.if_eq C at_392 (by decide) (pcT := 424) (by decide) (pc' := 395) rfl (fun q => absurd q (by decide)) (fun q545 => ?_)
                refine Ww.iload (pc' := 397) C at_395 rfl rfl ?_
                refine Ww.iconst (pc' := 398) C at_397 (v := (3 : Int32)) rfl rfl ?_
                refine Ww.icmp_le C at_398 (by decide) (pcT := 424) (by decide) (pc' := 401) rfl (fun q546 => ?_) (fun q => absurd q (by decide))
                refine Ww.iload (pc' := 426) C at_424 rfl rfl ?_
                exact Ww.retNar (ty := .boolean) C hE (by simp) at_426 rfl (by decide) (by decide) rfl
              · -- space: False
                exact absurd q382 q512
          · -- space: False
            exact absurd q494 q500
        · -- space: False
          refine Ww.if_ne C at_176 (by decide) (pcT := 182) (by decide) (pc' := 179) rfl (fun q => absurd q (by decide)) (fun q547 => ?_)
          refine Ww.iconst (pc' := 180) C at_179 (v := (0 : Int32)) rfl rfl ?_
          refine Ww.istore (pc' := 182) C at_180 (Ls' := #[.val (.int p0), .val (.int p1), .val (.int p2), .val (.int p3), .val (.int p4), .val (.int (3 : Int32)), .val (.int c15), .val (.int c19), .val (.int c23), .val (.int c27), .val (.ref a29), .val (.ref a367), .val (.int (0 : Int32)), .unset, .unset, .unset, .unset]) rfl rfl ?_
          refine Ww.iload (pc' := 184) C at_182 rfl rfl ?_
          refine Ww.istore (pc' := 186) C at_184 (Ls' := #[.val (.int p0), .val (.int p1), .val (.int p2), .val (.int p3), .val (.int p4), .val (.int (3 : Int32)), .val (.int c15), .val (.int c19), .val (.int c23), .val (.int c27), .val (.ref a29), .val (.ref a367), .val (.int (0 : Int32)), .val (.int (0 : Int32)), .unset, .unset, .unset]) rfl rfl ?_
          refine Ww.iload (pc' := 188) C at_186 rfl rfl ?_
          refine Ww.if_le C at_188 (by decide) (pcT := 202) (by decide) (pc' := 191) rfl (fun q => absurd q (by decide)) (fun q548 => ?_)
          refine Ww.iload (pc' := 193) C at_191 rfl rfl ?_
          refine Ww.callS (pc' := 196) C at_193 (fun vm0 C => (Wk.Con.pays C (Wn := 0) (own_sp l hw O375 c15) (w58 hw) (w2 hw) (by decide) (by decide))) Wk.cleanC (fun v h' q => Or.inl q.2) (w56 hw) (w57 hw) (w2 hw) (w58 hw) (by decide) (argsL := [(.int c15)]) (st := []) rfl rfl (lenOf pd14 rfl) rfl (Nat.le_of_eq rfl) (k' := 2) rfl (n' := 7) rfl (by decide) (by decide) rfl ?_
          intro r549 h550 Q550 O550
          obtain ⟨q552, e551⟩ := Q550
          obtain rfl := e551.symm
          rcases q552 with ⟨rfl, q552⟩ | ⟨rfl, q552⟩
          · -- space: True
            exact absurd q552 q494
          · -- space: False
            refine Ww.if_ne C at_196 (by decide) (pcT := 202) (by decide) (pc' := 199) rfl (fun q => absurd q (by decide)) (fun q553 => ?_)
            refine Ww.iconst (pc' := 200) C at_199 (v := (1 : Int32)) rfl rfl ?_
            refine Ww.istore (pc' := 202) C at_200 (Ls' := #[.val (.int p0), .val (.int p1), .val (.int p2), .val (.int p3), .val (.int p4), .val (.int (3 : Int32)), .val (.int c15), .val (.int c19), .val (.int c23), .val (.int c27), .val (.ref a29), .val (.ref a367), .val (.int (0 : Int32)), .val (.int (1 : Int32)), .unset, .unset, .unset]) rfl rfl ?_
            refine Ww.iload (pc' := 204) C at_202 rfl rfl ?_
            refine Ww.iconst (pc' := 205) C at_204 (v := (1 : Int32)) rfl rfl ?_
            refine Ww.icmp_le C at_205 (by decide) (pcT := 219) (by decide) (pc' := 208) rfl (fun q => absurd q (by decide)) (fun q554 => ?_)
            refine Ww.iload (pc' := 210) C at_208 rfl rfl ?_
            refine Ww.callS (pc' := 213) C at_210 (fun vm0 C => (Wk.Con.pays C (Wn := 0) (own_sp l hw O375 c19) (w58 hw) (w2 hw) (by decide) (by decide))) Wk.cleanC (fun v h' q => Or.inl q.2) (w56 hw) (w57 hw) (w2 hw) (w58 hw) (by decide) (argsL := [(.int c19)]) (st := []) rfl rfl (lenOf pd14 rfl) rfl (Nat.le_of_eq rfl) (k' := 2) rfl (n' := 7) rfl (by decide) (by decide) rfl ?_
            intro r555 h556 Q556 O556
            obtain ⟨q558, e557⟩ := Q556
            obtain rfl := e557.symm
            rcases q558 with ⟨rfl, q558⟩ | ⟨rfl, q558⟩
            · -- space: True
              exact absurd q558 q388
            · -- space: False
              refine Ww.if_ne C at_213 (by decide) (pcT := 219) (by decide) (pc' := 216) rfl (fun q => absurd q (by decide)) (fun q559 => ?_)
              refine Ww.iconst (pc' := 217) C at_216 (v := (2 : Int32)) rfl rfl ?_
              refine Ww.istore (pc' := 219) C at_217 (Ls' := #[.val (.int p0), .val (.int p1), .val (.int p2), .val (.int p3), .val (.int p4), .val (.int (3 : Int32)), .val (.int c15), .val (.int c19), .val (.int c23), .val (.int c27), .val (.ref a29), .val (.ref a367), .val (.int (0 : Int32)), .val (.int (2 : Int32)), .unset, .unset, .unset]) rfl rfl ?_
              refine Ww.iload (pc' := 221) C at_219 rfl rfl ?_
              refine Ww.iconst (pc' := 222) C at_221 (v := (2 : Int32)) rfl rfl ?_
              refine Ww.icmp_le C at_222 (by decide) (pcT := 236) (by decide) (pc' := 225) rfl (fun q => absurd q (by decide)) (fun q560 => ?_)
              refine Ww.iload (pc' := 227) C at_225 rfl rfl ?_
              refine Ww.callS (pc' := 230) C at_227 (fun vm0 C => (Wk.Con.pays C (Wn := 0) (own_sp l hw O375 c23) (w58 hw) (w2 hw) (by decide) (by decide))) Wk.cleanC (fun v h' q => Or.inl q.2) (w56 hw) (w57 hw) (w2 hw) (w58 hw) (by decide) (argsL := [(.int c23)]) (st := []) rfl rfl (lenOf pd14 rfl) rfl (Nat.le_of_eq rfl) (k' := 2) rfl (n' := 7) rfl (by decide) (by decide) rfl ?_
              intro r561 h562 Q562 O562
              obtain ⟨q564, e563⟩ := Q562
              obtain rfl := e563.symm
              rcases q564 with ⟨rfl, q564⟩ | ⟨rfl, q564⟩
              · -- space: True
                refine Ww.if_ne C at_230 (by decide) (pcT := 236) (by decide) (pc' := 233) rfl (fun q565 => ?_) (fun q => absurd q (by decide))
                refine Ww.iload (pc' := 238) C at_236 rfl rfl ?_
                refine Ww.iconst (pc' := 239) C at_238 (v := (3 : Int32)) rfl rfl ?_
                refine Ww.icmp_le C at_239 (by decide) (pcT := 253) (by decide) (pc' := 242) rfl (fun q566 => ?_) (fun q => absurd q (by decide))
                refine Ww.iload (pc' := 255) C at_253 rfl rfl ?_
                refine Ww.iload (pc' := 257) C at_255 rfl rfl ?_
                refine Ww.isub (pc' := 258) C at_257 (v := (2 : Int32)) (by decide) rfl ?_
                refine Ww.istore (pc' := 260) C at_258 (Ls' := #[.val (.int p0), .val (.int p1), .val (.int p2), .val (.int p3), .val (.int p4), .val (.int (3 : Int32)), .val (.int c15), .val (.int c19), .val (.int c23), .val (.int c27), .val (.ref a29), .val (.ref a367), .val (.int (0 : Int32)), .val (.int (2 : Int32)), .val (.int (2 : Int32)), .unset, .unset]) rfl rfl ?_
                refine Ww.newO (pc' := 263) C at_260 (w5 hw) (w6 hw) (w7 hw) (k' := 3) rfl (n' := 11) rfl (by decide) (by decide) rfl ?_
                intro a567 h568 ga567 za567 E568 Aa567 Da567 Ua567 O568
                have F569 : Fld Z h568 a567 "java/lang/String" "value" "[B" .null := Da567 (Or.inr (w20 hw)) (ty := (.array .byte)) (by decide)
                have F570 : Fld Z h568 a567 "java/lang/String" "coder" "B" (.int (0 : Int32)) := Da567 (Or.inr (w21 hw)) (ty := .byte) (by decide)
                refine Ww.dup (pc' := 264) C at_263 rfl rfl ?_
                refine Ww.aload (pc' := 266) C at_264 rfl rfl rfl ?_
                have hp571 : ∀ c ∈ ([c15, c19, c23] : List Int32), ¬ c < 0 ∧ ¬ (255 : Int32) < c := (List.forall_mem_cons.mpr ⟨rc15, (List.forall_mem_cons.mpr ⟨rc19, (List.forall_mem_cons.mpr ⟨rc23, (fun _ h => nomatch h)⟩)⟩)⟩)
                refine Ww.callI (pc' := 269) C at_266 (a := a567) (fun vm0 C => (strNew C hw hs O568 (cs := [c15, c19, c23]) (n := 3) (Wn := 1) za567 Aa567 F569 F570 (V375.ext E568) rfl (by decide) (by decide) hp571 (by decide) (by decide))) (strNewC (n := 3) O568 za567 rfl (by decide) hp571) (fun v h' q => Or.inr (Or.inr ⟨a567, (List.mem_of_getElem? (i := 0) rfl), q.2.1⟩)) rfl (w8 hw) (w9 hw) (w10 hw) (by decide) (argsL := [(.ref a367)]) (st := [(.ref a567)]) rfl rfl (lenOf pd12 rfl) rfl (Nat.le_of_eq rfl) (k' := 4) rfl (n' := 14) rfl (by decide) (by decide) rfl ?_
                intro r572 h573 Q573 O573
                obtain ⟨rfl, Kh573, Sh573⟩ := Q573
                refine Ww.callSS (pc' := 272) C at_269 (Ww.Con.pays hE (Wn := 0) (own_wos l hw hE O573 hs a567 [c15, c19, c23] Sh573 (show _ ≤ 4 from Nat.le_of_ble_eq_true rfl)) (w29 hw) (w28 hw) (by decide) (by decide)) Wk.cleanC (w26 hw) (w27 hw) (w28 hw) (w29 hw) (by decide) (argsL := [(.ref a567)]) (st := []) rfl rfl (lenOf pd13 rfl) rfl (Nat.le_of_eq rfl) (k' := 8) rfl (n' := 26) rfl (by decide) (by decide) rfl ?_
                intro r574 h575 Q575 O575
                obtain ⟨x576, rfl, E575, S575⟩ := Q575
                refine Ww.astore (pc' := 274) C at_272 rfl (Ls' := #[.val (.int p0), .val (.int p1), .val (.int p2), .val (.int p3), .val (.int p4), .val (.int (3 : Int32)), .val (.int c15), .val (.int c19), .val (.int c23), .val (.int c27), .val (.ref a29), .val (.ref a367), .val (.int (0 : Int32)), .val (.int (2 : Int32)), .val (.int (2 : Int32)), .val (.ref x576), .unset]) rfl rfl ?_
                have hT : trim [c15, c19, c23] = [c15, c19] := by simp [trim, lead, endAt, q494, q388, q382]
                have G15 : Str Z h575 x576 [c15, c19] := hT ▸ S575
                refine Ww.aload (pc' := 276) C at_274 rfl rfl rfl ?_
                refine Ww.callV (pc' := 279) C at_276 (a := x576) (fun vm0 C => (strLen C hw hs O575 (Wn := 0) G15 (by decide) (by decide))) (pureC (P := fun v => v = some (.int (Int32.ofNat ([c15, c19] : List Int32).length))) O575) (fun v h' q => Or.inl q.2) S575.exa (w55 hw) (w31 hw) (fun vm0 hZ0 => notFace_of_selects (args := #[]) (mvT (s := W.s.setVm vm0) hZ0 (w33 hw))) (w33 hw) (w32 hw) (by decide) (argsL := []) (st := []) rfl rfl (lenOf pd5 rfl) rfl (Nat.le_of_eq rfl) (k' := 8) rfl (n' := 26) rfl (by decide) (by decide) rfl ?_
                intro r577 h578 Q578 O578
                obtain ⟨rfl, e579⟩ := Q578
                obtain rfl := e579.symm
                refine Ww.iload (pc' := 281) C at_279 rfl rfl ?_
                refine Ww.icmp_ne C at_281 (by decide) (pcT := 288) (by decide) (pc' := 284) rfl (fun q => absurd rfl q) (fun q580 => ?_)
                refine Ww.iconst (pc' := 285) C at_284 (v := (1 : Int32)) rfl rfl ?_
                refine Ww.goto C at_285 (by decide) (pc' := 289) (by decide) ?_
                refine Ww.istore (pc' := 291) C at_289 (Ls' := #[.val (.int p0), .val (.int p1), .val (.int p2), .val (.int p3), .val (.int p4), .val (.int (3 : Int32)), .val (.int c15), .val (.int c19), .val (.int c23), .val (.int c27), .val (.ref a29), .val (.ref a367), .val (.int (0 : Int32)), .val (.int (2 : Int32)), .val (.int (2 : Int32)), .val (.ref x576), .val (.int (1 : Int32))]) rfl rfl ?_
                refine Ww.iload (pc' := 293) C at_291 rfl rfl ?_
                refine Ww.if_eq C at_293 (by decide) (pcT := 322) (by decide) (pc' := 296) rfl (fun q => absurd q (by decide)) (fun q581 => ?_)
                refine Ww.iload (pc' := 298) C at_296 rfl rfl ?_
                refine Ww.if_le C at_298 (by decide) (pcT := 322) (by decide) (pc' := 301) rfl (fun q => absurd q (by decide)) (fun q582 => ?_)
                refine Ww.aload (pc' := 303) C at_301 rfl rfl rfl ?_
                refine Ww.iconst (pc' := 304) C at_303 (v := (0 : Int32)) rfl rfl ?_
                refine Ww.callV (pc' := 307) C at_304 (a := x576) (fun vm0 C => (strAt C hw hs O575 (Wn := 0) (i := 0) G15 (show _ < _ from Nat.le_of_ble_eq_true rfl) rfl (by decide) (by decide))) (pureC (P := fun v => v = some (.int (([c15, c19] : List Int32).getD 0 0))) O575) (fun v h' q => Or.inl q.2) S575.exa (w114 hw) (w70 hw) (fun vm0 hZ0 => notFace_of_selects (args := #[]) (mvT (s := W.s.setVm vm0) hZ0 (w72 hw))) (w72 hw) (w71 hw) (by decide) (argsL := [(.int (0 : Int32))]) (st := []) rfl rfl (lenOf pd10 rfl) rfl (Nat.le_of_eq rfl) (k' := 8) rfl (n' := 26) rfl (by decide) (by decide) rfl ?_
                intro r583 h584 Q584 O584
                obtain ⟨rfl, e585⟩ := Q584
                obtain rfl := e585.symm
                refine Ww.aload (pc' := 309) C at_307 rfl rfl rfl ?_
                refine Ww.iload (pc' := 311) C at_309 rfl rfl ?_
                have X586 : Ext h35 h371 := Wk.Ext.wr (Z := Z) E368 W371 (Nat.le_of_eq ga367.symm)
                have X587 : Ext h35 h373 := Wk.Ext.wr (Z := Z) X586 W373 (Nat.le_of_eq ga367.symm)
                have X588 : Ext h35 h375 := Wk.Ext.wr (Z := Z) X587 W375 (Nat.le_of_eq ga367.symm)
                have X589 : Ext h35 h568 := Wk.Ext.trans X588 E568
                have X590 : Ext h35 h573 := Wk.Ext.keep1 (Z := Z) X589 Kh573 (Nat.le_trans X588.1 (Nat.le_of_eq ga567.symm))
                have X591 : Ext h35 h575 := Wk.Ext.trans X590 E575
                refine Ww.caload (pc' := 312) C at_311 (V35.ext X591) (by decide) (v := (.int c15)) rfl rfl ?_
                refine Ww.icmp_ne C at_312 (by decide) (pcT := 319) (by decide) (pc' := 315) rfl (fun q => absurd rfl q) (fun q592 => ?_)
                refine Ww.iconst (pc' := 316) C at_315 (v := (1 : Int32)) rfl rfl ?_
                refine Ww.goto C at_316 (by decide) (pc' := 320) (by decide) ?_
                refine Ww.istore (pc' := 322) C at_320 (Ls' := #[.val (.int p0), .val (.int p1), .val (.int p2), .val (.int p3), .val (.int p4), .val (.int (3 : Int32)), .val (.int c15), .val (.int c19), .val (.int c23), .val (.int c27), .val (.ref a29), .val (.ref a367), .val (.int (0 : Int32)), .val (.int (2 : Int32)), .val (.int (2 : Int32)), .val (.ref x576), .val (.int (1 : Int32))]) rfl rfl ?_
                refine Ww.iload (pc' := 324) C at_322 rfl rfl ?_
                refine Ww.if_eq C at_324 (by decide) (pcT := 356) (by decide) (pc' := 327) rfl (fun q => absurd q (by decide)) (fun q593 => ?_)
                refine Ww.iload (pc' := 329) C at_327 rfl rfl ?_
                refine Ww.iconst (pc' := 330) C at_329 (v := (1 : Int32)) rfl rfl ?_
                refine Ww.icmp_le C at_330 (by decide) (pcT := 356) (by decide) (pc' := 333) rfl (fun q => absurd q (by decide)) (fun q594 => ?_)
                refine Ww.aload (pc' := 335) C at_333 rfl rfl rfl ?_
                refine Ww.iconst (pc' := 336) C at_335 (v := (1 : Int32)) rfl rfl ?_
                refine Ww.callV (pc' := 339) C at_336 (a := x576) (fun vm0 C => (strAt C hw hs O575 (Wn := 0) (i := 1) G15 (show _ < _ from Nat.le_of_ble_eq_true rfl) rfl (by decide) (by decide))) (pureC (P := fun v => v = some (.int (([c15, c19] : List Int32).getD 1 0))) O575) (fun v h' q => Or.inl q.2) S575.exa (w114 hw) (w70 hw) (fun vm0 hZ0 => notFace_of_selects (args := #[]) (mvT (s := W.s.setVm vm0) hZ0 (w72 hw))) (w72 hw) (w71 hw) (by decide) (argsL := [(.int (1 : Int32))]) (st := []) rfl rfl (lenOf pd10 rfl) rfl (Nat.le_of_eq rfl) (k' := 8) rfl (n' := 26) rfl (by decide) (by decide) rfl ?_
                intro r595 h596 Q596 O596
                obtain ⟨rfl, e597⟩ := Q596
                obtain rfl := e597.symm
                refine Ww.aload (pc' := 341) C at_339 rfl rfl rfl ?_
                refine Ww.iload (pc' := 343) C at_341 rfl rfl ?_
                refine Ww.iconst (pc' := 344) C at_343 (v := (1 : Int32)) rfl rfl ?_
                refine Ww.iadd (pc' := 345) C at_344 (v := (1 : Int32)) (by decide) rfl ?_
                refine Ww.caload (pc' := 346) C at_345 (V35.ext X591) (by decide) (v := (.int c19)) rfl rfl ?_
                refine Ww.icmp_ne C at_346 (by decide) (pcT := 353) (by decide) (pc' := 349) rfl (fun q => absurd rfl q) (fun q598 => ?_)
                refine Ww.iconst (pc' := 350) C at_349 (v := (1 : Int32)) rfl rfl ?_
                refine Ww.goto C at_350 (by decide) (pc' := 354) (by decide) ?_
                refine Ww.istore (pc' := 356) C at_354 (Ls' := #[.val (.int p0), .val (.int p1), .val (.int p2), .val (.int p3), .val (.int p4), .val (.int (3 : Int32)), .val (.int c15), .val (.int c19), .val (.int c23), .val (.int c27), .val (.ref a29), .val (.ref a367), .val (.int (0 : Int32)), .val (.int (2 : Int32)), .val (.int (2 : Int32)), .val (.ref x576), .val (.int (1 : Int32))]) rfl rfl ?_
                refine Ww.iload (pc' := 358) C at_356 rfl rfl ?_
                refine Ww.if_eq C at_358 (by decide) (pcT := 390) (by decide) (pc' := 361) rfl (fun q => absurd q (by decide)) (fun q599 => ?_)
                refine Ww.iload (pc' := 363) C at_361 rfl rfl ?_
                refine Ww.iconst (pc' := 364) C at_363 (v := (2 : Int32)) rfl rfl ?_
                refine Ww.icmp_le C at_364 (by decide) (pcT := 390) (by decide) (pc' := 367) rfl (fun q600 => ?_) (fun q => absurd q (by decide))
                refine Ww.iload (pc' := 392) C at_390 rfl rfl ?_
                refine Ww.if_eq C at_392 (by decide) (pcT := 424) (by decide) (pc' := 395) rfl (fun q => absurd q (by decide)) (fun q601 => ?_)
                refine Ww.iload (pc' := 397) C at_395 rfl rfl ?_
                refine Ww.iconst (pc' := 398) C at_397 (v := (3 : Int32)) rfl rfl ?_
                refine Ww.icmp_le C at_398 (by decide) (pcT := 424) (by decide) (pc' := 401) rfl (fun q602 => ?_) (fun q => absurd q (by decide))
                refine Ww.iload (pc' := 426) C at_424 rfl rfl ?_
                exact Ww.retNar (ty := .boolean) C hE (by simp) at_426 rfl (by decide) (by decide) rfl
              · -- space: False
                exact absurd q382 q564
    · -- space: False
      refine Ww.if_ne C at_143 (by decide) (pcT := 149) (by decide) (pc' := 146) rfl (fun q => absurd q (by decide)) (fun q603 => ?_)
      refine Ww.iconst (pc' := 147) C at_146 (v := (2 : Int32)) rfl rfl ?_
      refine Ww.istore (pc' := 149) C at_147 (Ls' := #[.val (.int p0), .val (.int p1), .val (.int p2), .val (.int p3), .val (.int p4), .val (.int (3 : Int32)), .val (.int c15), .val (.int c19), .val (.int c23), .val (.int c27), .val (.ref a29), .val (.ref a367), .val (.int (2 : Int32)), .unset, .unset, .unset, .unset]) rfl rfl ?_
      refine Ww.iload (pc' := 151) C at_149 rfl rfl ?_
      refine Ww.iconst (pc' := 152) C at_151 (v := (1 : Int32)) rfl rfl ?_
      refine Ww.icmp_le C at_152 (by decide) (pcT := 166) (by decide) (pc' := 155) rfl (fun q => absurd q (by decide)) (fun q604 => ?_)
      refine Ww.iload (pc' := 157) C at_155 rfl rfl ?_
      refine Ww.callS (pc' := 160) C at_157 (fun vm0 C => (Wk.Con.pays C (Wn := 0) (own_sp l hw O375 c19) (w58 hw) (w2 hw) (by decide) (by decide))) Wk.cleanC (fun v h' q => Or.inl q.2) (w56 hw) (w57 hw) (w2 hw) (w58 hw) (by decide) (argsL := [(.int c19)]) (st := []) rfl rfl (lenOf pd14 rfl) rfl (Nat.le_of_eq rfl) (k' := 2) rfl (n' := 7) rfl (by decide) (by decide) rfl ?_
      intro r605 h606 Q606 O606
      obtain ⟨q608, e607⟩ := Q606
      obtain rfl := e607.symm
      rcases q608 with ⟨rfl, q608⟩ | ⟨rfl, q608⟩
      · -- space: True
        refine Ww.if_ne C at_160 (by decide) (pcT := 166) (by decide) (pc' := 163) rfl (fun q609 => ?_) (fun q => absurd q (by decide))
        refine Ww.iload (pc' := 168) C at_166 rfl rfl ?_
        refine Ww.if_le C at_168 (by decide) (pcT := 182) (by decide) (pc' := 171) rfl (fun q => absurd q (by decide)) (fun q610 => ?_)
        refine Ww.iload (pc' := 173) C at_171 rfl rfl ?_
        refine Ww.callS (pc' := 176) C at_173 (fun vm0 C => (Wk.Con.pays C (Wn := 0) (own_sp l hw O375 c15) (w58 hw) (w2 hw) (by decide) (by decide))) Wk.cleanC (fun v h' q => Or.inl q.2) (w56 hw) (w57 hw) (w2 hw) (w58 hw) (by decide) (argsL := [(.int c15)]) (st := []) rfl rfl (lenOf pd14 rfl) rfl (Nat.le_of_eq rfl) (k' := 2) rfl (n' := 7) rfl (by decide) (by decide) rfl ?_
        intro r611 h612 Q612 O612
        obtain ⟨q614, e613⟩ := Q612
        obtain rfl := e613.symm
        rcases q614 with ⟨rfl, q614⟩ | ⟨rfl, q614⟩
        · -- space: True
          refine Ww.if_ne C at_176 (by decide) (pcT := 182) (by decide) (pc' := 179) rfl (fun q615 => ?_) (fun q => absurd q (by decide))
          refine Ww.iload (pc' := 184) C at_182 rfl rfl ?_
          refine Ww.istore (pc' := 186) C at_184 (Ls' := #[.val (.int p0), .val (.int p1), .val (.int p2), .val (.int p3), .val (.int p4), .val (.int (3 : Int32)), .val (.int c15), .val (.int c19), .val (.int c23), .val (.int c27), .val (.ref a29), .val (.ref a367), .val (.int (2 : Int32)), .val (.int (2 : Int32)), .unset, .unset, .unset]) rfl rfl ?_
          refine Ww.iload (pc' := 188) C at_186 rfl rfl ?_
          refine Ww.if_le C at_188 (by decide) (pcT := 202) (by decide) (pc' := 191) rfl (fun q => absurd q (by decide)) (fun q616 => ?_)
          refine Ww.iload (pc' := 193) C at_191 rfl rfl ?_
          refine Ww.callS (pc' := 196) C at_193 (fun vm0 C => (Wk.Con.pays C (Wn := 0) (own_sp l hw O375 c15) (w58 hw) (w2 hw) (by decide) (by decide))) Wk.cleanC (fun v h' q => Or.inl q.2) (w56 hw) (w57 hw) (w2 hw) (w58 hw) (by decide) (argsL := [(.int c15)]) (st := []) rfl rfl (lenOf pd14 rfl) rfl (Nat.le_of_eq rfl) (k' := 2) rfl (n' := 7) rfl (by decide) (by decide) rfl ?_
          intro r617 h618 Q618 O618
          obtain ⟨q620, e619⟩ := Q618
          obtain rfl := e619.symm
          rcases q620 with ⟨rfl, q620⟩ | ⟨rfl, q620⟩
          · -- space: True
            refine Ww.if_ne C at_196 (by decide) (pcT := 202) (by decide) (pc' := 199) rfl (fun q621 => ?_) (fun q => absurd q (by decide))
            refine Ww.iload (pc' := 204) C at_202 rfl rfl ?_
            refine Ww.iconst (pc' := 205) C at_204 (v := (1 : Int32)) rfl rfl ?_
            refine Ww.icmp_le C at_205 (by decide) (pcT := 219) (by decide) (pc' := 208) rfl (fun q => absurd q (by decide)) (fun q622 => ?_)
            refine Ww.iload (pc' := 210) C at_208 rfl rfl ?_
            refine Ww.callS (pc' := 213) C at_210 (fun vm0 C => (Wk.Con.pays C (Wn := 0) (own_sp l hw O375 c19) (w58 hw) (w2 hw) (by decide) (by decide))) Wk.cleanC (fun v h' q => Or.inl q.2) (w56 hw) (w57 hw) (w2 hw) (w58 hw) (by decide) (argsL := [(.int c19)]) (st := []) rfl rfl (lenOf pd14 rfl) rfl (Nat.le_of_eq rfl) (k' := 2) rfl (n' := 7) rfl (by decide) (by decide) rfl ?_
            intro r623 h624 Q624 O624
            obtain ⟨q626, e625⟩ := Q624
            obtain rfl := e625.symm
            rcases q626 with ⟨rfl, q626⟩ | ⟨rfl, q626⟩
            · -- space: True
              refine Ww.if_ne C at_213 (by decide) (pcT := 219) (by decide) (pc' := 216) rfl (fun q627 => ?_) (fun q => absurd q (by decide))
              refine Ww.iload (pc' := 221) C at_219 rfl rfl ?_
              refine Ww.iconst (pc' := 222) C at_221 (v := (2 : Int32)) rfl rfl ?_
              refine Ww.icmp_le C at_222 (by decide) (pcT := 236) (by decide) (pc' := 225) rfl (fun q => absurd q (by decide)) (fun q628 => ?_)
              refine Ww.iload (pc' := 227) C at_225 rfl rfl ?_
              refine Ww.callS (pc' := 230) C at_227 (fun vm0 C => (Wk.Con.pays C (Wn := 0) (own_sp l hw O375 c23) (w58 hw) (w2 hw) (by decide) (by decide))) Wk.cleanC (fun v h' q => Or.inl q.2) (w56 hw) (w57 hw) (w2 hw) (w58 hw) (by decide) (argsL := [(.int c23)]) (st := []) rfl rfl (lenOf pd14 rfl) rfl (Nat.le_of_eq rfl) (k' := 2) rfl (n' := 7) rfl (by decide) (by decide) rfl ?_
              intro r629 h630 Q630 O630
              obtain ⟨q632, e631⟩ := Q630
              obtain rfl := e631.symm
              rcases q632 with ⟨rfl, q632⟩ | ⟨rfl, q632⟩
              · -- space: True
                exact absurd q632 q382
              · -- space: False
                refine Ww.if_ne C at_230 (by decide) (pcT := 236) (by decide) (pc' := 233) rfl (fun q => absurd q (by decide)) (fun q633 => ?_)
                refine Ww.iconst (pc' := 234) C at_233 (v := (3 : Int32)) rfl rfl ?_
                refine Ww.istore (pc' := 236) C at_234 (Ls' := #[.val (.int p0), .val (.int p1), .val (.int p2), .val (.int p3), .val (.int p4), .val (.int (3 : Int32)), .val (.int c15), .val (.int c19), .val (.int c23), .val (.int c27), .val (.ref a29), .val (.ref a367), .val (.int (2 : Int32)), .val (.int (3 : Int32)), .unset, .unset, .unset]) rfl rfl ?_
                refine Ww.iload (pc' := 238) C at_236 rfl rfl ?_
                refine Ww.iconst (pc' := 239) C at_238 (v := (3 : Int32)) rfl rfl ?_
                refine Ww.icmp_le C at_239 (by decide) (pcT := 253) (by decide) (pc' := 242) rfl (fun q634 => ?_) (fun q => absurd q (by decide))
                refine Ww.iload (pc' := 255) C at_253 rfl rfl ?_
                refine Ww.iload (pc' := 257) C at_255 rfl rfl ?_
                refine Ww.isub (pc' := 258) C at_257 (v := (1 : Int32)) (by decide) rfl ?_
                refine Ww.istore (pc' := 260) C at_258 (Ls' := #[.val (.int p0), .val (.int p1), .val (.int p2), .val (.int p3), .val (.int p4), .val (.int (3 : Int32)), .val (.int c15), .val (.int c19), .val (.int c23), .val (.int c27), .val (.ref a29), .val (.ref a367), .val (.int (2 : Int32)), .val (.int (3 : Int32)), .val (.int (1 : Int32)), .unset, .unset]) rfl rfl ?_
                refine Ww.newO (pc' := 263) C at_260 (w5 hw) (w6 hw) (w7 hw) (k' := 3) rfl (n' := 11) rfl (by decide) (by decide) rfl ?_
                intro a635 h636 ga635 za635 E636 Aa635 Da635 Ua635 O636
                have F637 : Fld Z h636 a635 "java/lang/String" "value" "[B" .null := Da635 (Or.inr (w20 hw)) (ty := (.array .byte)) (by decide)
                have F638 : Fld Z h636 a635 "java/lang/String" "coder" "B" (.int (0 : Int32)) := Da635 (Or.inr (w21 hw)) (ty := .byte) (by decide)
                refine Ww.dup (pc' := 264) C at_263 rfl rfl ?_
                refine Ww.aload (pc' := 266) C at_264 rfl rfl rfl ?_
                have hp639 : ∀ c ∈ ([c15, c19, c23] : List Int32), ¬ c < 0 ∧ ¬ (255 : Int32) < c := (List.forall_mem_cons.mpr ⟨rc15, (List.forall_mem_cons.mpr ⟨rc19, (List.forall_mem_cons.mpr ⟨rc23, (fun _ h => nomatch h)⟩)⟩)⟩)
                refine Ww.callI (pc' := 269) C at_266 (a := a635) (fun vm0 C => (strNew C hw hs O636 (cs := [c15, c19, c23]) (n := 3) (Wn := 1) za635 Aa635 F637 F638 (V375.ext E636) rfl (by decide) (by decide) hp639 (by decide) (by decide))) (strNewC (n := 3) O636 za635 rfl (by decide) hp639) (fun v h' q => Or.inr (Or.inr ⟨a635, (List.mem_of_getElem? (i := 0) rfl), q.2.1⟩)) rfl (w8 hw) (w9 hw) (w10 hw) (by decide) (argsL := [(.ref a367)]) (st := [(.ref a635)]) rfl rfl (lenOf pd12 rfl) rfl (Nat.le_of_eq rfl) (k' := 4) rfl (n' := 14) rfl (by decide) (by decide) rfl ?_
                intro r640 h641 Q641 O641
                obtain ⟨rfl, Kh641, Sh641⟩ := Q641
                refine Ww.callSS (pc' := 272) C at_269 (Ww.Con.pays hE (Wn := 0) (own_wos l hw hE O641 hs a635 [c15, c19, c23] Sh641 (show _ ≤ 4 from Nat.le_of_ble_eq_true rfl)) (w29 hw) (w28 hw) (by decide) (by decide)) Wk.cleanC (w26 hw) (w27 hw) (w28 hw) (w29 hw) (by decide) (argsL := [(.ref a635)]) (st := []) rfl rfl (lenOf pd13 rfl) rfl (Nat.le_of_eq rfl) (k' := 8) rfl (n' := 26) rfl (by decide) (by decide) rfl ?_
                intro r642 h643 Q643 O643
                obtain ⟨x644, rfl, E643, S643⟩ := Q643
                refine Ww.astore (pc' := 274) C at_272 rfl (Ls' := #[.val (.int p0), .val (.int p1), .val (.int p2), .val (.int p3), .val (.int p4), .val (.int (3 : Int32)), .val (.int c15), .val (.int c19), .val (.int c23), .val (.int c27), .val (.ref a29), .val (.ref a367), .val (.int (2 : Int32)), .val (.int (3 : Int32)), .val (.int (1 : Int32)), .val (.ref x644), .unset]) rfl rfl ?_
                have hT : trim [c15, c19, c23] = [c23] := by simp [trim, lead, endAt, q614, q608, q382]
                have G15 : Str Z h643 x644 [c23] := hT ▸ S643
                refine Ww.aload (pc' := 276) C at_274 rfl rfl rfl ?_
                refine Ww.callV (pc' := 279) C at_276 (a := x644) (fun vm0 C => (strLen C hw hs O643 (Wn := 0) G15 (by decide) (by decide))) (pureC (P := fun v => v = some (.int (Int32.ofNat ([c23] : List Int32).length))) O643) (fun v h' q => Or.inl q.2) S643.exa (w55 hw) (w31 hw) (fun vm0 hZ0 => notFace_of_selects (args := #[]) (mvT (s := W.s.setVm vm0) hZ0 (w33 hw))) (w33 hw) (w32 hw) (by decide) (argsL := []) (st := []) rfl rfl (lenOf pd5 rfl) rfl (Nat.le_of_eq rfl) (k' := 8) rfl (n' := 26) rfl (by decide) (by decide) rfl ?_
                intro r645 h646 Q646 O646
                obtain ⟨rfl, e647⟩ := Q646
                obtain rfl := e647.symm
                refine Ww.iload (pc' := 281) C at_279 rfl rfl ?_
                refine Ww.icmp_ne C at_281 (by decide) (pcT := 288) (by decide) (pc' := 284) rfl (fun q => absurd rfl q) (fun q648 => ?_)
                refine Ww.iconst (pc' := 285) C at_284 (v := (1 : Int32)) rfl rfl ?_
                refine Ww.goto C at_285 (by decide) (pc' := 289) (by decide) ?_
                refine Ww.istore (pc' := 291) C at_289 (Ls' := #[.val (.int p0), .val (.int p1), .val (.int p2), .val (.int p3), .val (.int p4), .val (.int (3 : Int32)), .val (.int c15), .val (.int c19), .val (.int c23), .val (.int c27), .val (.ref a29), .val (.ref a367), .val (.int (2 : Int32)), .val (.int (3 : Int32)), .val (.int (1 : Int32)), .val (.ref x644), .val (.int (1 : Int32))]) rfl rfl ?_
                refine Ww.iload (pc' := 293) C at_291 rfl rfl ?_
                refine Ww.if_eq C at_293 (by decide) (pcT := 322) (by decide) (pc' := 296) rfl (fun q => absurd q (by decide)) (fun q649 => ?_)
                refine Ww.iload (pc' := 298) C at_296 rfl rfl ?_
                refine Ww.if_le C at_298 (by decide) (pcT := 322) (by decide) (pc' := 301) rfl (fun q => absurd q (by decide)) (fun q650 => ?_)
                refine Ww.aload (pc' := 303) C at_301 rfl rfl rfl ?_
                refine Ww.iconst (pc' := 304) C at_303 (v := (0 : Int32)) rfl rfl ?_
                refine Ww.callV (pc' := 307) C at_304 (a := x644) (fun vm0 C => (strAt C hw hs O643 (Wn := 0) (i := 0) G15 (show _ < _ from Nat.le_of_ble_eq_true rfl) rfl (by decide) (by decide))) (pureC (P := fun v => v = some (.int (([c23] : List Int32).getD 0 0))) O643) (fun v h' q => Or.inl q.2) S643.exa (w114 hw) (w70 hw) (fun vm0 hZ0 => notFace_of_selects (args := #[]) (mvT (s := W.s.setVm vm0) hZ0 (w72 hw))) (w72 hw) (w71 hw) (by decide) (argsL := [(.int (0 : Int32))]) (st := []) rfl rfl (lenOf pd10 rfl) rfl (Nat.le_of_eq rfl) (k' := 8) rfl (n' := 26) rfl (by decide) (by decide) rfl ?_
                intro r651 h652 Q652 O652
                obtain ⟨rfl, e653⟩ := Q652
                obtain rfl := e653.symm
                refine Ww.aload (pc' := 309) C at_307 rfl rfl rfl ?_
                refine Ww.iload (pc' := 311) C at_309 rfl rfl ?_
                have X654 : Ext h35 h371 := Wk.Ext.wr (Z := Z) E368 W371 (Nat.le_of_eq ga367.symm)
                have X655 : Ext h35 h373 := Wk.Ext.wr (Z := Z) X654 W373 (Nat.le_of_eq ga367.symm)
                have X656 : Ext h35 h375 := Wk.Ext.wr (Z := Z) X655 W375 (Nat.le_of_eq ga367.symm)
                have X657 : Ext h35 h636 := Wk.Ext.trans X656 E636
                have X658 : Ext h35 h641 := Wk.Ext.keep1 (Z := Z) X657 Kh641 (Nat.le_trans X656.1 (Nat.le_of_eq ga635.symm))
                have X659 : Ext h35 h643 := Wk.Ext.trans X658 E643
                refine Ww.caload (pc' := 312) C at_311 (V35.ext X659) (by decide) (v := (.int c23)) rfl rfl ?_
                refine Ww.icmp_ne C at_312 (by decide) (pcT := 319) (by decide) (pc' := 315) rfl (fun q => absurd rfl q) (fun q660 => ?_)
                refine Ww.iconst (pc' := 316) C at_315 (v := (1 : Int32)) rfl rfl ?_
                refine Ww.goto C at_316 (by decide) (pc' := 320) (by decide) ?_
                refine Ww.istore (pc' := 322) C at_320 (Ls' := #[.val (.int p0), .val (.int p1), .val (.int p2), .val (.int p3), .val (.int p4), .val (.int (3 : Int32)), .val (.int c15), .val (.int c19), .val (.int c23), .val (.int c27), .val (.ref a29), .val (.ref a367), .val (.int (2 : Int32)), .val (.int (3 : Int32)), .val (.int (1 : Int32)), .val (.ref x644), .val (.int (1 : Int32))]) rfl rfl ?_
                refine Ww.iload (pc' := 324) C at_322 rfl rfl ?_
                refine Ww.if_eq C at_324 (by decide) (pcT := 356) (by decide) (pc' := 327) rfl (fun q => absurd q (by decide)) (fun q661 => ?_)
                refine Ww.iload (pc' := 329) C at_327 rfl rfl ?_
                refine Ww.iconst (pc' := 330) C at_329 (v := (1 : Int32)) rfl rfl ?_
                refine Ww.icmp_le C at_330 (by decide) (pcT := 356) (by decide) (pc' := 333) rfl (fun q662 => ?_) (fun q => absurd q (by decide))
                refine Ww.iload (pc' := 358) C at_356 rfl rfl ?_
                refine Ww.if_eq C at_358 (by decide) (pcT := 390) (by decide) (pc' := 361) rfl (fun q => absurd q (by decide)) (fun q663 => ?_)
                refine Ww.iload (pc' := 363) C at_361 rfl rfl ?_
                refine Ww.iconst (pc' := 364) C at_363 (v := (2 : Int32)) rfl rfl ?_
                refine Ww.icmp_le C at_364 (by decide) (pcT := 390) (by decide) (pc' := 367) rfl (fun q664 => ?_) (fun q => absurd q (by decide))
                refine Ww.iload (pc' := 392) C at_390 rfl rfl ?_
                refine Ww.if_eq C at_392 (by decide) (pcT := 424) (by decide) (pc' := 395) rfl (fun q => absurd q (by decide)) (fun q665 => ?_)
                refine Ww.iload (pc' := 397) C at_395 rfl rfl ?_
                refine Ww.iconst (pc' := 398) C at_397 (v := (3 : Int32)) rfl rfl ?_
                refine Ww.icmp_le C at_398 (by decide) (pcT := 424) (by decide) (pc' := 401) rfl (fun q666 => ?_) (fun q => absurd q (by decide))
                refine Ww.iload (pc' := 426) C at_424 rfl rfl ?_
                exact Ww.retNar (ty := .boolean) C hE (by simp) at_426 rfl (by decide) (by decide) rfl
            · -- space: False
              exact absurd q608 q626
          · -- space: False
            exact absurd q614 q620
        · -- space: False
          refine Ww.if_ne C at_176 (by decide) (pcT := 182) (by decide) (pc' := 179) rfl (fun q => absurd q (by decide)) (fun q667 => ?_)
          refine Ww.iconst (pc' := 180) C at_179 (v := (0 : Int32)) rfl rfl ?_
          refine Ww.istore (pc' := 182) C at_180 (Ls' := #[.val (.int p0), .val (.int p1), .val (.int p2), .val (.int p3), .val (.int p4), .val (.int (3 : Int32)), .val (.int c15), .val (.int c19), .val (.int c23), .val (.int c27), .val (.ref a29), .val (.ref a367), .val (.int (0 : Int32)), .unset, .unset, .unset, .unset]) rfl rfl ?_
          refine Ww.iload (pc' := 184) C at_182 rfl rfl ?_
          refine Ww.istore (pc' := 186) C at_184 (Ls' := #[.val (.int p0), .val (.int p1), .val (.int p2), .val (.int p3), .val (.int p4), .val (.int (3 : Int32)), .val (.int c15), .val (.int c19), .val (.int c23), .val (.int c27), .val (.ref a29), .val (.ref a367), .val (.int (0 : Int32)), .val (.int (0 : Int32)), .unset, .unset, .unset]) rfl rfl ?_
          refine Ww.iload (pc' := 188) C at_186 rfl rfl ?_
          refine Ww.if_le C at_188 (by decide) (pcT := 202) (by decide) (pc' := 191) rfl (fun q => absurd q (by decide)) (fun q668 => ?_)
          refine Ww.iload (pc' := 193) C at_191 rfl rfl ?_
          refine Ww.callS (pc' := 196) C at_193 (fun vm0 C => (Wk.Con.pays C (Wn := 0) (own_sp l hw O375 c15) (w58 hw) (w2 hw) (by decide) (by decide))) Wk.cleanC (fun v h' q => Or.inl q.2) (w56 hw) (w57 hw) (w2 hw) (w58 hw) (by decide) (argsL := [(.int c15)]) (st := []) rfl rfl (lenOf pd14 rfl) rfl (Nat.le_of_eq rfl) (k' := 2) rfl (n' := 7) rfl (by decide) (by decide) rfl ?_
          intro r669 h670 Q670 O670
          obtain ⟨q672, e671⟩ := Q670
          obtain rfl := e671.symm
          rcases q672 with ⟨rfl, q672⟩ | ⟨rfl, q672⟩
          · -- space: True
            exact absurd q672 q614
          · -- space: False
            refine Ww.if_ne C at_196 (by decide) (pcT := 202) (by decide) (pc' := 199) rfl (fun q => absurd q (by decide)) (fun q673 => ?_)
            refine Ww.iconst (pc' := 200) C at_199 (v := (1 : Int32)) rfl rfl ?_
            refine Ww.istore (pc' := 202) C at_200 (Ls' := #[.val (.int p0), .val (.int p1), .val (.int p2), .val (.int p3), .val (.int p4), .val (.int (3 : Int32)), .val (.int c15), .val (.int c19), .val (.int c23), .val (.int c27), .val (.ref a29), .val (.ref a367), .val (.int (0 : Int32)), .val (.int (1 : Int32)), .unset, .unset, .unset]) rfl rfl ?_
            refine Ww.iload (pc' := 204) C at_202 rfl rfl ?_
            refine Ww.iconst (pc' := 205) C at_204 (v := (1 : Int32)) rfl rfl ?_
            refine Ww.icmp_le C at_205 (by decide) (pcT := 219) (by decide) (pc' := 208) rfl (fun q => absurd q (by decide)) (fun q674 => ?_)
            refine Ww.iload (pc' := 210) C at_208 rfl rfl ?_
            refine Ww.callS (pc' := 213) C at_210 (fun vm0 C => (Wk.Con.pays C (Wn := 0) (own_sp l hw O375 c19) (w58 hw) (w2 hw) (by decide) (by decide))) Wk.cleanC (fun v h' q => Or.inl q.2) (w56 hw) (w57 hw) (w2 hw) (w58 hw) (by decide) (argsL := [(.int c19)]) (st := []) rfl rfl (lenOf pd14 rfl) rfl (Nat.le_of_eq rfl) (k' := 2) rfl (n' := 7) rfl (by decide) (by decide) rfl ?_
            intro r675 h676 Q676 O676
            obtain ⟨q678, e677⟩ := Q676
            obtain rfl := e677.symm
            rcases q678 with ⟨rfl, q678⟩ | ⟨rfl, q678⟩
            · -- space: True
              refine Ww.if_ne C at_213 (by decide) (pcT := 219) (by decide) (pc' := 216) rfl (fun q679 => ?_) (fun q => absurd q (by decide))
              refine Ww.iload (pc' := 221) C at_219 rfl rfl ?_
              refine Ww.iconst (pc' := 222) C at_221 (v := (2 : Int32)) rfl rfl ?_
              refine Ww.icmp_le C at_222 (by decide) (pcT := 236) (by decide) (pc' := 225) rfl (fun q => absurd q (by decide)) (fun q680 => ?_)
              refine Ww.iload (pc' := 227) C at_225 rfl rfl ?_
              refine Ww.callS (pc' := 230) C at_227 (fun vm0 C => (Wk.Con.pays C (Wn := 0) (own_sp l hw O375 c23) (w58 hw) (w2 hw) (by decide) (by decide))) Wk.cleanC (fun v h' q => Or.inl q.2) (w56 hw) (w57 hw) (w2 hw) (w58 hw) (by decide) (argsL := [(.int c23)]) (st := []) rfl rfl (lenOf pd14 rfl) rfl (Nat.le_of_eq rfl) (k' := 2) rfl (n' := 7) rfl (by decide) (by decide) rfl ?_
              intro r681 h682 Q682 O682
              obtain ⟨q684, e683⟩ := Q682
              obtain rfl := e683.symm
              rcases q684 with ⟨rfl, q684⟩ | ⟨rfl, q684⟩
              · -- space: True
                exact absurd q684 q382
              · -- space: False
                refine Ww.if_ne C at_230 (by decide) (pcT := 236) (by decide) (pc' := 233) rfl (fun q => absurd q (by decide)) (fun q685 => ?_)
                refine Ww.iconst (pc' := 234) C at_233 (v := (3 : Int32)) rfl rfl ?_
                refine Ww.istore (pc' := 236) C at_234 (Ls' := #[.val (.int p0), .val (.int p1), .val (.int p2), .val (.int p3), .val (.int p4), .val (.int (3 : Int32)), .val (.int c15), .val (.int c19), .val (.int c23), .val (.int c27), .val (.ref a29), .val (.ref a367), .val (.int (0 : Int32)), .val (.int (3 : Int32)), .unset, .unset, .unset]) rfl rfl ?_
                refine Ww.iload (pc' := 238) C at_236 rfl rfl ?_
                refine Ww.iconst (pc' := 239) C at_238 (v := (3 : Int32)) rfl rfl ?_
                refine Ww.icmp_le C at_239 (by decide) (pcT := 253) (by decide) (pc' := 242) rfl (fun q686 => ?_) (fun q => absurd q (by decide))
                refine Ww.iload (pc' := 255) C at_253 rfl rfl ?_
                refine Ww.iload (pc' := 257) C at_255 rfl rfl ?_
                refine Ww.isub (pc' := 258) C at_257 (v := (3 : Int32)) (by decide) rfl ?_
                refine Ww.istore (pc' := 260) C at_258 (Ls' := #[.val (.int p0), .val (.int p1), .val (.int p2), .val (.int p3), .val (.int p4), .val (.int (3 : Int32)), .val (.int c15), .val (.int c19), .val (.int c23), .val (.int c27), .val (.ref a29), .val (.ref a367), .val (.int (0 : Int32)), .val (.int (3 : Int32)), .val (.int (3 : Int32)), .unset, .unset]) rfl rfl ?_
                refine Ww.newO (pc' := 263) C at_260 (w5 hw) (w6 hw) (w7 hw) (k' := 3) rfl (n' := 11) rfl (by decide) (by decide) rfl ?_
                intro a687 h688 ga687 za687 E688 Aa687 Da687 Ua687 O688
                have F689 : Fld Z h688 a687 "java/lang/String" "value" "[B" .null := Da687 (Or.inr (w20 hw)) (ty := (.array .byte)) (by decide)
                have F690 : Fld Z h688 a687 "java/lang/String" "coder" "B" (.int (0 : Int32)) := Da687 (Or.inr (w21 hw)) (ty := .byte) (by decide)
                refine Ww.dup (pc' := 264) C at_263 rfl rfl ?_
                refine Ww.aload (pc' := 266) C at_264 rfl rfl rfl ?_
                have hp691 : ∀ c ∈ ([c15, c19, c23] : List Int32), ¬ c < 0 ∧ ¬ (255 : Int32) < c := (List.forall_mem_cons.mpr ⟨rc15, (List.forall_mem_cons.mpr ⟨rc19, (List.forall_mem_cons.mpr ⟨rc23, (fun _ h => nomatch h)⟩)⟩)⟩)
                refine Ww.callI (pc' := 269) C at_266 (a := a687) (fun vm0 C => (strNew C hw hs O688 (cs := [c15, c19, c23]) (n := 3) (Wn := 1) za687 Aa687 F689 F690 (V375.ext E688) rfl (by decide) (by decide) hp691 (by decide) (by decide))) (strNewC (n := 3) O688 za687 rfl (by decide) hp691) (fun v h' q => Or.inr (Or.inr ⟨a687, (List.mem_of_getElem? (i := 0) rfl), q.2.1⟩)) rfl (w8 hw) (w9 hw) (w10 hw) (by decide) (argsL := [(.ref a367)]) (st := [(.ref a687)]) rfl rfl (lenOf pd12 rfl) rfl (Nat.le_of_eq rfl) (k' := 4) rfl (n' := 14) rfl (by decide) (by decide) rfl ?_
                intro r692 h693 Q693 O693
                obtain ⟨rfl, Kh693, Sh693⟩ := Q693
                refine Ww.callSS (pc' := 272) C at_269 (Ww.Con.pays hE (Wn := 0) (own_wos l hw hE O693 hs a687 [c15, c19, c23] Sh693 (show _ ≤ 4 from Nat.le_of_ble_eq_true rfl)) (w29 hw) (w28 hw) (by decide) (by decide)) Wk.cleanC (w26 hw) (w27 hw) (w28 hw) (w29 hw) (by decide) (argsL := [(.ref a687)]) (st := []) rfl rfl (lenOf pd13 rfl) rfl (Nat.le_of_eq rfl) (k' := 8) rfl (n' := 26) rfl (by decide) (by decide) rfl ?_
                intro r694 h695 Q695 O695
                obtain ⟨x696, rfl, E695, S695⟩ := Q695
                refine Ww.astore (pc' := 274) C at_272 rfl (Ls' := #[.val (.int p0), .val (.int p1), .val (.int p2), .val (.int p3), .val (.int p4), .val (.int (3 : Int32)), .val (.int c15), .val (.int c19), .val (.int c23), .val (.int c27), .val (.ref a29), .val (.ref a367), .val (.int (0 : Int32)), .val (.int (3 : Int32)), .val (.int (3 : Int32)), .val (.ref x696), .unset]) rfl rfl ?_
                have hT : trim [c15, c19, c23] = [c15, c19, c23] := by simp [trim, lead, endAt, q614, q608, q382]
                have G15 : Str Z h695 x696 [c15, c19, c23] := hT ▸ S695
                refine Ww.aload (pc' := 276) C at_274 rfl rfl rfl ?_
                refine Ww.callV (pc' := 279) C at_276 (a := x696) (fun vm0 C => (strLen C hw hs O695 (Wn := 0) G15 (by decide) (by decide))) (pureC (P := fun v => v = some (.int (Int32.ofNat ([c15, c19, c23] : List Int32).length))) O695) (fun v h' q => Or.inl q.2) S695.exa (w55 hw) (w31 hw) (fun vm0 hZ0 => notFace_of_selects (args := #[]) (mvT (s := W.s.setVm vm0) hZ0 (w33 hw))) (w33 hw) (w32 hw) (by decide) (argsL := []) (st := []) rfl rfl (lenOf pd5 rfl) rfl (Nat.le_of_eq rfl) (k' := 8) rfl (n' := 26) rfl (by decide) (by decide) rfl ?_
                intro r697 h698 Q698 O698
                obtain ⟨rfl, e699⟩ := Q698
                obtain rfl := e699.symm
                refine Ww.iload (pc' := 281) C at_279 rfl rfl ?_
                refine Ww.icmp_ne C at_281 (by decide) (pcT := 288) (by decide) (pc' := 284) rfl (fun q => absurd rfl q) (fun q700 => ?_)
                refine Ww.iconst (pc' := 285) C at_284 (v := (1 : Int32)) rfl rfl ?_
                refine Ww.goto C at_285 (by decide) (pc' := 289) (by decide) ?_
                refine Ww.istore (pc' := 291) C at_289 (Ls' := #[.val (.int p0), .val (.int p1), .val (.int p2), .val (.int p3), .val (.int p4), .val (.int (3 : Int32)), .val (.int c15), .val (.int c19), .val (.int c23), .val (.int c27), .val (.ref a29), .val (.ref a367), .val (.int (0 : Int32)), .val (.int (3 : Int32)), .val (.int (3 : Int32)), .val (.ref x696), .val (.int (1 : Int32))]) rfl rfl ?_
                refine Ww.iload (pc' := 293) C at_291 rfl rfl ?_
                refine Ww.if_eq C at_293 (by decide) (pcT := 322) (by decide) (pc' := 296) rfl (fun q => absurd q (by decide)) (fun q701 => ?_)
                refine Ww.iload (pc' := 298) C at_296 rfl rfl ?_
                refine Ww.if_le C at_298 (by decide) (pcT := 322) (by decide) (pc' := 301) rfl (fun q => absurd q (by decide)) (fun q702 => ?_)
                refine Ww.aload (pc' := 303) C at_301 rfl rfl rfl ?_
                refine Ww.iconst (pc' := 304) C at_303 (v := (0 : Int32)) rfl rfl ?_
                refine Ww.callV (pc' := 307) C at_304 (a := x696) (fun vm0 C => (strAt C hw hs O695 (Wn := 0) (i := 0) G15 (show _ < _ from Nat.le_of_ble_eq_true rfl) rfl (by decide) (by decide))) (pureC (P := fun v => v = some (.int (([c15, c19, c23] : List Int32).getD 0 0))) O695) (fun v h' q => Or.inl q.2) S695.exa (w114 hw) (w70 hw) (fun vm0 hZ0 => notFace_of_selects (args := #[]) (mvT (s := W.s.setVm vm0) hZ0 (w72 hw))) (w72 hw) (w71 hw) (by decide) (argsL := [(.int (0 : Int32))]) (st := []) rfl rfl (lenOf pd10 rfl) rfl (Nat.le_of_eq rfl) (k' := 8) rfl (n' := 26) rfl (by decide) (by decide) rfl ?_
                intro r703 h704 Q704 O704
                obtain ⟨rfl, e705⟩ := Q704
                obtain rfl := e705.symm
                refine Ww.aload (pc' := 309) C at_307 rfl rfl rfl ?_
                refine Ww.iload (pc' := 311) C at_309 rfl rfl ?_
                have X706 : Ext h35 h371 := Wk.Ext.wr (Z := Z) E368 W371 (Nat.le_of_eq ga367.symm)
                have X707 : Ext h35 h373 := Wk.Ext.wr (Z := Z) X706 W373 (Nat.le_of_eq ga367.symm)
                have X708 : Ext h35 h375 := Wk.Ext.wr (Z := Z) X707 W375 (Nat.le_of_eq ga367.symm)
                have X709 : Ext h35 h688 := Wk.Ext.trans X708 E688
                have X710 : Ext h35 h693 := Wk.Ext.keep1 (Z := Z) X709 Kh693 (Nat.le_trans X708.1 (Nat.le_of_eq ga687.symm))
                have X711 : Ext h35 h695 := Wk.Ext.trans X710 E695
                refine Ww.caload (pc' := 312) C at_311 (V35.ext X711) (by decide) (v := (.int c15)) rfl rfl ?_
                refine Ww.icmp_ne C at_312 (by decide) (pcT := 319) (by decide) (pc' := 315) rfl (fun q => absurd rfl q) (fun q712 => ?_)
                refine Ww.iconst (pc' := 316) C at_315 (v := (1 : Int32)) rfl rfl ?_
                refine Ww.goto C at_316 (by decide) (pc' := 320) (by decide) ?_
                refine Ww.istore (pc' := 322) C at_320 (Ls' := #[.val (.int p0), .val (.int p1), .val (.int p2), .val (.int p3), .val (.int p4), .val (.int (3 : Int32)), .val (.int c15), .val (.int c19), .val (.int c23), .val (.int c27), .val (.ref a29), .val (.ref a367), .val (.int (0 : Int32)), .val (.int (3 : Int32)), .val (.int (3 : Int32)), .val (.ref x696), .val (.int (1 : Int32))]) rfl rfl ?_
                refine Ww.iload (pc' := 324) C at_322 rfl rfl ?_
                refine Ww.if_eq C at_324 (by decide) (pcT := 356) (by decide) (pc' := 327) rfl (fun q => absurd q (by decide)) (fun q713 => ?_)
                refine Ww.iload (pc' := 329) C at_327 rfl rfl ?_
                refine Ww.iconst (pc' := 330) C at_329 (v := (1 : Int32)) rfl rfl ?_
                refine Ww.icmp_le C at_330 (by decide) (pcT := 356) (by decide) (pc' := 333) rfl (fun q => absurd q (by decide)) (fun q714 => ?_)
                refine Ww.aload (pc' := 335) C at_333 rfl rfl rfl ?_
                refine Ww.iconst (pc' := 336) C at_335 (v := (1 : Int32)) rfl rfl ?_
                refine Ww.callV (pc' := 339) C at_336 (a := x696) (fun vm0 C => (strAt C hw hs O695 (Wn := 0) (i := 1) G15 (show _ < _ from Nat.le_of_ble_eq_true rfl) rfl (by decide) (by decide))) (pureC (P := fun v => v = some (.int (([c15, c19, c23] : List Int32).getD 1 0))) O695) (fun v h' q => Or.inl q.2) S695.exa (w114 hw) (w70 hw) (fun vm0 hZ0 => notFace_of_selects (args := #[]) (mvT (s := W.s.setVm vm0) hZ0 (w72 hw))) (w72 hw) (w71 hw) (by decide) (argsL := [(.int (1 : Int32))]) (st := []) rfl rfl (lenOf pd10 rfl) rfl (Nat.le_of_eq rfl) (k' := 8) rfl (n' := 26) rfl (by decide) (by decide) rfl ?_
                intro r715 h716 Q716 O716
                obtain ⟨rfl, e717⟩ := Q716
                obtain rfl := e717.symm
                refine Ww.aload (pc' := 341) C at_339 rfl rfl rfl ?_
                refine Ww.iload (pc' := 343) C at_341 rfl rfl ?_
                refine Ww.iconst (pc' := 344) C at_343 (v := (1 : Int32)) rfl rfl ?_
                refine Ww.iadd (pc' := 345) C at_344 (v := (1 : Int32)) (by decide) rfl ?_
                refine Ww.caload (pc' := 346) C at_345 (V35.ext X711) (by decide) (v := (.int c19)) rfl rfl ?_
                refine Ww.icmp_ne C at_346 (by decide) (pcT := 353) (by decide) (pc' := 349) rfl (fun q => absurd rfl q) (fun q718 => ?_)
                refine Ww.iconst (pc' := 350) C at_349 (v := (1 : Int32)) rfl rfl ?_
                refine Ww.goto C at_350 (by decide) (pc' := 354) (by decide) ?_
                refine Ww.istore (pc' := 356) C at_354 (Ls' := #[.val (.int p0), .val (.int p1), .val (.int p2), .val (.int p3), .val (.int p4), .val (.int (3 : Int32)), .val (.int c15), .val (.int c19), .val (.int c23), .val (.int c27), .val (.ref a29), .val (.ref a367), .val (.int (0 : Int32)), .val (.int (3 : Int32)), .val (.int (3 : Int32)), .val (.ref x696), .val (.int (1 : Int32))]) rfl rfl ?_
                refine Ww.iload (pc' := 358) C at_356 rfl rfl ?_
                refine Ww.if_eq C at_358 (by decide) (pcT := 390) (by decide) (pc' := 361) rfl (fun q => absurd q (by decide)) (fun q719 => ?_)
                refine Ww.iload (pc' := 363) C at_361 rfl rfl ?_
                refine Ww.iconst (pc' := 364) C at_363 (v := (2 : Int32)) rfl rfl ?_
                refine Ww.icmp_le C at_364 (by decide) (pcT := 390) (by decide) (pc' := 367) rfl (fun q => absurd q (by decide)) (fun q720 => ?_)
                refine Ww.aload (pc' := 369) C at_367 rfl rfl rfl ?_
                refine Ww.iconst (pc' := 370) C at_369 (v := (2 : Int32)) rfl rfl ?_
                refine Ww.callV (pc' := 373) C at_370 (a := x696) (fun vm0 C => (strAt C hw hs O695 (Wn := 0) (i := 2) G15 (show _ < _ from Nat.le_of_ble_eq_true rfl) rfl (by decide) (by decide))) (pureC (P := fun v => v = some (.int (([c15, c19, c23] : List Int32).getD 2 0))) O695) (fun v h' q => Or.inl q.2) S695.exa (w114 hw) (w70 hw) (fun vm0 hZ0 => notFace_of_selects (args := #[]) (mvT (s := W.s.setVm vm0) hZ0 (w72 hw))) (w72 hw) (w71 hw) (by decide) (argsL := [(.int (2 : Int32))]) (st := []) rfl rfl (lenOf pd10 rfl) rfl (Nat.le_of_eq rfl) (k' := 8) rfl (n' := 26) rfl (by decide) (by decide) rfl ?_
                intro r721 h722 Q722 O722
                obtain ⟨rfl, e723⟩ := Q722
                obtain rfl := e723.symm
                refine Ww.aload (pc' := 375) C at_373 rfl rfl rfl ?_
                refine Ww.iload (pc' := 377) C at_375 rfl rfl ?_
                refine Ww.iconst (pc' := 378) C at_377 (v := (2 : Int32)) rfl rfl ?_
                refine Ww.iadd (pc' := 379) C at_378 (v := (2 : Int32)) (by decide) rfl ?_
                refine Ww.caload (pc' := 380) C at_379 (V35.ext X711) (by decide) (v := (.int c23)) rfl rfl ?_
                refine Ww.icmp_ne C at_380 (by decide) (pcT := 387) (by decide) (pc' := 383) rfl (fun q => absurd rfl q) (fun q724 => ?_)
                refine Ww.iconst (pc' := 384) C at_383 (v := (1 : Int32)) rfl rfl ?_
                refine Ww.goto C at_384 (by decide) (pc' := 388) (by decide) ?_
                refine Ww.istore (pc' := 390) C at_388 (Ls' := #[.val (.int p0), .val (.int p1), .val (.int p2), .val (.int p3), .val (.int p4), .val (.int (3 : Int32)), .val (.int c15), .val (.int c19), .val (.int c23), .val (.int c27), .val (.ref a29), .val (.ref a367), .val (.int (0 : Int32)), .val (.int (3 : Int32)), .val (.int (3 : Int32)), .val (.ref x696), .val (.int (1 : Int32))]) rfl rfl ?_
                refine Ww.iload (pc' := 392) C at_390 rfl rfl ?_
                refine Ww.if_eq C at_392 (by decide) (pcT := 424) (by decide) (pc' := 395) rfl (fun q => absurd q (by decide)) (fun q725 => ?_)
                refine Ww.iload (pc' := 397) C at_395 rfl rfl ?_
                refine Ww.iconst (pc' := 398) C at_397 (v := (3 : Int32)) rfl rfl ?_
                refine Ww.icmp_le C at_398 (by decide) (pcT := 424) (by decide) (pc' := 401) rfl (fun q726 => ?_) (fun q => absurd q (by decide))
                refine Ww.iload (pc' := 426) C at_424 rfl rfl ?_
                exact Ww.retNar (ty := .boolean) C hE (by simp) at_426 rfl (by decide) (by decide) rfl
            · -- space: False
              exact absurd q608 q678
      · -- space: False
        refine Ww.if_ne C at_160 (by decide) (pcT := 166) (by decide) (pc' := 163) rfl (fun q => absurd q (by decide)) (fun q727 => ?_)
        refine Ww.iconst (pc' := 164) C at_163 (v := (1 : Int32)) rfl rfl ?_
        refine Ww.istore (pc' := 166) C at_164 (Ls' := #[.val (.int p0), .val (.int p1), .val (.int p2), .val (.int p3), .val (.int p4), .val (.int (3 : Int32)), .val (.int c15), .val (.int c19), .val (.int c23), .val (.int c27), .val (.ref a29), .val (.ref a367), .val (.int (1 : Int32)), .unset, .unset, .unset, .unset]) rfl rfl ?_
        refine Ww.iload (pc' := 168) C at_166 rfl rfl ?_
        refine Ww.if_le C at_168 (by decide) (pcT := 182) (by decide) (pc' := 171) rfl (fun q => absurd q (by decide)) (fun q728 => ?_)
        refine Ww.iload (pc' := 173) C at_171 rfl rfl ?_
        refine Ww.callS (pc' := 176) C at_173 (fun vm0 C => (Wk.Con.pays C (Wn := 0) (own_sp l hw O375 c15) (w58 hw) (w2 hw) (by decide) (by decide))) Wk.cleanC (fun v h' q => Or.inl q.2) (w56 hw) (w57 hw) (w2 hw) (w58 hw) (by decide) (argsL := [(.int c15)]) (st := []) rfl rfl (lenOf pd14 rfl) rfl (Nat.le_of_eq rfl) (k' := 2) rfl (n' := 7) rfl (by decide) (by decide) rfl ?_
        intro r729 h730 Q730 O730
        obtain ⟨q732, e731⟩ := Q730
        obtain rfl := e731.symm
        rcases q732 with ⟨rfl, q732⟩ | ⟨rfl, q732⟩
        · -- space: True
          refine Ww.if_ne C at_176 (by decide) (pcT := 182) (by decide) (pc' := 179) rfl (fun q733 => ?_) (fun q => absurd q (by decide))
          refine Ww.iload (pc' := 184) C at_182 rfl rfl ?_
          refine Ww.istore (pc' := 186) C at_184 (Ls' := #[.val (.int p0), .val (.int p1), .val (.int p2), .val (.int p3), .val (.int p4), .val (.int (3 : Int32)), .val (.int c15), .val (.int c19), .val (.int c23), .val (.int c27), .val (.ref a29), .val (.ref a367), .val (.int (1 : Int32)), .val (.int (1 : Int32)), .unset, .unset, .unset]) rfl rfl ?_
          refine Ww.iload (pc' := 188) C at_186 rfl rfl ?_
          refine Ww.if_le C at_188 (by decide) (pcT := 202) (by decide) (pc' := 191) rfl (fun q => absurd q (by decide)) (fun q734 => ?_)
          refine Ww.iload (pc' := 193) C at_191 rfl rfl ?_
          refine Ww.callS (pc' := 196) C at_193 (fun vm0 C => (Wk.Con.pays C (Wn := 0) (own_sp l hw O375 c15) (w58 hw) (w2 hw) (by decide) (by decide))) Wk.cleanC (fun v h' q => Or.inl q.2) (w56 hw) (w57 hw) (w2 hw) (w58 hw) (by decide) (argsL := [(.int c15)]) (st := []) rfl rfl (lenOf pd14 rfl) rfl (Nat.le_of_eq rfl) (k' := 2) rfl (n' := 7) rfl (by decide) (by decide) rfl ?_
          intro r735 h736 Q736 O736
          obtain ⟨q738, e737⟩ := Q736
          obtain rfl := e737.symm
          rcases q738 with ⟨rfl, q738⟩ | ⟨rfl, q738⟩
          · -- space: True
            refine Ww.if_ne C at_196 (by decide) (pcT := 202) (by decide) (pc' := 199) rfl (fun q739 => ?_) (fun q => absurd q (by decide))
            refine Ww.iload (pc' := 204) C at_202 rfl rfl ?_
            refine Ww.iconst (pc' := 205) C at_204 (v := (1 : Int32)) rfl rfl ?_
            refine Ww.icmp_le C at_205 (by decide) (pcT := 219) (by decide) (pc' := 208) rfl (fun q => absurd q (by decide)) (fun q740 => ?_)
            refine Ww.iload (pc' := 210) C at_208 rfl rfl ?_
            refine Ww.callS (pc' := 213) C at_210 (fun vm0 C => (Wk.Con.pays C (Wn := 0) (own_sp l hw O375 c19) (w58 hw) (w2 hw) (by decide) (by decide))) Wk.cleanC (fun v h' q => Or.inl q.2) (w56 hw) (w57 hw) (w2 hw) (w58 hw) (by decide) (argsL := [(.int c19)]) (st := []) rfl rfl (lenOf pd14 rfl) rfl (Nat.le_of_eq rfl) (k' := 2) rfl (n' := 7) rfl (by decide) (by decide) rfl ?_
            intro r741 h742 Q742 O742
            obtain ⟨q744, e743⟩ := Q742
            obtain rfl := e743.symm
            rcases q744 with ⟨rfl, q744⟩ | ⟨rfl, q744⟩
            · -- space: True
              exact absurd q744 q608
            · -- space: False
              refine Ww.if_ne C at_213 (by decide) (pcT := 219) (by decide) (pc' := 216) rfl (fun q => absurd q (by decide)) (fun q745 => ?_)
              refine Ww.iconst (pc' := 217) C at_216 (v := (2 : Int32)) rfl rfl ?_
              refine Ww.istore (pc' := 219) C at_217 (Ls' := #[.val (.int p0), .val (.int p1), .val (.int p2), .val (.int p3), .val (.int p4), .val (.int (3 : Int32)), .val (.int c15), .val (.int c19), .val (.int c23), .val (.int c27), .val (.ref a29), .val (.ref a367), .val (.int (1 : Int32)), .val (.int (2 : Int32)), .unset, .unset, .unset]) rfl rfl ?_
              refine Ww.iload (pc' := 221) C at_219 rfl rfl ?_
              refine Ww.iconst (pc' := 222) C at_221 (v := (2 : Int32)) rfl rfl ?_
              refine Ww.icmp_le C at_222 (by decide) (pcT := 236) (by decide) (pc' := 225) rfl (fun q => absurd q (by decide)) (fun q746 => ?_)
              refine Ww.iload (pc' := 227) C at_225 rfl rfl ?_
              refine Ww.callS (pc' := 230) C at_227 (fun vm0 C => (Wk.Con.pays C (Wn := 0) (own_sp l hw O375 c23) (w58 hw) (w2 hw) (by decide) (by decide))) Wk.cleanC (fun v h' q => Or.inl q.2) (w56 hw) (w57 hw) (w2 hw) (w58 hw) (by decide) (argsL := [(.int c23)]) (st := []) rfl rfl (lenOf pd14 rfl) rfl (Nat.le_of_eq rfl) (k' := 2) rfl (n' := 7) rfl (by decide) (by decide) rfl ?_
              intro r747 h748 Q748 O748
              obtain ⟨q750, e749⟩ := Q748
              obtain rfl := e749.symm
              rcases q750 with ⟨rfl, q750⟩ | ⟨rfl, q750⟩
              · -- space: True
                exact absurd q750 q382
              · -- space: False
                refine Ww.if_ne C at_230 (by decide) (pcT := 236) (by decide) (pc' := 233) rfl (fun q => absurd q (by decide)) (fun q751 => ?_)
                refine Ww.iconst (pc' := 234) C at_233 (v := (3 : Int32)) rfl rfl ?_
                refine Ww.istore (pc' := 236) C at_234 (Ls' := #[.val (.int p0), .val (.int p1), .val (.int p2), .val (.int p3), .val (.int p4), .val (.int (3 : Int32)), .val (.int c15), .val (.int c19), .val (.int c23), .val (.int c27), .val (.ref a29), .val (.ref a367), .val (.int (1 : Int32)), .val (.int (3 : Int32)), .unset, .unset, .unset]) rfl rfl ?_
                refine Ww.iload (pc' := 238) C at_236 rfl rfl ?_
                refine Ww.iconst (pc' := 239) C at_238 (v := (3 : Int32)) rfl rfl ?_
                refine Ww.icmp_le C at_239 (by decide) (pcT := 253) (by decide) (pc' := 242) rfl (fun q752 => ?_) (fun q => absurd q (by decide))
                refine Ww.iload (pc' := 255) C at_253 rfl rfl ?_
                refine Ww.iload (pc' := 257) C at_255 rfl rfl ?_
                refine Ww.isub (pc' := 258) C at_257 (v := (2 : Int32)) (by decide) rfl ?_
                refine Ww.istore (pc' := 260) C at_258 (Ls' := #[.val (.int p0), .val (.int p1), .val (.int p2), .val (.int p3), .val (.int p4), .val (.int (3 : Int32)), .val (.int c15), .val (.int c19), .val (.int c23), .val (.int c27), .val (.ref a29), .val (.ref a367), .val (.int (1 : Int32)), .val (.int (3 : Int32)), .val (.int (2 : Int32)), .unset, .unset]) rfl rfl ?_
                refine Ww.newO (pc' := 263) C at_260 (w5 hw) (w6 hw) (w7 hw) (k' := 3) rfl (n' := 11) rfl (by decide) (by decide) rfl ?_
                intro a753 h754 ga753 za753 E754 Aa753 Da753 Ua753 O754
                have F755 : Fld Z h754 a753 "java/lang/String" "value" "[B" .null := Da753 (Or.inr (w20 hw)) (ty := (.array .byte)) (by decide)
                have F756 : Fld Z h754 a753 "java/lang/String" "coder" "B" (.int (0 : Int32)) := Da753 (Or.inr (w21 hw)) (ty := .byte) (by decide)
                refine Ww.dup (pc' := 264) C at_263 rfl rfl ?_
                refine Ww.aload (pc' := 266) C at_264 rfl rfl rfl ?_
                have hp757 : ∀ c ∈ ([c15, c19, c23] : List Int32), ¬ c < 0 ∧ ¬ (255 : Int32) < c := (List.forall_mem_cons.mpr ⟨rc15, (List.forall_mem_cons.mpr ⟨rc19, (List.forall_mem_cons.mpr ⟨rc23, (fun _ h => nomatch h)⟩)⟩)⟩)
                refine Ww.callI (pc' := 269) C at_266 (a := a753) (fun vm0 C => (strNew C hw hs O754 (cs := [c15, c19, c23]) (n := 3) (Wn := 1) za753 Aa753 F755 F756 (V375.ext E754) rfl (by decide) (by decide) hp757 (by decide) (by decide))) (strNewC (n := 3) O754 za753 rfl (by decide) hp757) (fun v h' q => Or.inr (Or.inr ⟨a753, (List.mem_of_getElem? (i := 0) rfl), q.2.1⟩)) rfl (w8 hw) (w9 hw) (w10 hw) (by decide) (argsL := [(.ref a367)]) (st := [(.ref a753)]) rfl rfl (lenOf pd12 rfl) rfl (Nat.le_of_eq rfl) (k' := 4) rfl (n' := 14) rfl (by decide) (by decide) rfl ?_
                intro r758 h759 Q759 O759
                obtain ⟨rfl, Kh759, Sh759⟩ := Q759
                refine Ww.callSS (pc' := 272) C at_269 (Ww.Con.pays hE (Wn := 0) (own_wos l hw hE O759 hs a753 [c15, c19, c23] Sh759 (show _ ≤ 4 from Nat.le_of_ble_eq_true rfl)) (w29 hw) (w28 hw) (by decide) (by decide)) Wk.cleanC (w26 hw) (w27 hw) (w28 hw) (w29 hw) (by decide) (argsL := [(.ref a753)]) (st := []) rfl rfl (lenOf pd13 rfl) rfl (Nat.le_of_eq rfl) (k' := 8) rfl (n' := 26) rfl (by decide) (by decide) rfl ?_
                intro r760 h761 Q761 O761
                obtain ⟨x762, rfl, E761, S761⟩ := Q761
                refine Ww.astore (pc' := 274) C at_272 rfl (Ls' := #[.val (.int p0), .val (.int p1), .val (.int p2), .val (.int p3), .val (.int p4), .val (.int (3 : Int32)), .val (.int c15), .val (.int c19), .val (.int c23), .val (.int c27), .val (.ref a29), .val (.ref a367), .val (.int (1 : Int32)), .val (.int (3 : Int32)), .val (.int (2 : Int32)), .val (.ref x762), .unset]) rfl rfl ?_
                have hT : trim [c15, c19, c23] = [c19, c23] := by simp [trim, lead, endAt, q732, q608, q382]
                have G15 : Str Z h761 x762 [c19, c23] := hT ▸ S761
                refine Ww.aload (pc' := 276) C at_274 rfl rfl rfl ?_
                refine Ww.callV (pc' := 279) C at_276 (a := x762) (fun vm0 C => (strLen C hw hs O761 (Wn := 0) G15 (by decide) (by decide))) (pureC (P := fun v => v = some (.int (Int32.ofNat ([c19, c23] : List Int32).length))) O761) (fun v h' q => Or.inl q.2) S761.exa (w55 hw) (w31 hw) (fun vm0 hZ0 => notFace_of_selects (args := #[]) (mvT (s := W.s.setVm vm0) hZ0 (w33 hw))) (w33 hw) (w32 hw) (by decide) (argsL := []) (st := []) rfl rfl (lenOf pd5 rfl) rfl (Nat.le_of_eq rfl) (k' := 8) rfl (n' := 26) rfl (by decide) (by decide) rfl ?_
                intro r763 h764 Q764 O764
                obtain ⟨rfl, e765⟩ := Q764
                obtain rfl := e765.symm
                refine Ww.iload (pc' := 281) C at_279 rfl rfl ?_
                refine Ww.icmp_ne C at_281 (by decide) (pcT := 288) (by decide) (pc' := 284) rfl (fun q => absurd rfl q) (fun q766 => ?_)
                refine Ww.iconst (pc' := 285) C at_284 (v := (1 : Int32)) rfl rfl ?_
                refine Ww.goto C at_285 (by decide) (pc' := 289) (by decide) ?_
                refine Ww.istore (pc' := 291) C at_289 (Ls' := #[.val (.int p0), .val (.int p1), .val (.int p2), .val (.int p3), .val (.int p4), .val (.int (3 : Int32)), .val (.int c15), .val (.int c19), .val (.int c23), .val (.int c27), .val (.ref a29), .val (.ref a367), .val (.int (1 : Int32)), .val (.int (3 : Int32)), .val (.int (2 : Int32)), .val (.ref x762), .val (.int (1 : Int32))]) rfl rfl ?_
                refine Ww.iload (pc' := 293) C at_291 rfl rfl ?_
                refine Ww.if_eq C at_293 (by decide) (pcT := 322) (by decide) (pc' := 296) rfl (fun q => absurd q (by decide)) (fun q767 => ?_)
                refine Ww.iload (pc' := 298) C at_296 rfl rfl ?_
                refine Ww.if_le C at_298 (by decide) (pcT := 322) (by decide) (pc' := 301) rfl (fun q => absurd q (by decide)) (fun q768 => ?_)
                refine Ww.aload (pc' := 303) C at_301 rfl rfl rfl ?_
                refine Ww.iconst (pc' := 304) C at_303 (v := (0 : Int32)) rfl rfl ?_
                refine Ww.callV (pc' := 307) C at_304 (a := x762) (fun vm0 C => (strAt C hw hs O761 (Wn := 0) (i := 0) G15 (show _ < _ from Nat.le_of_ble_eq_true rfl) rfl (by decide) (by decide))) (pureC (P := fun v => v = some (.int (([c19, c23] : List Int32).getD 0 0))) O761) (fun v h' q => Or.inl q.2) S761.exa (w114 hw) (w70 hw) (fun vm0 hZ0 => notFace_of_selects (args := #[]) (mvT (s := W.s.setVm vm0) hZ0 (w72 hw))) (w72 hw) (w71 hw) (by decide) (argsL := [(.int (0 : Int32))]) (st := []) rfl rfl (lenOf pd10 rfl) rfl (Nat.le_of_eq rfl) (k' := 8) rfl (n' := 26) rfl (by decide) (by decide) rfl ?_
                intro r769 h770 Q770 O770
                obtain ⟨rfl, e771⟩ := Q770
                obtain rfl := e771.symm
                refine Ww.aload (pc' := 309) C at_307 rfl rfl rfl ?_
                refine Ww.iload (pc' := 311) C at_309 rfl rfl ?_
                have X772 : Ext h35 h371 := Wk.Ext.wr (Z := Z) E368 W371 (Nat.le_of_eq ga367.symm)
                have X773 : Ext h35 h373 := Wk.Ext.wr (Z := Z) X772 W373 (Nat.le_of_eq ga367.symm)
                have X774 : Ext h35 h375 := Wk.Ext.wr (Z := Z) X773 W375 (Nat.le_of_eq ga367.symm)
                have X775 : Ext h35 h754 := Wk.Ext.trans X774 E754
                have X776 : Ext h35 h759 := Wk.Ext.keep1 (Z := Z) X775 Kh759 (Nat.le_trans X774.1 (Nat.le_of_eq ga753.symm))
                have X777 : Ext h35 h761 := Wk.Ext.trans X776 E761
                refine Ww.caload (pc' := 312) C at_311 (V35.ext X777) (by decide) (v := (.int c19)) rfl rfl ?_
                refine Ww.icmp_ne C at_312 (by decide) (pcT := 319) (by decide) (pc' := 315) rfl (fun q => absurd rfl q) (fun q778 => ?_)
                refine Ww.iconst (pc' := 316) C at_315 (v := (1 : Int32)) rfl rfl ?_
                refine Ww.goto C at_316 (by decide) (pc' := 320) (by decide) ?_
                refine Ww.istore (pc' := 322) C at_320 (Ls' := #[.val (.int p0), .val (.int p1), .val (.int p2), .val (.int p3), .val (.int p4), .val (.int (3 : Int32)), .val (.int c15), .val (.int c19), .val (.int c23), .val (.int c27), .val (.ref a29), .val (.ref a367), .val (.int (1 : Int32)), .val (.int (3 : Int32)), .val (.int (2 : Int32)), .val (.ref x762), .val (.int (1 : Int32))]) rfl rfl ?_
                refine Ww.iload (pc' := 324) C at_322 rfl rfl ?_
                refine Ww.if_eq C at_324 (by decide) (pcT := 356) (by decide) (pc' := 327) rfl (fun q => absurd q (by decide)) (fun q779 => ?_)
                refine Ww.iload (pc' := 329) C at_327 rfl rfl ?_
                refine Ww.iconst (pc' := 330) C at_329 (v := (1 : Int32)) rfl rfl ?_
                refine Ww.icmp_le C at_330 (by decide) (pcT := 356) (by decide) (pc' := 333) rfl (fun q => absurd q (by decide)) (fun q780 => ?_)
                refine Ww.aload (pc' := 335) C at_333 rfl rfl rfl ?_
                refine Ww.iconst (pc' := 336) C at_335 (v := (1 : Int32)) rfl rfl ?_
                refine Ww.callV (pc' := 339) C at_336 (a := x762) (fun vm0 C => (strAt C hw hs O761 (Wn := 0) (i := 1) G15 (show _ < _ from Nat.le_of_ble_eq_true rfl) rfl (by decide) (by decide))) (pureC (P := fun v => v = some (.int (([c19, c23] : List Int32).getD 1 0))) O761) (fun v h' q => Or.inl q.2) S761.exa (w114 hw) (w70 hw) (fun vm0 hZ0 => notFace_of_selects (args := #[]) (mvT (s := W.s.setVm vm0) hZ0 (w72 hw))) (w72 hw) (w71 hw) (by decide) (argsL := [(.int (1 : Int32))]) (st := []) rfl rfl (lenOf pd10 rfl) rfl (Nat.le_of_eq rfl) (k' := 8) rfl (n' := 26) rfl (by decide) (by decide) rfl ?_
                intro r781 h782 Q782 O782
                obtain ⟨rfl, e783⟩ := Q782
                obtain rfl := e783.symm
                refine Ww.aload (pc' := 341) C at_339 rfl rfl rfl ?_
                refine Ww.iload (pc' := 343) C at_341 rfl rfl ?_
                refine Ww.iconst (pc' := 344) C at_343 (v := (1 : Int32)) rfl rfl ?_
                refine Ww.iadd (pc' := 345) C at_344 (v := (2 : Int32)) (by decide) rfl ?_
                refine Ww.caload (pc' := 346) C at_345 (V35.ext X777) (by decide) (v := (.int c23)) rfl rfl ?_
                refine Ww.icmp_ne C at_346 (by decide) (pcT := 353) (by decide) (pc' := 349) rfl (fun q => absurd rfl q) (fun q784 => ?_)
                refine Ww.iconst (pc' := 350) C at_349 (v := (1 : Int32)) rfl rfl ?_
                refine Ww.goto C at_350 (by decide) (pc' := 354) (by decide) ?_
                refine Ww.istore (pc' := 356) C at_354 (Ls' := #[.val (.int p0), .val (.int p1), .val (.int p2), .val (.int p3), .val (.int p4), .val (.int (3 : Int32)), .val (.int c15), .val (.int c19), .val (.int c23), .val (.int c27), .val (.ref a29), .val (.ref a367), .val (.int (1 : Int32)), .val (.int (3 : Int32)), .val (.int (2 : Int32)), .val (.ref x762), .val (.int (1 : Int32))]) rfl rfl ?_
                refine Ww.iload (pc' := 358) C at_356 rfl rfl ?_
                refine Ww.if_eq C at_358 (by decide) (pcT := 390) (by decide) (pc' := 361) rfl (fun q => absurd q (by decide)) (fun q785 => ?_)
                refine Ww.iload (pc' := 363) C at_361 rfl rfl ?_
                refine Ww.iconst (pc' := 364) C at_363 (v := (2 : Int32)) rfl rfl ?_
                refine Ww.icmp_le C at_364 (by decide) (pcT := 390) (by decide) (pc' := 367) rfl (fun q786 => ?_) (fun q => absurd q (by decide))
                refine Ww.iload (pc' := 392) C at_390 rfl rfl ?_
                refine Ww.if_eq C at_392 (by decide) (pcT := 424) (by decide) (pc' := 395) rfl (fun q => absurd q (by decide)) (fun q787 => ?_)
                refine Ww.iload (pc' := 397) C at_395 rfl rfl ?_
                refine Ww.iconst (pc' := 398) C at_397 (v := (3 : Int32)) rfl rfl ?_
                refine Ww.icmp_le C at_398 (by decide) (pcT := 424) (by decide) (pc' := 401) rfl (fun q788 => ?_) (fun q => absurd q (by decide))
                refine Ww.iload (pc' := 426) C at_424 rfl rfl ?_
                exact Ww.retNar (ty := .boolean) C hE (by simp) at_426 rfl (by decide) (by decide) rfl
          · -- space: False
            exact absurd q732 q738
        · -- space: False
          refine Ww.if_ne C at_176 (by decide) (pcT := 182) (by decide) (pc' := 179) rfl (fun q => absurd q (by decide)) (fun q789 => ?_)
          refine Ww.iconst (pc' := 180) C at_179 (v := (0 : Int32)) rfl rfl ?_
          refine Ww.istore (pc' := 182) C at_180 (Ls' := #[.val (.int p0), .val (.int p1), .val (.int p2), .val (.int p3), .val (.int p4), .val (.int (3 : Int32)), .val (.int c15), .val (.int c19), .val (.int c23), .val (.int c27), .val (.ref a29), .val (.ref a367), .val (.int (0 : Int32)), .unset, .unset, .unset, .unset]) rfl rfl ?_
          refine Ww.iload (pc' := 184) C at_182 rfl rfl ?_
          refine Ww.istore (pc' := 186) C at_184 (Ls' := #[.val (.int p0), .val (.int p1), .val (.int p2), .val (.int p3), .val (.int p4), .val (.int (3 : Int32)), .val (.int c15), .val (.int c19), .val (.int c23), .val (.int c27), .val (.ref a29), .val (.ref a367), .val (.int (0 : Int32)), .val (.int (0 : Int32)), .unset, .unset, .unset]) rfl rfl ?_
          refine Ww.iload (pc' := 188) C at_186 rfl rfl ?_
          refine Ww.if_le C at_188 (by decide) (pcT := 202) (by decide) (pc' := 191) rfl (fun q => absurd q (by decide)) (fun q790 => ?_)
          refine Ww.iload (pc' := 193) C at_191 rfl rfl ?_
          refine Ww.callS (pc' := 196) C at_193 (fun vm0 C => (Wk.Con.pays C (Wn := 0) (own_sp l hw O375 c15) (w58 hw) (w2 hw) (by decide) (by decide))) Wk.cleanC (fun v h' q => Or.inl q.2) (w56 hw) (w57 hw) (w2 hw) (w58 hw) (by decide) (argsL := [(.int c15)]) (st := []) rfl rfl (lenOf pd14 rfl) rfl (Nat.le_of_eq rfl) (k' := 2) rfl (n' := 7) rfl (by decide) (by decide) rfl ?_
          intro r791 h792 Q792 O792
          obtain ⟨q794, e793⟩ := Q792
          obtain rfl := e793.symm
          rcases q794 with ⟨rfl, q794⟩ | ⟨rfl, q794⟩
          · -- space: True
            exact absurd q794 q732
          · -- space: False
            refine Ww.if_ne C at_196 (by decide) (pcT := 202) (by decide) (pc' := 199) rfl (fun q => absurd q (by decide)) (fun q795 => ?_)
            refine Ww.iconst (pc' := 200) C at_199 (v := (1 : Int32)) rfl rfl ?_
            refine Ww.istore (pc' := 202) C at_200 (Ls' := #[.val (.int p0), .val (.int p1), .val (.int p2), .val (.int p3), .val (.int p4), .val (.int (3 : Int32)), .val (.int c15), .val (.int c19), .val (.int c23), .val (.int c27), .val (.ref a29), .val (.ref a367), .val (.int (0 : Int32)), .val (.int (1 : Int32)), .unset, .unset, .unset]) rfl rfl ?_
            refine Ww.iload (pc' := 204) C at_202 rfl rfl ?_
            refine Ww.iconst (pc' := 205) C at_204 (v := (1 : Int32)) rfl rfl ?_
            refine Ww.icmp_le C at_205 (by decide) (pcT := 219) (by decide) (pc' := 208) rfl (fun q => absurd q (by decide)) (fun q796 => ?_)
            refine Ww.iload (pc' := 210) C at_208 rfl rfl ?_
            refine Ww.callS (pc' := 213) C at_210 (fun vm0 C => (Wk.Con.pays C (Wn := 0) (own_sp l hw O375 c19) (w58 hw) (w2 hw) (by decide) (by decide))) Wk.cleanC (fun v h' q => Or.inl q.2) (w56 hw) (w57 hw) (w2 hw) (w58 hw) (by decide) (argsL := [(.int c19)]) (st := []) rfl rfl (lenOf pd14 rfl) rfl (Nat.le_of_eq rfl) (k' := 2) rfl (n' := 7) rfl (by decide) (by decide) rfl ?_
            intro r797 h798 Q798 O798
            obtain ⟨q800, e799⟩ := Q798
            obtain rfl := e799.symm
            rcases q800 with ⟨rfl, q800⟩ | ⟨rfl, q800⟩
            · -- space: True
              exact absurd q800 q608
            · -- space: False
              refine Ww.if_ne C at_213 (by decide) (pcT := 219) (by decide) (pc' := 216) rfl (fun q => absurd q (by decide)) (fun q801 => ?_)
              refine Ww.iconst (pc' := 217) C at_216 (v := (2 : Int32)) rfl rfl ?_
              refine Ww.istore (pc' := 219) C at_217 (Ls' := #[.val (.int p0), .val (.int p1), .val (.int p2), .val (.int p3), .val (.int p4), .val (.int (3 : Int32)), .val (.int c15), .val (.int c19), .val (.int c23), .val (.int c27), .val (.ref a29), .val (.ref a367), .val (.int (0 : Int32)), .val (.int (2 : Int32)), .unset, .unset, .unset]) rfl rfl ?_
              refine Ww.iload (pc' := 221) C at_219 rfl rfl ?_
              refine Ww.iconst (pc' := 222) C at_221 (v := (2 : Int32)) rfl rfl ?_
              refine Ww.icmp_le C at_222 (by decide) (pcT := 236) (by decide) (pc' := 225) rfl (fun q => absurd q (by decide)) (fun q802 => ?_)
              refine Ww.iload (pc' := 227) C at_225 rfl rfl ?_
              refine Ww.callS (pc' := 230) C at_227 (fun vm0 C => (Wk.Con.pays C (Wn := 0) (own_sp l hw O375 c23) (w58 hw) (w2 hw) (by decide) (by decide))) Wk.cleanC (fun v h' q => Or.inl q.2) (w56 hw) (w57 hw) (w2 hw) (w58 hw) (by decide) (argsL := [(.int c23)]) (st := []) rfl rfl (lenOf pd14 rfl) rfl (Nat.le_of_eq rfl) (k' := 2) rfl (n' := 7) rfl (by decide) (by decide) rfl ?_
              intro r803 h804 Q804 O804
              obtain ⟨q806, e805⟩ := Q804
              obtain rfl := e805.symm
              rcases q806 with ⟨rfl, q806⟩ | ⟨rfl, q806⟩
              · -- space: True
                exact absurd q806 q382
              · -- space: False
                refine Ww.if_ne C at_230 (by decide) (pcT := 236) (by decide) (pc' := 233) rfl (fun q => absurd q (by decide)) (fun q807 => ?_)
                refine Ww.iconst (pc' := 234) C at_233 (v := (3 : Int32)) rfl rfl ?_
                refine Ww.istore (pc' := 236) C at_234 (Ls' := #[.val (.int p0), .val (.int p1), .val (.int p2), .val (.int p3), .val (.int p4), .val (.int (3 : Int32)), .val (.int c15), .val (.int c19), .val (.int c23), .val (.int c27), .val (.ref a29), .val (.ref a367), .val (.int (0 : Int32)), .val (.int (3 : Int32)), .unset, .unset, .unset]) rfl rfl ?_
                refine Ww.iload (pc' := 238) C at_236 rfl rfl ?_
                refine Ww.iconst (pc' := 239) C at_238 (v := (3 : Int32)) rfl rfl ?_
                refine Ww.icmp_le C at_239 (by decide) (pcT := 253) (by decide) (pc' := 242) rfl (fun q808 => ?_) (fun q => absurd q (by decide))
                refine Ww.iload (pc' := 255) C at_253 rfl rfl ?_
                refine Ww.iload (pc' := 257) C at_255 rfl rfl ?_
                refine Ww.isub (pc' := 258) C at_257 (v := (3 : Int32)) (by decide) rfl ?_
                refine Ww.istore (pc' := 260) C at_258 (Ls' := #[.val (.int p0), .val (.int p1), .val (.int p2), .val (.int p3), .val (.int p4), .val (.int (3 : Int32)), .val (.int c15), .val (.int c19), .val (.int c23), .val (.int c27), .val (.ref a29), .val (.ref a367), .val (.int (0 : Int32)), .val (.int (3 : Int32)), .val (.int (3 : Int32)), .unset, .unset]) rfl rfl ?_
                refine Ww.newO (pc' := 263) C at_260 (w5 hw) (w6 hw) (w7 hw) (k' := 3) rfl (n' := 11) rfl (by decide) (by decide) rfl ?_
                intro a809 h810 ga809 za809 E810 Aa809 Da809 Ua809 O810
                have F811 : Fld Z h810 a809 "java/lang/String" "value" "[B" .null := Da809 (Or.inr (w20 hw)) (ty := (.array .byte)) (by decide)
                have F812 : Fld Z h810 a809 "java/lang/String" "coder" "B" (.int (0 : Int32)) := Da809 (Or.inr (w21 hw)) (ty := .byte) (by decide)
                refine Ww.dup (pc' := 264) C at_263 rfl rfl ?_
                refine Ww.aload (pc' := 266) C at_264 rfl rfl rfl ?_
                have hp813 : ∀ c ∈ ([c15, c19, c23] : List Int32), ¬ c < 0 ∧ ¬ (255 : Int32) < c := (List.forall_mem_cons.mpr ⟨rc15, (List.forall_mem_cons.mpr ⟨rc19, (List.forall_mem_cons.mpr ⟨rc23, (fun _ h => nomatch h)⟩)⟩)⟩)
                refine Ww.callI (pc' := 269) C at_266 (a := a809) (fun vm0 C => (strNew C hw hs O810 (cs := [c15, c19, c23]) (n := 3) (Wn := 1) za809 Aa809 F811 F812 (V375.ext E810) rfl (by decide) (by decide) hp813 (by decide) (by decide))) (strNewC (n := 3) O810 za809 rfl (by decide) hp813) (fun v h' q => Or.inr (Or.inr ⟨a809, (List.mem_of_getElem? (i := 0) rfl), q.2.1⟩)) rfl (w8 hw) (w9 hw) (w10 hw) (by decide) (argsL := [(.ref a367)]) (st := [(.ref a809)]) rfl rfl (lenOf pd12 rfl) rfl (Nat.le_of_eq rfl) (k' := 4) rfl (n' := 14) rfl (by decide) (by decide) rfl ?_
                intro r814 h815 Q815 O815
                obtain ⟨rfl, Kh815, Sh815⟩ := Q815
                refine Ww.callSS (pc' := 272) C at_269 (Ww.Con.pays hE (Wn := 0) (own_wos l hw hE O815 hs a809 [c15, c19, c23] Sh815 (show _ ≤ 4 from Nat.le_of_ble_eq_true rfl)) (w29 hw) (w28 hw) (by decide) (by decide)) Wk.cleanC (w26 hw) (w27 hw) (w28 hw) (w29 hw) (by decide) (argsL := [(.ref a809)]) (st := []) rfl rfl (lenOf pd13 rfl) rfl (Nat.le_of_eq rfl) (k' := 8) rfl (n' := 26) rfl (by decide) (by decide) rfl ?_
                intro r816 h817 Q817 O817
                obtain ⟨x818, rfl, E817, S817⟩ := Q817
                refine Ww.astore (pc' := 274) C at_272 rfl (Ls' := #[.val (.int p0), .val (.int p1), .val (.int p2), .val (.int p3), .val (.int p4), .val (.int (3 : Int32)), .val (.int c15), .val (.int c19), .val (.int c23), .val (.int c27), .val (.ref a29), .val (.ref a367), .val (.int (0 : Int32)), .val (.int (3 : Int32)), .val (.int (3 : Int32)), .val (.ref x818), .unset]) rfl rfl ?_
                have hT : trim [c15, c19, c23] = [c15, c19, c23] := by simp [trim, lead, endAt, q732, q608, q382]
                have G15 : Str Z h817 x818 [c15, c19, c23] := hT ▸ S817
                refine Ww.aload (pc' := 276) C at_274 rfl rfl rfl ?_
                refine Ww.callV (pc' := 279) C at_276 (a := x818) (fun vm0 C => (strLen C hw hs O817 (Wn := 0) G15 (by decide) (by decide))) (pureC (P := fun v => v = some (.int (Int32.ofNat ([c15, c19, c23] : List Int32).length))) O817) (fun v h' q => Or.inl q.2) S817.exa (w55 hw) (w31 hw) (fun vm0 hZ0 => notFace_of_selects (args := #[]) (mvT (s := W.s.setVm vm0) hZ0 (w33 hw))) (w33 hw) (w32 hw) (by decide) (argsL := []) (st := []) rfl rfl (lenOf pd5 rfl) rfl (Nat.le_of_eq rfl) (k' := 8) rfl (n' := 26) rfl (by decide) (by decide) rfl ?_
                intro r819 h820 Q820 O820
                obtain ⟨rfl, e821⟩ := Q820
                obtain rfl := e821.symm
                refine Ww.iload (pc' := 281) C at_279 rfl rfl ?_
                refine Ww.icmp_ne C at_281 (by decide) (pcT := 288) (by decide) (pc' := 284) rfl (fun q => absurd rfl q) (fun q822 => ?_)
                refine Ww.iconst (pc' := 285) C at_284 (v := (1 : Int32)) rfl rfl ?_
                refine Ww.goto C at_285 (by decide) (pc' := 289) (by decide) ?_
                refine Ww.istore (pc' := 291) C at_289 (Ls' := #[.val (.int p0), .val (.int p1), .val (.int p2), .val (.int p3), .val (.int p4), .val (.int (3 : Int32)), .val (.int c15), .val (.int c19), .val (.int c23), .val (.int c27), .val (.ref a29), .val (.ref a367), .val (.int (0 : Int32)), .val (.int (3 : Int32)), .val (.int (3 : Int32)), .val (.ref x818), .val (.int (1 : Int32))]) rfl rfl ?_
                refine Ww.iload (pc' := 293) C at_291 rfl rfl ?_
                refine Ww.if_eq C at_293 (by decide) (pcT := 322) (by decide) (pc' := 296) rfl (fun q => absurd q (by decide)) (fun q823 => ?_)
                refine Ww.iload (pc' := 298) C at_296 rfl rfl ?_
                refine Ww.if_le C at_298 (by decide) (pcT := 322) (by decide) (pc' := 301) rfl (fun q => absurd q (by decide)) (fun q824 => ?_)
                refine Ww.aload (pc' := 303) C at_301 rfl rfl rfl ?_
                refine Ww.iconst (pc' := 304) C at_303 (v := (0 : Int32)) rfl rfl ?_
                refine Ww.callV (pc' := 307) C at_304 (a := x818) (fun vm0 C => (strAt C hw hs O817 (Wn := 0) (i := 0) G15 (show _ < _ from Nat.le_of_ble_eq_true rfl) rfl (by decide) (by decide))) (pureC (P := fun v => v = some (.int (([c15, c19, c23] : List Int32).getD 0 0))) O817) (fun v h' q => Or.inl q.2) S817.exa (w114 hw) (w70 hw) (fun vm0 hZ0 => notFace_of_selects (args := #[]) (mvT (s := W.s.setVm vm0) hZ0 (w72 hw))) (w72 hw) (w71 hw) (by decide) (argsL := [(.int (0 : Int32))]) (st := []) rfl rfl (lenOf pd10 rfl) rfl (Nat.le_of_eq rfl) (k' := 8) rfl (n' := 26) rfl (by decide) (by decide) rfl ?_
                intro r825 h826 Q826 O826
                obtain ⟨rfl, e827⟩ := Q826
                obtain rfl := e827.symm
                refine Ww.aload (pc' := 309) C at_307 rfl rfl rfl ?_
                refine Ww.iload (pc' := 311) C at_309 rfl rfl ?_
                have X828 : Ext h35 h371 := Wk.Ext.wr (Z := Z) E368 W371 (Nat.le_of_eq ga367.symm)
                have X829 : Ext h35 h373 := Wk.Ext.wr (Z := Z) X828 W373 (Nat.le_of_eq ga367.symm)
                have X830 : Ext h35 h375 := Wk.Ext.wr (Z := Z) X829 W375 (Nat.le_of_eq ga367.symm)
                have X831 : Ext h35 h810 := Wk.Ext.trans X830 E810
                have X832 : Ext h35 h815 := Wk.Ext.keep1 (Z := Z) X831 Kh815 (Nat.le_trans X830.1 (Nat.le_of_eq ga809.symm))
                have X833 : Ext h35 h817 := Wk.Ext.trans X832 E817
                refine Ww.caload (pc' := 312) C at_311 (V35.ext X833) (by decide) (v := (.int c15)) rfl rfl ?_
                refine Ww.icmp_ne C at_312 (by decide) (pcT := 319) (by decide) (pc' := 315) rfl (fun q => absurd rfl q) (fun q834 => ?_)
                refine Ww.iconst (pc' := 316) C at_315 (v := (1 : Int32)) rfl rfl ?_
                refine Ww.goto C at_316 (by decide) (pc' := 320) (by decide) ?_
                refine Ww.istore (pc' := 322) C at_320 (Ls' := #[.val (.int p0), .val (.int p1), .val (.int p2), .val (.int p3), .val (.int p4), .val (.int (3 : Int32)), .val (.int c15), .val (.int c19), .val (.int c23), .val (.int c27), .val (.ref a29), .val (.ref a367), .val (.int (0 : Int32)), .val (.int (3 : Int32)), .val (.int (3 : Int32)), .val (.ref x818), .val (.int (1 : Int32))]) rfl rfl ?_
                refine Ww.iload (pc' := 324) C at_322 rfl rfl ?_
                refine Ww.if_eq C at_324 (by decide) (pcT := 356) (by decide) (pc' := 327) rfl (fun q => absurd q (by decide)) (fun q835 => ?_)
                refine Ww.iload (pc' := 329) C at_327 rfl rfl ?_
                refine Ww.iconst (pc' := 330) C at_329 (v := (1 : Int32)) rfl rfl ?_
                refine Ww.icmp_le C at_330 (by decide) (pcT := 356) (by decide) (pc' := 333) rfl (fun q => absurd q (by decide)) (fun q836 => ?_)
                refine Ww.aload (pc' := 335) C at_333 rfl rfl rfl ?_
                refine Ww.iconst (pc' := 336) C at_335 (v := (1 : Int32)) rfl rfl ?_
                refine Ww.callV (pc' := 339) C at_336 (a := x818) (fun vm0 C => (strAt C hw hs O817 (Wn := 0) (i := 1) G15 (show _ < _ from Nat.le_of_ble_eq_true rfl) rfl (by decide) (by decide))) (pureC (P := fun v => v = some (.int (([c15, c19, c23] : List Int32).getD 1 0))) O817) (fun v h' q => Or.inl q.2) S817.exa (w114 hw) (w70 hw) (fun vm0 hZ0 => notFace_of_selects (args := #[]) (mvT (s := W.s.setVm vm0) hZ0 (w72 hw))) (w72 hw) (w71 hw) (by decide) (argsL := [(.int (1 : Int32))]) (st := []) rfl rfl (lenOf pd10 rfl) rfl (Nat.le_of_eq rfl) (k' := 8) rfl (n' := 26) rfl (by decide) (by decide) rfl ?_
                intro r837 h838 Q838 O838
                obtain ⟨rfl, e839⟩ := Q838
                obtain rfl := e839.symm
                refine Ww.aload (pc' := 341) C at_339 rfl rfl rfl ?_
                refine Ww.iload (pc' := 343) C at_341 rfl rfl ?_
                refine Ww.iconst (pc' := 344) C at_343 (v := (1 : Int32)) rfl rfl ?_
                refine Ww.iadd (pc' := 345) C at_344 (v := (1 : Int32)) (by decide) rfl ?_
                refine Ww.caload (pc' := 346) C at_345 (V35.ext X833) (by decide) (v := (.int c19)) rfl rfl ?_
                refine Ww.icmp_ne C at_346 (by decide) (pcT := 353) (by decide) (pc' := 349) rfl (fun q => absurd rfl q) (fun q840 => ?_)
                refine Ww.iconst (pc' := 350) C at_349 (v := (1 : Int32)) rfl rfl ?_
                refine Ww.goto C at_350 (by decide) (pc' := 354) (by decide) ?_
                refine Ww.istore (pc' := 356) C at_354 (Ls' := #[.val (.int p0), .val (.int p1), .val (.int p2), .val (.int p3), .val (.int p4), .val (.int (3 : Int32)), .val (.int c15), .val (.int c19), .val (.int c23), .val (.int c27), .val (.ref a29), .val (.ref a367), .val (.int (0 : Int32)), .val (.int (3 : Int32)), .val (.int (3 : Int32)), .val (.ref x818), .val (.int (1 : Int32))]) rfl rfl ?_
                refine Ww.iload (pc' := 358) C at_356 rfl rfl ?_
                refine Ww.if_eq C at_358 (by decide) (pcT := 390) (by decide) (pc' := 361) rfl (fun q => absurd q (by decide)) (fun q841 => ?_)
                refine Ww.iload (pc' := 363) C at_361 rfl rfl ?_
                refine Ww.iconst (pc' := 364) C at_363 (v := (2 : Int32)) rfl rfl ?_
                refine Ww.icmp_le C at_364 (by decide) (pcT := 390) (by decide) (pc' := 367) rfl (fun q => absurd q (by decide)) (fun q842 => ?_)
                refine Ww.aload (pc' := 369) C at_367 rfl rfl rfl ?_
                refine Ww.iconst (pc' := 370) C at_369 (v := (2 : Int32)) rfl rfl ?_
                refine Ww.callV (pc' := 373) C at_370 (a := x818) (fun vm0 C => (strAt C hw hs O817 (Wn := 0) (i := 2) G15 (show _ < _ from Nat.le_of_ble_eq_true rfl) rfl (by decide) (by decide))) (pureC (P := fun v => v = some (.int (([c15, c19, c23] : List Int32).getD 2 0))) O817) (fun v h' q => Or.inl q.2) S817.exa (w114 hw) (w70 hw) (fun vm0 hZ0 => notFace_of_selects (args := #[]) (mvT (s := W.s.setVm vm0) hZ0 (w72 hw))) (w72 hw) (w71 hw) (by decide) (argsL := [(.int (2 : Int32))]) (st := []) rfl rfl (lenOf pd10 rfl) rfl (Nat.le_of_eq rfl) (k' := 8) rfl (n' := 26) rfl (by decide) (by decide) rfl ?_
                intro r843 h844 Q844 O844
                obtain ⟨rfl, e845⟩ := Q844
                obtain rfl := e845.symm
                refine Ww.aload (pc' := 375) C at_373 rfl rfl rfl ?_
                refine Ww.iload (pc' := 377) C at_375 rfl rfl ?_
                refine Ww.iconst (pc' := 378) C at_377 (v := (2 : Int32)) rfl rfl ?_
                refine Ww.iadd (pc' := 379) C at_378 (v := (2 : Int32)) (by decide) rfl ?_
                refine Ww.caload (pc' := 380) C at_379 (V35.ext X833) (by decide) (v := (.int c23)) rfl rfl ?_
                refine Ww.icmp_ne C at_380 (by decide) (pcT := 387) (by decide) (pc' := 383) rfl (fun q => absurd rfl q) (fun q846 => ?_)
                refine Ww.iconst (pc' := 384) C at_383 (v := (1 : Int32)) rfl rfl ?_
                refine Ww.goto C at_384 (by decide) (pc' := 388) (by decide) ?_
                refine Ww.istore (pc' := 390) C at_388 (Ls' := #[.val (.int p0), .val (.int p1), .val (.int p2), .val (.int p3), .val (.int p4), .val (.int (3 : Int32)), .val (.int c15), .val (.int c19), .val (.int c23), .val (.int c27), .val (.ref a29), .val (.ref a367), .val (.int (0 : Int32)), .val (.int (3 : Int32)), .val (.int (3 : Int32)), .val (.ref x818), .val (.int (1 : Int32))]) rfl rfl ?_
                refine Ww.iload (pc' := 392) C at_390 rfl rfl ?_
                refine Ww.if_eq C at_392 (by decide) (pcT := 424) (by decide) (pc' := 395) rfl (fun q => absurd q (by decide)) (fun q847 => ?_)
                refine Ww.iload (pc' := 397) C at_395 rfl rfl ?_
                refine Ww.iconst (pc' := 398) C at_397 (v := (3 : Int32)) rfl rfl ?_
                refine Ww.icmp_le C at_398 (by decide) (pcT := 424) (by decide) (pc' := 401) rfl (fun q848 => ?_) (fun q => absurd q (by decide))
                refine Ww.iload (pc' := 426) C at_424 rfl rfl ?_
                exact Ww.retNar (ty := .boolean) C hE (by simp) at_426 rfl (by decide) (by decide) rfl
  · -- the length is 4
    subst hl5
    refine Ww.iload (pc' := 60) C at_58 rfl rfl ?_
    refine Ww.newA (pc' := 62) C at_60 (ty := .char) rfl (w4 hw) (by decide) (cap := 4) (by decide) (by decide) (k' := 2) rfl (n' := 8) rfl (by decide) (by decide) rfl rfl ?_
    intro a849 h850 ga849 za849 E850 Va849 O850
    have V851 : Wk.Ary Z h850 a849 .char [(.int (0 : Int32)), (.int (0 : Int32)), (.int (0 : Int32)), (.int (0 : Int32))] := Va849
    refine Ww.astore (pc' := 64) C at_62 rfl (Ls' := #[.val (.int p0), .val (.int p1), .val (.int p2), .val (.int p3), .val (.int p4), .val (.int (4 : Int32)), .val (.int c15), .val (.int c19), .val (.int c23), .val (.int c27), .val (.ref a29), .val (.ref a849), .unset, .unset, .unset, .unset, .unset]) rfl rfl ?_
    refine Ww.iload (pc' := 66) C at_64 rfl rfl ?_
    refine Ww.if_le C at_66 (by decide) (pcT := 75) (by decide) (pc' := 69) rfl (fun q => absurd q (by decide)) (fun q852 => ?_)
    refine Ww.aload (pc' := 71) C at_69 rfl rfl rfl ?_
    refine Ww.iconst (pc' := 72) C at_71 (v := (0 : Int32)) rfl rfl ?_
    refine Ww.iload (pc' := 74) C at_72 rfl rfl ?_
    refine Ww.castore (pc' := 75) C at_74 V851 (by decide) (show _ < _ from Nat.le_of_ble_eq_true rfl) (Wk.nar_rng rc15) (vs' := [(.int c15), (.int (0 : Int32)), (.int (0 : Int32)), (.int (0 : Int32))]) rfl za849 (List.mem_of_getElem? (i := 0) rfl) rfl ?_
    intro h853 W853 V853 O853
    refine Ww.iload (pc' := 77) C at_75 rfl rfl ?_
    refine Ww.iconst (pc' := 78) C at_77 (v := (1 : Int32)) rfl rfl ?_
    refine Ww.icmp_le C at_78 (by decide) (pcT := 87) (by decide) (pc' := 81) rfl (fun q => absurd q (by decide)) (fun q854 => ?_)
    refine Ww.aload (pc' := 83) C at_81 rfl rfl rfl ?_
    refine Ww.iconst (pc' := 84) C at_83 (v := (1 : Int32)) rfl rfl ?_
    refine Ww.iload (pc' := 86) C at_84 rfl rfl ?_
    refine Ww.castore (pc' := 87) C at_86 V853 (by decide) (show _ < _ from Nat.le_of_ble_eq_true rfl) (Wk.nar_rng rc19) (vs' := [(.int c15), (.int c19), (.int (0 : Int32)), (.int (0 : Int32))]) rfl za849 (List.mem_of_getElem? (i := 0) rfl) rfl ?_
    intro h855 W855 V855 O855
    refine Ww.iload (pc' := 89) C at_87 rfl rfl ?_
    refine Ww.iconst (pc' := 90) C at_89 (v := (2 : Int32)) rfl rfl ?_
    refine Ww.icmp_le C at_90 (by decide) (pcT := 99) (by decide) (pc' := 93) rfl (fun q => absurd q (by decide)) (fun q856 => ?_)
    refine Ww.aload (pc' := 95) C at_93 rfl rfl rfl ?_
    refine Ww.iconst (pc' := 96) C at_95 (v := (2 : Int32)) rfl rfl ?_
    refine Ww.iload (pc' := 98) C at_96 rfl rfl ?_
    refine Ww.castore (pc' := 99) C at_98 V855 (by decide) (show _ < _ from Nat.le_of_ble_eq_true rfl) (Wk.nar_rng rc23) (vs' := [(.int c15), (.int c19), (.int c23), (.int (0 : Int32))]) rfl za849 (List.mem_of_getElem? (i := 0) rfl) rfl ?_
    intro h857 W857 V857 O857
    refine Ww.iload (pc' := 101) C at_99 rfl rfl ?_
    refine Ww.iconst (pc' := 102) C at_101 (v := (3 : Int32)) rfl rfl ?_
    refine Ww.icmp_le C at_102 (by decide) (pcT := 111) (by decide) (pc' := 105) rfl (fun q => absurd q (by decide)) (fun q858 => ?_)
    refine Ww.aload (pc' := 107) C at_105 rfl rfl rfl ?_
    refine Ww.iconst (pc' := 108) C at_107 (v := (3 : Int32)) rfl rfl ?_
    refine Ww.iload (pc' := 110) C at_108 rfl rfl ?_
    refine Ww.castore (pc' := 111) C at_110 V857 (by decide) (show _ < _ from Nat.le_of_ble_eq_true rfl) (Wk.nar_rng rc27) (vs' := [(.int c15), (.int c19), (.int c23), (.int c27)]) rfl za849 (List.mem_of_getElem? (i := 0) rfl) rfl ?_
    intro h859 W859 V859 O859
    refine Ww.iload (pc' := 113) C at_111 rfl rfl ?_
    refine Ww.istore (pc' := 115) C at_113 (Ls' := #[.val (.int p0), .val (.int p1), .val (.int p2), .val (.int p3), .val (.int p4), .val (.int (4 : Int32)), .val (.int c15), .val (.int c19), .val (.int c23), .val (.int c27), .val (.ref a29), .val (.ref a849), .val (.int (4 : Int32)), .unset, .unset, .unset, .unset]) rfl rfl ?_
    refine Ww.iload (pc' := 117) C at_115 rfl rfl ?_
    refine Ww.iconst (pc' := 118) C at_117 (v := (3 : Int32)) rfl rfl ?_
    refine Ww.icmp_le C at_118 (by decide) (pcT := 132) (by decide) (pc' := 121) rfl (fun q => absurd q (by decide)) (fun q860 => ?_)
    refine Ww.iload (pc' := 123) C at_121 rfl rfl ?_
    refine Ww.callS (pc' := 126) C at_123 (fun vm0 C => (Wk.Con.pays C (Wn := 0) (own_sp l hw O859 c27) (w58 hw) (w2 hw) (by decide) (by decide))) Wk.cleanC (fun v h' q => Or.inl q.2) (w56 hw) (w57 hw) (w2 hw) (w58 hw) (by decide) (argsL := [(.int c27)]) (st := []) rfl rfl (lenOf pd14 rfl) rfl (Nat.le_of_eq rfl) (k' := 2) rfl (n' := 8) rfl (by decide) (by decide) rfl ?_
    intro r861 h862 Q862 O862
    obtain ⟨q864, e863⟩ := Q862
    obtain rfl := e863.symm
    rcases q864 with ⟨rfl, q864⟩ | ⟨rfl, q864⟩
    · -- space: True
      refine Ww.if_ne C at_126 (by decide) (pcT := 132) (by decide) (pc' := 129) rfl (fun q865 => ?_) (fun q => absurd q (by decide))
      refine Ww.iload (pc' := 134) C at_132 rfl rfl ?_
      refine Ww.iconst (pc' := 135) C at_134 (v := (2 : Int32)) rfl rfl ?_
      refine Ww.icmp_le C at_135 (by decide) (pcT := 149) (by decide) (pc' := 138) rfl (fun q => absurd q (by decide)) (fun q866 => ?_)
      refine Ww.iload (pc' := 140) C at_138 rfl rfl ?_
      refine Ww.callS (pc' := 143) C at_140 (fun vm0 C => (Wk.Con.pays C (Wn := 0) (own_sp l hw O859 c23) (w58 hw) (w2 hw) (by decide) (by decide))) Wk.cleanC (fun v h' q => Or.inl q.2) (w56 hw) (w57 hw) (w2 hw) (w58 hw) (by decide) (argsL := [(.int c23)]) (st := []) rfl rfl (lenOf pd14 rfl) rfl (Nat.le_of_eq rfl) (k' := 2) rfl (n' := 8) rfl (by decide) (by decide) rfl ?_
      intro r867 h868 Q868 O868
      obtain ⟨q870, e869⟩ := Q868
      obtain rfl := e869.symm
      rcases q870 with ⟨rfl, q870⟩ | ⟨rfl, q870⟩
      · -- space: True
        refine Ww.if_ne C at_143 (by decide) (pcT := 149) (by decide) (pc' := 146) rfl (fun q871 => ?_) (fun q => absurd q (by decide))
        refine Ww.iload (pc' := 151) C at_149 rfl rfl ?_
        refine Ww.iconst (pc' := 152) C at_151 (v := (1 : Int32)) rfl rfl ?_
        refine Ww.icmp_le C at_152 (by decide) (pcT := 166) (by decide) (pc' := 155) rfl (fun q => absurd q (by decide)) (fun q872 => ?_)
        refine Ww.iload (pc' := 157) C at_155 rfl rfl ?_
        refine Ww.callS (pc' := 160) C at_157 (fun vm0 C => (Wk.Con.pays C (Wn := 0) (own_sp l hw O859 c19) (w58 hw) (w2 hw) (by decide) (by decide))) Wk.cleanC (fun v h' q => Or.inl q.2) (w56 hw) (w57 hw) (w2 hw) (w58 hw) (by decide) (argsL := [(.int c19)]) (st := []) rfl rfl (lenOf pd14 rfl) rfl (Nat.le_of_eq rfl) (k' := 2) rfl (n' := 8) rfl (by decide) (by decide) rfl ?_
        intro r873 h874 Q874 O874
        obtain ⟨q876, e875⟩ := Q874
        obtain rfl := e875.symm
        rcases q876 with ⟨rfl, q876⟩ | ⟨rfl, q876⟩
        · -- space: True
          refine Ww.if_ne C at_160 (by decide) (pcT := 166) (by decide) (pc' := 163) rfl (fun q877 => ?_) (fun q => absurd q (by decide))
          refine Ww.iload (pc' := 168) C at_166 rfl rfl ?_
          refine Ww.if_le C at_168 (by decide) (pcT := 182) (by decide) (pc' := 171) rfl (fun q => absurd q (by decide)) (fun q878 => ?_)
          refine Ww.iload (pc' := 173) C at_171 rfl rfl ?_
          refine Ww.callS (pc' := 176) C at_173 (fun vm0 C => (Wk.Con.pays C (Wn := 0) (own_sp l hw O859 c15) (w58 hw) (w2 hw) (by decide) (by decide))) Wk.cleanC (fun v h' q => Or.inl q.2) (w56 hw) (w57 hw) (w2 hw) (w58 hw) (by decide) (argsL := [(.int c15)]) (st := []) rfl rfl (lenOf pd14 rfl) rfl (Nat.le_of_eq rfl) (k' := 2) rfl (n' := 8) rfl (by decide) (by decide) rfl ?_
          intro r879 h880 Q880 O880
          obtain ⟨q882, e881⟩ := Q880
          obtain rfl := e881.symm
          rcases q882 with ⟨rfl, q882⟩ | ⟨rfl, q882⟩
          · -- space: True
            refine Ww.if_ne C at_176 (by decide) (pcT := 182) (by decide) (pc' := 179) rfl (fun q883 => ?_) (fun q => absurd q (by decide))
            refine Ww.iload (pc' := 184) C at_182 rfl rfl ?_
            refine Ww.istore (pc' := 186) C at_184 (Ls' := #[.val (.int p0), .val (.int p1), .val (.int p2), .val (.int p3), .val (.int p4), .val (.int (4 : Int32)), .val (.int c15), .val (.int c19), .val (.int c23), .val (.int c27), .val (.ref a29), .val (.ref a849), .val (.int (4 : Int32)), .val (.int (4 : Int32)), .unset, .unset, .unset]) rfl rfl ?_
            refine Ww.iload (pc' := 188) C at_186 rfl rfl ?_
            refine Ww.if_le C at_188 (by decide) (pcT := 202) (by decide) (pc' := 191) rfl (fun q => absurd q (by decide)) (fun q884 => ?_)
            refine Ww.iload (pc' := 193) C at_191 rfl rfl ?_
            refine Ww.callS (pc' := 196) C at_193 (fun vm0 C => (Wk.Con.pays C (Wn := 0) (own_sp l hw O859 c15) (w58 hw) (w2 hw) (by decide) (by decide))) Wk.cleanC (fun v h' q => Or.inl q.2) (w56 hw) (w57 hw) (w2 hw) (w58 hw) (by decide) (argsL := [(.int c15)]) (st := []) rfl rfl (lenOf pd14 rfl) rfl (Nat.le_of_eq rfl) (k' := 2) rfl (n' := 8) rfl (by decide) (by decide) rfl ?_
            intro r885 h886 Q886 O886
            obtain ⟨q888, e887⟩ := Q886
            obtain rfl := e887.symm
            rcases q888 with ⟨rfl, q888⟩ | ⟨rfl, q888⟩
            · -- space: True
              refine Ww.if_ne C at_196 (by decide) (pcT := 202) (by decide) (pc' := 199) rfl (fun q889 => ?_) (fun q => absurd q (by decide))
              refine Ww.iload (pc' := 204) C at_202 rfl rfl ?_
              refine Ww.iconst (pc' := 205) C at_204 (v := (1 : Int32)) rfl rfl ?_
              refine Ww.icmp_le C at_205 (by decide) (pcT := 219) (by decide) (pc' := 208) rfl (fun q => absurd q (by decide)) (fun q890 => ?_)
              refine Ww.iload (pc' := 210) C at_208 rfl rfl ?_
              refine Ww.callS (pc' := 213) C at_210 (fun vm0 C => (Wk.Con.pays C (Wn := 0) (own_sp l hw O859 c19) (w58 hw) (w2 hw) (by decide) (by decide))) Wk.cleanC (fun v h' q => Or.inl q.2) (w56 hw) (w57 hw) (w2 hw) (w58 hw) (by decide) (argsL := [(.int c19)]) (st := []) rfl rfl (lenOf pd14 rfl) rfl (Nat.le_of_eq rfl) (k' := 2) rfl (n' := 8) rfl (by decide) (by decide) rfl ?_
              intro r891 h892 Q892 O892
              obtain ⟨q894, e893⟩ := Q892
              obtain rfl := e893.symm
              rcases q894 with ⟨rfl, q894⟩ | ⟨rfl, q894⟩
              · -- space: True
                refine Ww.if_ne C at_213 (by decide) (pcT := 219) (by decide) (pc' := 216) rfl (fun q895 => ?_) (fun q => absurd q (by decide))
                refine Ww.iload (pc' := 221) C at_219 rfl rfl ?_
                refine Ww.iconst (pc' := 222) C at_221 (v := (2 : Int32)) rfl rfl ?_
                refine Ww.icmp_le C at_222 (by decide) (pcT := 236) (by decide) (pc' := 225) rfl (fun q => absurd q (by decide)) (fun q896 => ?_)
                refine Ww.iload (pc' := 227) C at_225 rfl rfl ?_
                refine Ww.callS (pc' := 230) C at_227 (fun vm0 C => (Wk.Con.pays C (Wn := 0) (own_sp l hw O859 c23) (w58 hw) (w2 hw) (by decide) (by decide))) Wk.cleanC (fun v h' q => Or.inl q.2) (w56 hw) (w57 hw) (w2 hw) (w58 hw) (by decide) (argsL := [(.int c23)]) (st := []) rfl rfl (lenOf pd14 rfl) rfl (Nat.le_of_eq rfl) (k' := 2) rfl (n' := 8) rfl (by decide) (by decide) rfl ?_
                intro r897 h898 Q898 O898
                obtain ⟨q900, e899⟩ := Q898
                obtain rfl := e899.symm
                rcases q900 with ⟨rfl, q900⟩ | ⟨rfl, q900⟩
                · -- space: True
                  refine Ww.if_ne C at_230 (by decide) (pcT := 236) (by decide) (pc' := 233) rfl (fun q901 => ?_) (fun q => absurd q (by decide))
                  refine Ww.iload (pc' := 238) C at_236 rfl rfl ?_
                  refine Ww.iconst (pc' := 239) C at_238 (v := (3 : Int32)) rfl rfl ?_
                  refine Ww.icmp_le C at_239 (by decide) (pcT := 253) (by decide) (pc' := 242) rfl (fun q => absurd q (by decide)) (fun q902 => ?_)
                  refine Ww.iload (pc' := 244) C at_242 rfl rfl ?_
                  refine Ww.callS (pc' := 247) C at_244 (fun vm0 C => (Wk.Con.pays C (Wn := 0) (own_sp l hw O859 c27) (w58 hw) (w2 hw) (by decide) (by decide))) Wk.cleanC (fun v h' q => Or.inl q.2) (w56 hw) (w57 hw) (w2 hw) (w58 hw) (by decide) (argsL := [(.int c27)]) (st := []) rfl rfl (lenOf pd14 rfl) rfl (Nat.le_of_eq rfl) (k' := 2) rfl (n' := 8) rfl (by decide) (by decide) rfl ?_
                  intro r903 h904 Q904 O904
                  obtain ⟨q906, e905⟩ := Q904
                  obtain rfl := e905.symm
                  rcases q906 with ⟨rfl, q906⟩ | ⟨rfl, q906⟩
                  · -- space: True
                    refine Ww.if_ne C at_247 (by decide) (pcT := 253) (by decide) (pc' := 250) rfl (fun q907 => ?_) (fun q => absurd q (by decide))
                    refine Ww.iload (pc' := 255) C at_253 rfl rfl ?_
                    refine Ww.iload (pc' := 257) C at_255 rfl rfl ?_
                    refine Ww.isub (pc' := 258) C at_257 (v := (0 : Int32)) (by decide) rfl ?_
                    refine Ww.istore (pc' := 260) C at_258 (Ls' := #[.val (.int p0), .val (.int p1), .val (.int p2), .val (.int p3), .val (.int p4), .val (.int (4 : Int32)), .val (.int c15), .val (.int c19), .val (.int c23), .val (.int c27), .val (.ref a29), .val (.ref a849), .val (.int (4 : Int32)), .val (.int (4 : Int32)), .val (.int (0 : Int32)), .unset, .unset]) rfl rfl ?_
                    refine Ww.newO (pc' := 263) C at_260 (w5 hw) (w6 hw) (w7 hw) (k' := 3) rfl (n' := 12) rfl (by decide) (by decide) rfl ?_
                    intro a908 h909 ga908 za908 E909 Aa908 Da908 Ua908 O909
                    have F910 : Fld Z h909 a908 "java/lang/String" "value" "[B" .null := Da908 (Or.inr (w20 hw)) (ty := (.array .byte)) (by decide)
                    have F911 : Fld Z h909 a908 "java/lang/String" "coder" "B" (.int (0 : Int32)) := Da908 (Or.inr (w21 hw)) (ty := .byte) (by decide)
                    refine Ww.dup (pc' := 264) C at_263 rfl rfl ?_
                    refine Ww.aload (pc' := 266) C at_264 rfl rfl rfl ?_
                    have hp912 : ∀ c ∈ ([c15, c19, c23, c27] : List Int32), ¬ c < 0 ∧ ¬ (255 : Int32) < c := (List.forall_mem_cons.mpr ⟨rc15, (List.forall_mem_cons.mpr ⟨rc19, (List.forall_mem_cons.mpr ⟨rc23, (List.forall_mem_cons.mpr ⟨rc27, (fun _ h => nomatch h)⟩)⟩)⟩)⟩)
                    refine Ww.callI (pc' := 269) C at_266 (a := a908) (fun vm0 C => (strNew C hw hs O909 (cs := [c15, c19, c23, c27]) (n := 4) (Wn := 1) za908 Aa908 F910 F911 (V859.ext E909) rfl (by decide) (by decide) hp912 (by decide) (by decide))) (strNewC (n := 4) O909 za908 rfl (by decide) hp912) (fun v h' q => Or.inr (Or.inr ⟨a908, (List.mem_of_getElem? (i := 0) rfl), q.2.1⟩)) rfl (w8 hw) (w9 hw) (w10 hw) (by decide) (argsL := [(.ref a849)]) (st := [(.ref a908)]) rfl rfl (lenOf pd12 rfl) rfl (Nat.le_of_eq rfl) (k' := 4) rfl (n' := 16) rfl (by decide) (by decide) rfl ?_
                    intro r913 h914 Q914 O914
                    obtain ⟨rfl, Kh914, Sh914⟩ := Q914
                    refine Ww.callSS (pc' := 272) C at_269 (Ww.Con.pays hE (Wn := 0) (own_wos l hw hE O914 hs a908 [c15, c19, c23, c27] Sh914 (show _ ≤ 4 from Nat.le_of_ble_eq_true rfl)) (w29 hw) (w28 hw) (by decide) (by decide)) Wk.cleanC (w26 hw) (w27 hw) (w28 hw) (w29 hw) (by decide) (argsL := [(.ref a908)]) (st := []) rfl rfl (lenOf pd13 rfl) rfl (Nat.le_of_eq rfl) (k' := 8) rfl (n' := 28) rfl (by decide) (by decide) rfl ?_
                    intro r915 h916 Q916 O916
                    obtain ⟨x917, rfl, E916, S916⟩ := Q916
                    refine Ww.astore (pc' := 274) C at_272 rfl (Ls' := #[.val (.int p0), .val (.int p1), .val (.int p2), .val (.int p3), .val (.int p4), .val (.int (4 : Int32)), .val (.int c15), .val (.int c19), .val (.int c23), .val (.int c27), .val (.ref a29), .val (.ref a849), .val (.int (4 : Int32)), .val (.int (4 : Int32)), .val (.int (0 : Int32)), .val (.ref x917), .unset]) rfl rfl ?_
                    have hT : trim [c15, c19, c23, c27] = [] := by simp [trim, lead, endAt, q882, q876, q870, q864]
                    have G15 : Str Z h916 x917 [] := hT ▸ S916
                    refine Ww.aload (pc' := 276) C at_274 rfl rfl rfl ?_
                    refine Ww.callV (pc' := 279) C at_276 (a := x917) (fun vm0 C => (strLen C hw hs O916 (Wn := 0) G15 (by decide) (by decide))) (pureC (P := fun v => v = some (.int (Int32.ofNat ([] : List Int32).length))) O916) (fun v h' q => Or.inl q.2) S916.exa (w55 hw) (w31 hw) (fun vm0 hZ0 => notFace_of_selects (args := #[]) (mvT (s := W.s.setVm vm0) hZ0 (w33 hw))) (w33 hw) (w32 hw) (by decide) (argsL := []) (st := []) rfl rfl (lenOf pd5 rfl) rfl (Nat.le_of_eq rfl) (k' := 8) rfl (n' := 28) rfl (by decide) (by decide) rfl ?_
                    intro r918 h919 Q919 O919
                    obtain ⟨rfl, e920⟩ := Q919
                    obtain rfl := e920.symm
                    refine Ww.iload (pc' := 281) C at_279 rfl rfl ?_
                    refine Ww.icmp_ne C at_281 (by decide) (pcT := 288) (by decide) (pc' := 284) rfl (fun q => absurd rfl q) (fun q921 => ?_)
                    refine Ww.iconst (pc' := 285) C at_284 (v := (1 : Int32)) rfl rfl ?_
                    refine Ww.goto C at_285 (by decide) (pc' := 289) (by decide) ?_
                    refine Ww.istore (pc' := 291) C at_289 (Ls' := #[.val (.int p0), .val (.int p1), .val (.int p2), .val (.int p3), .val (.int p4), .val (.int (4 : Int32)), .val (.int c15), .val (.int c19), .val (.int c23), .val (.int c27), .val (.ref a29), .val (.ref a849), .val (.int (4 : Int32)), .val (.int (4 : Int32)), .val (.int (0 : Int32)), .val (.ref x917), .val (.int (1 : Int32))]) rfl rfl ?_
                    refine Ww.iload (pc' := 293) C at_291 rfl rfl ?_
                    refine Ww.if_eq C at_293 (by decide) (pcT := 322) (by decide) (pc' := 296) rfl (fun q => absurd q (by decide)) (fun q922 => ?_)
                    refine Ww.iload (pc' := 298) C at_296 rfl rfl ?_
                    refine Ww.if_le C at_298 (by decide) (pcT := 322) (by decide) (pc' := 301) rfl (fun q923 => ?_) (fun q => absurd q (by decide))
                    refine Ww.iload (pc' := 324) C at_322 rfl rfl ?_
                    refine Ww.if_eq C at_324 (by decide) (pcT := 356) (by decide) (pc' := 327) rfl (fun q => absurd q (by decide)) (fun q924 => ?_)
                    refine Ww.iload (pc' := 329) C at_327 rfl rfl ?_
                    refine Ww.iconst (pc' := 330) C at_329 (v := (1 : Int32)) rfl rfl ?_
                    refine Ww.icmp_le C at_330 (by decide) (pcT := 356) (by decide) (pc' := 333) rfl (fun q925 => ?_) (fun q => absurd q (by decide))
                    refine Ww.iload (pc' := 358) C at_356 rfl rfl ?_
                    refine Ww.if_eq C at_358 (by decide) (pcT := 390) (by decide) (pc' := 361) rfl (fun q => absurd q (by decide)) (fun q926 => ?_)
                    refine Ww.iload (pc' := 363) C at_361 rfl rfl ?_
                    refine Ww.iconst (pc' := 364) C at_363 (v := (2 : Int32)) rfl rfl ?_
                    refine Ww.icmp_le C at_364 (by decide) (pcT := 390) (by decide) (pc' := 367) rfl (fun q927 => ?_) (fun q => absurd q (by decide))
                    refine Ww.iload (pc' := 392) C at_390 rfl rfl ?_
                    refine Ww.if_eq C at_392 (by decide) (pcT := 424) (by decide) (pc' := 395) rfl (fun q => absurd q (by decide)) (fun q928 => ?_)
                    refine Ww.iload (pc' := 397) C at_395 rfl rfl ?_
                    refine Ww.iconst (pc' := 398) C at_397 (v := (3 : Int32)) rfl rfl ?_
                    refine Ww.icmp_le C at_398 (by decide) (pcT := 424) (by decide) (pc' := 401) rfl (fun q929 => ?_) (fun q => absurd q (by decide))
                    refine Ww.iload (pc' := 426) C at_424 rfl rfl ?_
                    exact Ww.retNar (ty := .boolean) C hE (by simp) at_426 rfl (by decide) (by decide) rfl
                  · -- space: False
                    exact absurd q864 q906
                · -- space: False
                  exact absurd q870 q900
              · -- space: False
                exact absurd q876 q894
            · -- space: False
              exact absurd q882 q888
          · -- space: False
            refine Ww.if_ne C at_176 (by decide) (pcT := 182) (by decide) (pc' := 179) rfl (fun q => absurd q (by decide)) (fun q930 => ?_)
            refine Ww.iconst (pc' := 180) C at_179 (v := (0 : Int32)) rfl rfl ?_
            refine Ww.istore (pc' := 182) C at_180 (Ls' := #[.val (.int p0), .val (.int p1), .val (.int p2), .val (.int p3), .val (.int p4), .val (.int (4 : Int32)), .val (.int c15), .val (.int c19), .val (.int c23), .val (.int c27), .val (.ref a29), .val (.ref a849), .val (.int (0 : Int32)), .unset, .unset, .unset, .unset]) rfl rfl ?_
            refine Ww.iload (pc' := 184) C at_182 rfl rfl ?_
            refine Ww.istore (pc' := 186) C at_184 (Ls' := #[.val (.int p0), .val (.int p1), .val (.int p2), .val (.int p3), .val (.int p4), .val (.int (4 : Int32)), .val (.int c15), .val (.int c19), .val (.int c23), .val (.int c27), .val (.ref a29), .val (.ref a849), .val (.int (0 : Int32)), .val (.int (0 : Int32)), .unset, .unset, .unset]) rfl rfl ?_
            refine Ww.iload (pc' := 188) C at_186 rfl rfl ?_
            refine Ww.if_le C at_188 (by decide) (pcT := 202) (by decide) (pc' := 191) rfl (fun q => absurd q (by decide)) (fun q931 => ?_)
            refine Ww.iload (pc' := 193) C at_191 rfl rfl ?_
            refine Ww.callS (pc' := 196) C at_193 (fun vm0 C => (Wk.Con.pays C (Wn := 0) (own_sp l hw O859 c15) (w58 hw) (w2 hw) (by decide) (by decide))) Wk.cleanC (fun v h' q => Or.inl q.2) (w56 hw) (w57 hw) (w2 hw) (w58 hw) (by decide) (argsL := [(.int c15)]) (st := []) rfl rfl (lenOf pd14 rfl) rfl (Nat.le_of_eq rfl) (k' := 2) rfl (n' := 8) rfl (by decide) (by decide) rfl ?_
            intro r932 h933 Q933 O933
            obtain ⟨q935, e934⟩ := Q933
            obtain rfl := e934.symm
            rcases q935 with ⟨rfl, q935⟩ | ⟨rfl, q935⟩
            · -- space: True
              exact absurd q935 q882
            · -- space: False
              refine Ww.if_ne C at_196 (by decide) (pcT := 202) (by decide) (pc' := 199) rfl (fun q => absurd q (by decide)) (fun q936 => ?_)
              refine Ww.iconst (pc' := 200) C at_199 (v := (1 : Int32)) rfl rfl ?_
              refine Ww.istore (pc' := 202) C at_200 (Ls' := #[.val (.int p0), .val (.int p1), .val (.int p2), .val (.int p3), .val (.int p4), .val (.int (4 : Int32)), .val (.int c15), .val (.int c19), .val (.int c23), .val (.int c27), .val (.ref a29), .val (.ref a849), .val (.int (0 : Int32)), .val (.int (1 : Int32)), .unset, .unset, .unset]) rfl rfl ?_
              refine Ww.iload (pc' := 204) C at_202 rfl rfl ?_
              refine Ww.iconst (pc' := 205) C at_204 (v := (1 : Int32)) rfl rfl ?_
              refine Ww.icmp_le C at_205 (by decide) (pcT := 219) (by decide) (pc' := 208) rfl (fun q => absurd q (by decide)) (fun q937 => ?_)
              refine Ww.iload (pc' := 210) C at_208 rfl rfl ?_
              refine Ww.callS (pc' := 213) C at_210 (fun vm0 C => (Wk.Con.pays C (Wn := 0) (own_sp l hw O859 c19) (w58 hw) (w2 hw) (by decide) (by decide))) Wk.cleanC (fun v h' q => Or.inl q.2) (w56 hw) (w57 hw) (w2 hw) (w58 hw) (by decide) (argsL := [(.int c19)]) (st := []) rfl rfl (lenOf pd14 rfl) rfl (Nat.le_of_eq rfl) (k' := 2) rfl (n' := 8) rfl (by decide) (by decide) rfl ?_
              intro r938 h939 Q939 O939
              obtain ⟨q941, e940⟩ := Q939
              obtain rfl := e940.symm
              rcases q941 with ⟨rfl, q941⟩ | ⟨rfl, q941⟩
              · -- space: True
                refine Ww.if_ne C at_213 (by decide) (pcT := 219) (by decide) (pc' := 216) rfl (fun q942 => ?_) (fun q => absurd q (by decide))
                refine Ww.iload (pc' := 221) C at_219 rfl rfl ?_
                refine Ww.iconst (pc' := 222) C at_221 (v := (2 : Int32)) rfl rfl ?_
                refine Ww.icmp_le C at_222 (by decide) (pcT := 236) (by decide) (pc' := 225) rfl (fun q => absurd q (by decide)) (fun q943 => ?_)
                refine Ww.iload (pc' := 227) C at_225 rfl rfl ?_
                refine Ww.callS (pc' := 230) C at_227 (fun vm0 C => (Wk.Con.pays C (Wn := 0) (own_sp l hw O859 c23) (w58 hw) (w2 hw) (by decide) (by decide))) Wk.cleanC (fun v h' q => Or.inl q.2) (w56 hw) (w57 hw) (w2 hw) (w58 hw) (by decide) (argsL := [(.int c23)]) (st := []) rfl rfl (lenOf pd14 rfl) rfl (Nat.le_of_eq rfl) (k' := 2) rfl (n' := 8) rfl (by decide) (by decide) rfl ?_
                intro r944 h945 Q945 O945
                obtain ⟨q947, e946⟩ := Q945
                obtain rfl := e946.symm
                rcases q947 with ⟨rfl, q947⟩ | ⟨rfl, q947⟩
                · -- space: True
                  refine Ww.if_ne C at_230 (by decide) (pcT := 236) (by decide) (pc' := 233) rfl (fun q948 => ?_) (fun q => absurd q (by decide))
                  refine Ww.iload (pc' := 238) C at_236 rfl rfl ?_
                  refine Ww.iconst (pc' := 239) C at_238 (v := (3 : Int32)) rfl rfl ?_
                  refine Ww.icmp_le C at_239 (by decide) (pcT := 253) (by decide) (pc' := 242) rfl (fun q => absurd q (by decide)) (fun q949 => ?_)
                  refine Ww.iload (pc' := 244) C at_242 rfl rfl ?_
                  refine Ww.callS (pc' := 247) C at_244 (fun vm0 C => (Wk.Con.pays C (Wn := 0) (own_sp l hw O859 c27) (w58 hw) (w2 hw) (by decide) (by decide))) Wk.cleanC (fun v h' q => Or.inl q.2) (w56 hw) (w57 hw) (w2 hw) (w58 hw) (by decide) (argsL := [(.int c27)]) (st := []) rfl rfl (lenOf pd14 rfl) rfl (Nat.le_of_eq rfl) (k' := 2) rfl (n' := 8) rfl (by decide) (by decide) rfl ?_
                  intro r950 h951 Q951 O951
                  obtain ⟨q953, e952⟩ := Q951
                  obtain rfl := e952.symm
                  rcases q953 with ⟨rfl, q953⟩ | ⟨rfl, q953⟩
                  · -- space: True
                    refine Ww.if_ne C at_247 (by decide) (pcT := 253) (by decide) (pc' := 250) rfl (fun q954 => ?_) (fun q => absurd q (by decide))
                    refine Ww.iload (pc' := 255) C at_253 rfl rfl ?_
                    refine Ww.iload (pc' := 257) C at_255 rfl rfl ?_
                    refine Ww.isub (pc' := 258) C at_257 (v := (1 : Int32)) (by decide) rfl ?_
                    refine Ww.istore (pc' := 260) C at_258 (Ls' := #[.val (.int p0), .val (.int p1), .val (.int p2), .val (.int p3), .val (.int p4), .val (.int (4 : Int32)), .val (.int c15), .val (.int c19), .val (.int c23), .val (.int c27), .val (.ref a29), .val (.ref a849), .val (.int (0 : Int32)), .val (.int (1 : Int32)), .val (.int (1 : Int32)), .unset, .unset]) rfl rfl ?_
                    refine Ww.newO (pc' := 263) C at_260 (w5 hw) (w6 hw) (w7 hw) (k' := 3) rfl (n' := 12) rfl (by decide) (by decide) rfl ?_
                    intro a955 h956 ga955 za955 E956 Aa955 Da955 Ua955 O956
                    have F957 : Fld Z h956 a955 "java/lang/String" "value" "[B" .null := Da955 (Or.inr (w20 hw)) (ty := (.array .byte)) (by decide)
                    have F958 : Fld Z h956 a955 "java/lang/String" "coder" "B" (.int (0 : Int32)) := Da955 (Or.inr (w21 hw)) (ty := .byte) (by decide)
                    refine Ww.dup (pc' := 264) C at_263 rfl rfl ?_
                    refine Ww.aload (pc' := 266) C at_264 rfl rfl rfl ?_
                    have hp959 : ∀ c ∈ ([c15, c19, c23, c27] : List Int32), ¬ c < 0 ∧ ¬ (255 : Int32) < c := (List.forall_mem_cons.mpr ⟨rc15, (List.forall_mem_cons.mpr ⟨rc19, (List.forall_mem_cons.mpr ⟨rc23, (List.forall_mem_cons.mpr ⟨rc27, (fun _ h => nomatch h)⟩)⟩)⟩)⟩)
                    refine Ww.callI (pc' := 269) C at_266 (a := a955) (fun vm0 C => (strNew C hw hs O956 (cs := [c15, c19, c23, c27]) (n := 4) (Wn := 1) za955 Aa955 F957 F958 (V859.ext E956) rfl (by decide) (by decide) hp959 (by decide) (by decide))) (strNewC (n := 4) O956 za955 rfl (by decide) hp959) (fun v h' q => Or.inr (Or.inr ⟨a955, (List.mem_of_getElem? (i := 0) rfl), q.2.1⟩)) rfl (w8 hw) (w9 hw) (w10 hw) (by decide) (argsL := [(.ref a849)]) (st := [(.ref a955)]) rfl rfl (lenOf pd12 rfl) rfl (Nat.le_of_eq rfl) (k' := 4) rfl (n' := 16) rfl (by decide) (by decide) rfl ?_
                    intro r960 h961 Q961 O961
                    obtain ⟨rfl, Kh961, Sh961⟩ := Q961
                    refine Ww.callSS (pc' := 272) C at_269 (Ww.Con.pays hE (Wn := 0) (own_wos l hw hE O961 hs a955 [c15, c19, c23, c27] Sh961 (show _ ≤ 4 from Nat.le_of_ble_eq_true rfl)) (w29 hw) (w28 hw) (by decide) (by decide)) Wk.cleanC (w26 hw) (w27 hw) (w28 hw) (w29 hw) (by decide) (argsL := [(.ref a955)]) (st := []) rfl rfl (lenOf pd13 rfl) rfl (Nat.le_of_eq rfl) (k' := 8) rfl (n' := 28) rfl (by decide) (by decide) rfl ?_
                    intro r962 h963 Q963 O963
                    obtain ⟨x964, rfl, E963, S963⟩ := Q963
                    refine Ww.astore (pc' := 274) C at_272 rfl (Ls' := #[.val (.int p0), .val (.int p1), .val (.int p2), .val (.int p3), .val (.int p4), .val (.int (4 : Int32)), .val (.int c15), .val (.int c19), .val (.int c23), .val (.int c27), .val (.ref a29), .val (.ref a849), .val (.int (0 : Int32)), .val (.int (1 : Int32)), .val (.int (1 : Int32)), .val (.ref x964), .unset]) rfl rfl ?_
                    have hT : trim [c15, c19, c23, c27] = [c15] := by simp [trim, lead, endAt, q882, q876, q870, q864]
                    have G15 : Str Z h963 x964 [c15] := hT ▸ S963
                    refine Ww.aload (pc' := 276) C at_274 rfl rfl rfl ?_
                    refine Ww.callV (pc' := 279) C at_276 (a := x964) (fun vm0 C => (strLen C hw hs O963 (Wn := 0) G15 (by decide) (by decide))) (pureC (P := fun v => v = some (.int (Int32.ofNat ([c15] : List Int32).length))) O963) (fun v h' q => Or.inl q.2) S963.exa (w55 hw) (w31 hw) (fun vm0 hZ0 => notFace_of_selects (args := #[]) (mvT (s := W.s.setVm vm0) hZ0 (w33 hw))) (w33 hw) (w32 hw) (by decide) (argsL := []) (st := []) rfl rfl (lenOf pd5 rfl) rfl (Nat.le_of_eq rfl) (k' := 8) rfl (n' := 28) rfl (by decide) (by decide) rfl ?_
                    intro r965 h966 Q966 O966
                    obtain ⟨rfl, e967⟩ := Q966
                    obtain rfl := e967.symm
                    refine Ww.iload (pc' := 281) C at_279 rfl rfl ?_
                    refine Ww.icmp_ne C at_281 (by decide) (pcT := 288) (by decide) (pc' := 284) rfl (fun q => absurd rfl q) (fun q968 => ?_)
                    refine Ww.iconst (pc' := 285) C at_284 (v := (1 : Int32)) rfl rfl ?_
                    refine Ww.goto C at_285 (by decide) (pc' := 289) (by decide) ?_
                    refine Ww.istore (pc' := 291) C at_289 (Ls' := #[.val (.int p0), .val (.int p1), .val (.int p2), .val (.int p3), .val (.int p4), .val (.int (4 : Int32)), .val (.int c15), .val (.int c19), .val (.int c23), .val (.int c27), .val (.ref a29), .val (.ref a849), .val (.int (0 : Int32)), .val (.int (1 : Int32)), .val (.int (1 : Int32)), .val (.ref x964), .val (.int (1 : Int32))]) rfl rfl ?_
                    refine Ww.iload (pc' := 293) C at_291 rfl rfl ?_
                    refine Ww.if_eq C at_293 (by decide) (pcT := 322) (by decide) (pc' := 296) rfl (fun q => absurd q (by decide)) (fun q969 => ?_)
                    refine Ww.iload (pc' := 298) C at_296 rfl rfl ?_
                    refine Ww.if_le C at_298 (by decide) (pcT := 322) (by decide) (pc' := 301) rfl (fun q => absurd q (by decide)) (fun q970 => ?_)
                    refine Ww.aload (pc' := 303) C at_301 rfl rfl rfl ?_
                    refine Ww.iconst (pc' := 304) C at_303 (v := (0 : Int32)) rfl rfl ?_
                    refine Ww.callV (pc' := 307) C at_304 (a := x964) (fun vm0 C => (strAt C hw hs O963 (Wn := 0) (i := 0) G15 (show _ < _ from Nat.le_of_ble_eq_true rfl) rfl (by decide) (by decide))) (pureC (P := fun v => v = some (.int (([c15] : List Int32).getD 0 0))) O963) (fun v h' q => Or.inl q.2) S963.exa (w114 hw) (w70 hw) (fun vm0 hZ0 => notFace_of_selects (args := #[]) (mvT (s := W.s.setVm vm0) hZ0 (w72 hw))) (w72 hw) (w71 hw) (by decide) (argsL := [(.int (0 : Int32))]) (st := []) rfl rfl (lenOf pd10 rfl) rfl (Nat.le_of_eq rfl) (k' := 8) rfl (n' := 28) rfl (by decide) (by decide) rfl ?_
                    intro r971 h972 Q972 O972
                    obtain ⟨rfl, e973⟩ := Q972
                    obtain rfl := e973.symm
                    refine Ww.aload (pc' := 309) C at_307 rfl rfl rfl ?_
                    refine Ww.iload (pc' := 311) C at_309 rfl rfl ?_
                    have X974 : Ext h35 h853 := Wk.Ext.wr (Z := Z) E850 W853 (Nat.le_of_eq ga849.symm)
                    have X975 : Ext h35 h855 := Wk.Ext.wr (Z := Z) X974 W855 (Nat.le_of_eq ga849.symm)
                    have X976 : Ext h35 h857 := Wk.Ext.wr (Z := Z) X975 W857 (Nat.le_of_eq ga849.symm)
                    have X977 : Ext h35 h859 := Wk.Ext.wr (Z := Z) X976 W859 (Nat.le_of_eq ga849.symm)
                    have X978 : Ext h35 h956 := Wk.Ext.trans X977 E956
                    have X979 : Ext h35 h961 := Wk.Ext.keep1 (Z := Z) X978 Kh961 (Nat.le_trans X977.1 (Nat.le_of_eq ga955.symm))
                    have X980 : Ext h35 h963 := Wk.Ext.trans X979 E963
                    refine Ww.caload (pc' := 312) C at_311 (V35.ext X980) (by decide) (v := (.int c15)) rfl rfl ?_
                    refine Ww.icmp_ne C at_312 (by decide) (pcT := 319) (by decide) (pc' := 315) rfl (fun q => absurd rfl q) (fun q981 => ?_)
                    refine Ww.iconst (pc' := 316) C at_315 (v := (1 : Int32)) rfl rfl ?_
                    refine Ww.goto C at_316 (by decide) (pc' := 320) (by decide) ?_
                    refine Ww.istore (pc' := 322) C at_320 (Ls' := #[.val (.int p0), .val (.int p1), .val (.int p2), .val (.int p3), .val (.int p4), .val (.int (4 : Int32)), .val (.int c15), .val (.int c19), .val (.int c23), .val (.int c27), .val (.ref a29), .val (.ref a849), .val (.int (0 : Int32)), .val (.int (1 : Int32)), .val (.int (1 : Int32)), .val (.ref x964), .val (.int (1 : Int32))]) rfl rfl ?_
                    refine Ww.iload (pc' := 324) C at_322 rfl rfl ?_
                    refine Ww.if_eq C at_324 (by decide) (pcT := 356) (by decide) (pc' := 327) rfl (fun q => absurd q (by decide)) (fun q982 => ?_)
                    refine Ww.iload (pc' := 329) C at_327 rfl rfl ?_
                    refine Ww.iconst (pc' := 330) C at_329 (v := (1 : Int32)) rfl rfl ?_
                    refine Ww.icmp_le C at_330 (by decide) (pcT := 356) (by decide) (pc' := 333) rfl (fun q983 => ?_) (fun q => absurd q (by decide))
                    refine Ww.iload (pc' := 358) C at_356 rfl rfl ?_
                    refine Ww.if_eq C at_358 (by decide) (pcT := 390) (by decide) (pc' := 361) rfl (fun q => absurd q (by decide)) (fun q984 => ?_)
                    refine Ww.iload (pc' := 363) C at_361 rfl rfl ?_
                    refine Ww.iconst (pc' := 364) C at_363 (v := (2 : Int32)) rfl rfl ?_
                    refine Ww.icmp_le C at_364 (by decide) (pcT := 390) (by decide) (pc' := 367) rfl (fun q985 => ?_) (fun q => absurd q (by decide))
                    refine Ww.iload (pc' := 392) C at_390 rfl rfl ?_
                    refine Ww.if_eq C at_392 (by decide) (pcT := 424) (by decide) (pc' := 395) rfl (fun q => absurd q (by decide)) (fun q986 => ?_)
                    refine Ww.iload (pc' := 397) C at_395 rfl rfl ?_
                    refine Ww.iconst (pc' := 398) C at_397 (v := (3 : Int32)) rfl rfl ?_
                    refine Ww.icmp_le C at_398 (by decide) (pcT := 424) (by decide) (pc' := 401) rfl (fun q987 => ?_) (fun q => absurd q (by decide))
                    refine Ww.iload (pc' := 426) C at_424 rfl rfl ?_
                    exact Ww.retNar (ty := .boolean) C hE (by simp) at_426 rfl (by decide) (by decide) rfl
                  · -- space: False
                    exact absurd q864 q953
                · -- space: False
                  exact absurd q870 q947
              · -- space: False
                exact absurd q876 q941
        · -- space: False
          refine Ww.if_ne C at_160 (by decide) (pcT := 166) (by decide) (pc' := 163) rfl (fun q => absurd q (by decide)) (fun q988 => ?_)
          refine Ww.iconst (pc' := 164) C at_163 (v := (1 : Int32)) rfl rfl ?_
          refine Ww.istore (pc' := 166) C at_164 (Ls' := #[.val (.int p0), .val (.int p1), .val (.int p2), .val (.int p3), .val (.int p4), .val (.int (4 : Int32)), .val (.int c15), .val (.int c19), .val (.int c23), .val (.int c27), .val (.ref a29), .val (.ref a849), .val (.int (1 : Int32)), .unset, .unset, .unset, .unset]) rfl rfl ?_
          refine Ww.iload (pc' := 168) C at_166 rfl rfl ?_
          refine Ww.if_le C at_168 (by decide) (pcT := 182) (by decide) (pc' := 171) rfl (fun q => absurd q (by decide)) (fun q989 => ?_)
          refine Ww.iload (pc' := 173) C at_171 rfl rfl ?_
          refine Ww.callS (pc' := 176) C at_173 (fun vm0 C => (Wk.Con.pays C (Wn := 0) (own_sp l hw O859 c15) (w58 hw) (w2 hw) (by decide) (by decide))) Wk.cleanC (fun v h' q => Or.inl q.2) (w56 hw) (w57 hw) (w2 hw) (w58 hw) (by decide) (argsL := [(.int c15)]) (st := []) rfl rfl (lenOf pd14 rfl) rfl (Nat.le_of_eq rfl) (k' := 2) rfl (n' := 8) rfl (by decide) (by decide) rfl ?_
          intro r990 h991 Q991 O991
          obtain ⟨q993, e992⟩ := Q991
          obtain rfl := e992.symm
          rcases q993 with ⟨rfl, q993⟩ | ⟨rfl, q993⟩
          · -- space: True
            refine Ww.if_ne C at_176 (by decide) (pcT := 182) (by decide) (pc' := 179) rfl (fun q994 => ?_) (fun q => absurd q (by decide))
            refine Ww.iload (pc' := 184) C at_182 rfl rfl ?_
            refine Ww.istore (pc' := 186) C at_184 (Ls' := #[.val (.int p0), .val (.int p1), .val (.int p2), .val (.int p3), .val (.int p4), .val (.int (4 : Int32)), .val (.int c15), .val (.int c19), .val (.int c23), .val (.int c27), .val (.ref a29), .val (.ref a849), .val (.int (1 : Int32)), .val (.int (1 : Int32)), .unset, .unset, .unset]) rfl rfl ?_
            refine Ww.iload (pc' := 188) C at_186 rfl rfl ?_
            refine Ww.if_le C at_188 (by decide) (pcT := 202) (by decide) (pc' := 191) rfl (fun q => absurd q (by decide)) (fun q995 => ?_)
            refine Ww.iload (pc' := 193) C at_191 rfl rfl ?_
            refine Ww.callS (pc' := 196) C at_193 (fun vm0 C => (Wk.Con.pays C (Wn := 0) (own_sp l hw O859 c15) (w58 hw) (w2 hw) (by decide) (by decide))) Wk.cleanC (fun v h' q => Or.inl q.2) (w56 hw) (w57 hw) (w2 hw) (w58 hw) (by decide) (argsL := [(.int c15)]) (st := []) rfl rfl (lenOf pd14 rfl) rfl (Nat.le_of_eq rfl) (k' := 2) rfl (n' := 8) rfl (by decide) (by decide) rfl ?_
            intro r996 h997 Q997 O997
            obtain ⟨q999, e998⟩ := Q997
            obtain rfl := e998.symm
            rcases q999 with ⟨rfl, q999⟩ | ⟨rfl, q999⟩
            · -- space: True
              refine Ww.if_ne C at_196 (by decide) (pcT := 202) (by decide) (pc' := 199) rfl (fun q1000 => ?_) (fun q => absurd q (by decide))
              refine Ww.iload (pc' := 204) C at_202 rfl rfl ?_
              refine Ww.iconst (pc' := 205) C at_204 (v := (1 : Int32)) rfl rfl ?_
              refine Ww.icmp_le C at_205 (by decide) (pcT := 219) (by decide) (pc' := 208) rfl (fun q => absurd q (by decide)) (fun q1001 => ?_)
              refine Ww.iload (pc' := 210) C at_208 rfl rfl ?_
              refine Ww.callS (pc' := 213) C at_210 (fun vm0 C => (Wk.Con.pays C (Wn := 0) (own_sp l hw O859 c19) (w58 hw) (w2 hw) (by decide) (by decide))) Wk.cleanC (fun v h' q => Or.inl q.2) (w56 hw) (w57 hw) (w2 hw) (w58 hw) (by decide) (argsL := [(.int c19)]) (st := []) rfl rfl (lenOf pd14 rfl) rfl (Nat.le_of_eq rfl) (k' := 2) rfl (n' := 8) rfl (by decide) (by decide) rfl ?_
              intro r1002 h1003 Q1003 O1003
              obtain ⟨q1005, e1004⟩ := Q1003
              obtain rfl := e1004.symm
              rcases q1005 with ⟨rfl, q1005⟩ | ⟨rfl, q1005⟩
              · -- space: True
                exact absurd q1005 q876
              · -- space: False
                refine Ww.if_ne C at_213 (by decide) (pcT := 219) (by decide) (pc' := 216) rfl (fun q => absurd q (by decide)) (fun q1006 => ?_)
                refine Ww.iconst (pc' := 217) C at_216 (v := (2 : Int32)) rfl rfl ?_
                refine Ww.istore (pc' := 219) C at_217 (Ls' := #[.val (.int p0), .val (.int p1), .val (.int p2), .val (.int p3), .val (.int p4), .val (.int (4 : Int32)), .val (.int c15), .val (.int c19), .val (.int c23), .val (.int c27), .val (.ref a29), .val (.ref a849), .val (.int (1 : Int32)), .val (.int (2 : Int32)), .unset, .unset, .unset]) rfl rfl ?_
                refine Ww.iload (pc' := 221) C at_219 rfl rfl ?_
                refine Ww.iconst (pc' := 222) C at_221 (v := (2 : Int32)) rfl rfl ?_
                refine Ww.icmp_le C at_222 (by decide) (pcT := 236) (by decide) (pc' := 225) rfl (fun q => absurd q (by decide)) (fun q1007 => ?_)
                refine Ww.iload (pc' := 227) C at_225 rfl rfl ?_
                refine Ww.callS (pc' := 230) C at_227 (fun vm0 C => (Wk.Con.pays C (Wn := 0) (own_sp l hw O859 c23) (w58 hw) (w2 hw) (by decide) (by decide))) Wk.cleanC (fun v h' q => Or.inl q.2) (w56 hw) (w57 hw) (w2 hw) (w58 hw) (by decide) (argsL := [(.int c23)]) (st := []) rfl rfl (lenOf pd14 rfl) rfl (Nat.le_of_eq rfl) (k' := 2) rfl (n' := 8) rfl (by decide) (by decide) rfl ?_
                intro r1008 h1009 Q1009 O1009
                obtain ⟨q1011, e1010⟩ := Q1009
                obtain rfl := e1010.symm
                rcases q1011 with ⟨rfl, q1011⟩ | ⟨rfl, q1011⟩
                · -- space: True
                  refine Ww.if_ne C at_230 (by decide) (pcT := 236) (by decide) (pc' := 233) rfl (fun q1012 => ?_) (fun q => absurd q (by decide))
                  refine Ww.iload (pc' := 238) C at_236 rfl rfl ?_
                  refine Ww.iconst (pc' := 239) C at_238 (v := (3 : Int32)) rfl rfl ?_
                  refine Ww.icmp_le C at_239 (by decide) (pcT := 253) (by decide) (pc' := 242) rfl (fun q => absurd q (by decide)) (fun q1013 => ?_)
                  refine Ww.iload (pc' := 244) C at_242 rfl rfl ?_
                  refine Ww.callS (pc' := 247) C at_244 (fun vm0 C => (Wk.Con.pays C (Wn := 0) (own_sp l hw O859 c27) (w58 hw) (w2 hw) (by decide) (by decide))) Wk.cleanC (fun v h' q => Or.inl q.2) (w56 hw) (w57 hw) (w2 hw) (w58 hw) (by decide) (argsL := [(.int c27)]) (st := []) rfl rfl (lenOf pd14 rfl) rfl (Nat.le_of_eq rfl) (k' := 2) rfl (n' := 8) rfl (by decide) (by decide) rfl ?_
                  intro r1014 h1015 Q1015 O1015
                  obtain ⟨q1017, e1016⟩ := Q1015
                  obtain rfl := e1016.symm
                  rcases q1017 with ⟨rfl, q1017⟩ | ⟨rfl, q1017⟩
                  · -- space: True
                    refine Ww.if_ne C at_247 (by decide) (pcT := 253) (by decide) (pc' := 250) rfl (fun q1018 => ?_) (fun q => absurd q (by decide))
                    refine Ww.iload (pc' := 255) C at_253 rfl rfl ?_
                    refine Ww.iload (pc' := 257) C at_255 rfl rfl ?_
                    refine Ww.isub (pc' := 258) C at_257 (v := (1 : Int32)) (by decide) rfl ?_
                    refine Ww.istore (pc' := 260) C at_258 (Ls' := #[.val (.int p0), .val (.int p1), .val (.int p2), .val (.int p3), .val (.int p4), .val (.int (4 : Int32)), .val (.int c15), .val (.int c19), .val (.int c23), .val (.int c27), .val (.ref a29), .val (.ref a849), .val (.int (1 : Int32)), .val (.int (2 : Int32)), .val (.int (1 : Int32)), .unset, .unset]) rfl rfl ?_
                    refine Ww.newO (pc' := 263) C at_260 (w5 hw) (w6 hw) (w7 hw) (k' := 3) rfl (n' := 12) rfl (by decide) (by decide) rfl ?_
                    intro a1019 h1020 ga1019 za1019 E1020 Aa1019 Da1019 Ua1019 O1020
                    have F1021 : Fld Z h1020 a1019 "java/lang/String" "value" "[B" .null := Da1019 (Or.inr (w20 hw)) (ty := (.array .byte)) (by decide)
                    have F1022 : Fld Z h1020 a1019 "java/lang/String" "coder" "B" (.int (0 : Int32)) := Da1019 (Or.inr (w21 hw)) (ty := .byte) (by decide)
                    refine Ww.dup (pc' := 264) C at_263 rfl rfl ?_
                    refine Ww.aload (pc' := 266) C at_264 rfl rfl rfl ?_
                    have hp1023 : ∀ c ∈ ([c15, c19, c23, c27] : List Int32), ¬ c < 0 ∧ ¬ (255 : Int32) < c := (List.forall_mem_cons.mpr ⟨rc15, (List.forall_mem_cons.mpr ⟨rc19, (List.forall_mem_cons.mpr ⟨rc23, (List.forall_mem_cons.mpr ⟨rc27, (fun _ h => nomatch h)⟩)⟩)⟩)⟩)
                    refine Ww.callI (pc' := 269) C at_266 (a := a1019) (fun vm0 C => (strNew C hw hs O1020 (cs := [c15, c19, c23, c27]) (n := 4) (Wn := 1) za1019 Aa1019 F1021 F1022 (V859.ext E1020) rfl (by decide) (by decide) hp1023 (by decide) (by decide))) (strNewC (n := 4) O1020 za1019 rfl (by decide) hp1023) (fun v h' q => Or.inr (Or.inr ⟨a1019, (List.mem_of_getElem? (i := 0) rfl), q.2.1⟩)) rfl (w8 hw) (w9 hw) (w10 hw) (by decide) (argsL := [(.ref a849)]) (st := [(.ref a1019)]) rfl rfl (lenOf pd12 rfl) rfl (Nat.le_of_eq rfl) (k' := 4) rfl (n' := 16) rfl (by decide) (by decide) rfl ?_
                    intro r1024 h1025 Q1025 O1025
                    obtain ⟨rfl, Kh1025, Sh1025⟩ := Q1025
                    refine Ww.callSS (pc' := 272) C at_269 (Ww.Con.pays hE (Wn := 0) (own_wos l hw hE O1025 hs a1019 [c15, c19, c23, c27] Sh1025 (show _ ≤ 4 from Nat.le_of_ble_eq_true rfl)) (w29 hw) (w28 hw) (by decide) (by decide)) Wk.cleanC (w26 hw) (w27 hw) (w28 hw) (w29 hw) (by decide) (argsL := [(.ref a1019)]) (st := []) rfl rfl (lenOf pd13 rfl) rfl (Nat.le_of_eq rfl) (k' := 8) rfl (n' := 28) rfl (by decide) (by decide) rfl ?_
                    intro r1026 h1027 Q1027 O1027
                    obtain ⟨x1028, rfl, E1027, S1027⟩ := Q1027
                    refine Ww.astore (pc' := 274) C at_272 rfl (Ls' := #[.val (.int p0), .val (.int p1), .val (.int p2), .val (.int p3), .val (.int p4), .val (.int (4 : Int32)), .val (.int c15), .val (.int c19), .val (.int c23), .val (.int c27), .val (.ref a29), .val (.ref a849), .val (.int (1 : Int32)), .val (.int (2 : Int32)), .val (.int (1 : Int32)), .val (.ref x1028), .unset]) rfl rfl ?_
                    have hT : trim [c15, c19, c23, c27] = [c19] := by simp [trim, lead, endAt, q993, q876, q870, q864]
                    have G15 : Str Z h1027 x1028 [c19] := hT ▸ S1027
                    refine Ww.aload (pc' := 276) C at_274 rfl rfl rfl ?_
                    refine Ww.callV (pc' := 279) C at_276 (a := x1028) (fun vm0 C => (strLen C hw hs O1027 (Wn := 0) G15 (by decide) (by decide))) (pureC (P := fun v => v = some (.int (Int32.ofNat ([c19] : List Int32).length))) O1027) (fun v h' q => Or.inl q.2) S1027.exa (w55 hw) (w31 hw) (fun vm0 hZ0 => notFace_of_selects (args := #[]) (mvT (s := W.s.setVm vm0) hZ0 (w33 hw))) (w33 hw) (w32 hw) (by decide) (argsL := []) (st := []) rfl rfl (lenOf pd5 rfl) rfl (Nat.le_of_eq rfl) (k' := 8) rfl (n' := 28) rfl (by decide) (by decide) rfl ?_
                    intro r1029 h1030 Q1030 O1030
                    obtain ⟨rfl, e1031⟩ := Q1030
                    obtain rfl := e1031.symm
                    refine Ww.iload (pc' := 281) C at_279 rfl rfl ?_
                    refine Ww.icmp_ne C at_281 (by decide) (pcT := 288) (by decide) (pc' := 284) rfl (fun q => absurd rfl q) (fun q1032 => ?_)
                    refine Ww.iconst (pc' := 285) C at_284 (v := (1 : Int32)) rfl rfl ?_
                    refine Ww.goto C at_285 (by decide) (pc' := 289) (by decide) ?_
                    refine Ww.istore (pc' := 291) C at_289 (Ls' := #[.val (.int p0), .val (.int p1), .val (.int p2), .val (.int p3), .val (.int p4), .val (.int (4 : Int32)), .val (.int c15), .val (.int c19), .val (.int c23), .val (.int c27), .val (.ref a29), .val (.ref a849), .val (.int (1 : Int32)), .val (.int (2 : Int32)), .val (.int (1 : Int32)), .val (.ref x1028), .val (.int (1 : Int32))]) rfl rfl ?_
                    refine Ww.iload (pc' := 293) C at_291 rfl rfl ?_
                    refine Ww.if_eq C at_293 (by decide) (pcT := 322) (by decide) (pc' := 296) rfl (fun q => absurd q (by decide)) (fun q1033 => ?_)
                    refine Ww.iload (pc' := 298) C at_296 rfl rfl ?_
                    refine Ww.if_le C at_298 (by decide) (pcT := 322) (by decide) (pc' := 301) rfl (fun q => absurd q (by decide)) (fun q1034 => ?_)
                    refine Ww.aload (pc' := 303) C at_301 rfl rfl rfl ?_
                    refine Ww.iconst (pc' := 304) C at_303 (v := (0 : Int32)) rfl rfl ?_
                    refine Ww.callV (pc' := 307) C at_304 (a := x1028) (fun vm0 C => (strAt C hw hs O1027 (Wn := 0) (i := 0) G15 (show _ < _ from Nat.le_of_ble_eq_true rfl) rfl (by decide) (by decide))) (pureC (P := fun v => v = some (.int (([c19] : List Int32).getD 0 0))) O1027) (fun v h' q => Or.inl q.2) S1027.exa (w114 hw) (w70 hw) (fun vm0 hZ0 => notFace_of_selects (args := #[]) (mvT (s := W.s.setVm vm0) hZ0 (w72 hw))) (w72 hw) (w71 hw) (by decide) (argsL := [(.int (0 : Int32))]) (st := []) rfl rfl (lenOf pd10 rfl) rfl (Nat.le_of_eq rfl) (k' := 8) rfl (n' := 28) rfl (by decide) (by decide) rfl ?_
                    intro r1035 h1036 Q1036 O1036
                    obtain ⟨rfl, e1037⟩ := Q1036
                    obtain rfl := e1037.symm
                    refine Ww.aload (pc' := 309) C at_307 rfl rfl rfl ?_
                    refine Ww.iload (pc' := 311) C at_309 rfl rfl ?_
                    have X1038 : Ext h35 h853 := Wk.Ext.wr (Z := Z) E850 W853 (Nat.le_of_eq ga849.symm)
                    have X1039 : Ext h35 h855 := Wk.Ext.wr (Z := Z) X1038 W855 (Nat.le_of_eq ga849.symm)
                    have X1040 : Ext h35 h857 := Wk.Ext.wr (Z := Z) X1039 W857 (Nat.le_of_eq ga849.symm)
                    have X1041 : Ext h35 h859 := Wk.Ext.wr (Z := Z) X1040 W859 (Nat.le_of_eq ga849.symm)
                    have X1042 : Ext h35 h1020 := Wk.Ext.trans X1041 E1020
                    have X1043 : Ext h35 h1025 := Wk.Ext.keep1 (Z := Z) X1042 Kh1025 (Nat.le_trans X1041.1 (Nat.le_of_eq ga1019.symm))
                    have X1044 : Ext h35 h1027 := Wk.Ext.trans X1043 E1027
                    refine Ww.caload (pc' := 312) C at_311 (V35.ext X1044) (by decide) (v := (.int c19)) rfl rfl ?_
                    refine Ww.icmp_ne C at_312 (by decide) (pcT := 319) (by decide) (pc' := 315) rfl (fun q => absurd rfl q) (fun q1045 => ?_)
                    refine Ww.iconst (pc' := 316) C at_315 (v := (1 : Int32)) rfl rfl ?_
                    refine Ww.goto C at_316 (by decide) (pc' := 320) (by decide) ?_
                    refine Ww.istore (pc' := 322) C at_320 (Ls' := #[.val (.int p0), .val (.int p1), .val (.int p2), .val (.int p3), .val (.int p4), .val (.int (4 : Int32)), .val (.int c15), .val (.int c19), .val (.int c23), .val (.int c27), .val (.ref a29), .val (.ref a849), .val (.int (1 : Int32)), .val (.int (2 : Int32)), .val (.int (1 : Int32)), .val (.ref x1028), .val (.int (1 : Int32))]) rfl rfl ?_
                    refine Ww.iload (pc' := 324) C at_322 rfl rfl ?_
                    refine Ww.if_eq C at_324 (by decide) (pcT := 356) (by decide) (pc' := 327) rfl (fun q => absurd q (by decide)) (fun q1046 => ?_)
                    refine Ww.iload (pc' := 329) C at_327 rfl rfl ?_
                    refine Ww.iconst (pc' := 330) C at_329 (v := (1 : Int32)) rfl rfl ?_
                    refine Ww.icmp_le C at_330 (by decide) (pcT := 356) (by decide) (pc' := 333) rfl (fun q1047 => ?_) (fun q => absurd q (by decide))
                    refine Ww.iload (pc' := 358) C at_356 rfl rfl ?_
                    refine Ww.if_eq C at_358 (by decide) (pcT := 390) (by decide) (pc' := 361) rfl (fun q => absurd q (by decide)) (fun q1048 => ?_)
                    refine Ww.iload (pc' := 363) C at_361 rfl rfl ?_
                    refine Ww.iconst (pc' := 364) C at_363 (v := (2 : Int32)) rfl rfl ?_
                    refine Ww.icmp_le C at_364 (by decide) (pcT := 390) (by decide) (pc' := 367) rfl (fun q1049 => ?_) (fun q => absurd q (by decide))
                    refine Ww.iload (pc' := 392) C at_390 rfl rfl ?_
                    refine Ww.if_eq C at_392 (by decide) (pcT := 424) (by decide) (pc' := 395) rfl (fun q => absurd q (by decide)) (fun q1050 => ?_)
                    refine Ww.iload (pc' := 397) C at_395 rfl rfl ?_
                    refine Ww.iconst (pc' := 398) C at_397 (v := (3 : Int32)) rfl rfl ?_
                    refine Ww.icmp_le C at_398 (by decide) (pcT := 424) (by decide) (pc' := 401) rfl (fun q1051 => ?_) (fun q => absurd q (by decide))
                    refine Ww.iload (pc' := 426) C at_424 rfl rfl ?_
                    exact Ww.retNar (ty := .boolean) C hE (by simp) at_426 rfl (by decide) (by decide) rfl
                  · -- space: False
                    exact absurd q864 q1017
                · -- space: False
                  exact absurd q870 q1011
            · -- space: False
              exact absurd q993 q999
          · -- space: False
            refine Ww.if_ne C at_176 (by decide) (pcT := 182) (by decide) (pc' := 179) rfl (fun q => absurd q (by decide)) (fun q1052 => ?_)
            refine Ww.iconst (pc' := 180) C at_179 (v := (0 : Int32)) rfl rfl ?_
            refine Ww.istore (pc' := 182) C at_180 (Ls' := #[.val (.int p0), .val (.int p1), .val (.int p2), .val (.int p3), .val (.int p4), .val (.int (4 : Int32)), .val (.int c15), .val (.int c19), .val (.int c23), .val (.int c27), .val (.ref a29), .val (.ref a849), .val (.int (0 : Int32)), .unset, .unset, .unset, .unset]) rfl rfl ?_
            refine Ww.iload (pc' := 184) C at_182 rfl rfl ?_
            refine Ww.istore (pc' := 186) C at_184 (Ls' := #[.val (.int p0), .val (.int p1), .val (.int p2), .val (.int p3), .val (.int p4), .val (.int (4 : Int32)), .val (.int c15), .val (.int c19), .val (.int c23), .val (.int c27), .val (.ref a29), .val (.ref a849), .val (.int (0 : Int32)), .val (.int (0 : Int32)), .unset, .unset, .unset]) rfl rfl ?_
            refine Ww.iload (pc' := 188) C at_186 rfl rfl ?_
            refine Ww.if_le C at_188 (by decide) (pcT := 202) (by decide) (pc' := 191) rfl (fun q => absurd q (by decide)) (fun q1053 => ?_)
            refine Ww.iload (pc' := 193) C at_191 rfl rfl ?_
            refine Ww.callS (pc' := 196) C at_193 (fun vm0 C => (Wk.Con.pays C (Wn := 0) (own_sp l hw O859 c15) (w58 hw) (w2 hw) (by decide) (by decide))) Wk.cleanC (fun v h' q => Or.inl q.2) (w56 hw) (w57 hw) (w2 hw) (w58 hw) (by decide) (argsL := [(.int c15)]) (st := []) rfl rfl (lenOf pd14 rfl) rfl (Nat.le_of_eq rfl) (k' := 2) rfl (n' := 8) rfl (by decide) (by decide) rfl ?_
            intro r1054 h1055 Q1055 O1055
            obtain ⟨q1057, e1056⟩ := Q1055
            obtain rfl := e1056.symm
            rcases q1057 with ⟨rfl, q1057⟩ | ⟨rfl, q1057⟩
            · -- space: True
              exact absurd q1057 q993
            · -- space: False
              refine Ww.if_ne C at_196 (by decide) (pcT := 202) (by decide) (pc' := 199) rfl (fun q => absurd q (by decide)) (fun q1058 => ?_)
              refine Ww.iconst (pc' := 200) C at_199 (v := (1 : Int32)) rfl rfl ?_
              refine Ww.istore (pc' := 202) C at_200 (Ls' := #[.val (.int p0), .val (.int p1), .val (.int p2), .val (.int p3), .val (.int p4), .val (.int (4 : Int32)), .val (.int c15), .val (.int c19), .val (.int c23), .val (.int c27), .val (.ref a29), .val (.ref a849), .val (.int (0 : Int32)), .val (.int (1 : Int32)), .unset, .unset, .unset]) rfl rfl ?_
              refine Ww.iload (pc' := 204) C at_202 rfl rfl ?_
              refine Ww.iconst (pc' := 205) C at_204 (v := (1 : Int32)) rfl rfl ?_
              refine Ww.icmp_le C at_205 (by decide) (pcT := 219) (by decide) (pc' := 208) rfl (fun q => absurd q (by decide)) (fun q1059 => ?_)
              refine Ww.iload (pc' := 210) C at_208 rfl rfl ?_
              refine Ww.callS (pc' := 213) C at_210 (fun vm0 C => (Wk.Con.pays C (Wn := 0) (own_sp l hw O859 c19) (w58 hw) (w2 hw) (by decide) (by decide))) Wk.cleanC (fun v h' q => Or.inl q.2) (w56 hw) (w57 hw) (w2 hw) (w58 hw) (by decide) (argsL := [(.int c19)]) (st := []) rfl rfl (lenOf pd14 rfl) rfl (Nat.le_of_eq rfl) (k' := 2) rfl (n' := 8) rfl (by decide) (by decide) rfl ?_
              intro r1060 h1061 Q1061 O1061
              obtain ⟨q1063, e1062⟩ := Q1061
              obtain rfl := e1062.symm
              rcases q1063 with ⟨rfl, q1063⟩ | ⟨rfl, q1063⟩
              · -- space: True
                exact absurd q1063 q876
              · -- space: False
                refine Ww.if_ne C at_213 (by decide) (pcT := 219) (by decide) (pc' := 216) rfl (fun q => absurd q (by decide)) (fun q1064 => ?_)
                refine Ww.iconst (pc' := 217) C at_216 (v := (2 : Int32)) rfl rfl ?_
                refine Ww.istore (pc' := 219) C at_217 (Ls' := #[.val (.int p0), .val (.int p1), .val (.int p2), .val (.int p3), .val (.int p4), .val (.int (4 : Int32)), .val (.int c15), .val (.int c19), .val (.int c23), .val (.int c27), .val (.ref a29), .val (.ref a849), .val (.int (0 : Int32)), .val (.int (2 : Int32)), .unset, .unset, .unset]) rfl rfl ?_
                refine Ww.iload (pc' := 221) C at_219 rfl rfl ?_
                refine Ww.iconst (pc' := 222) C at_221 (v := (2 : Int32)) rfl rfl ?_
                refine Ww.icmp_le C at_222 (by decide) (pcT := 236) (by decide) (pc' := 225) rfl (fun q => absurd q (by decide)) (fun q1065 => ?_)
                refine Ww.iload (pc' := 227) C at_225 rfl rfl ?_
                refine Ww.callS (pc' := 230) C at_227 (fun vm0 C => (Wk.Con.pays C (Wn := 0) (own_sp l hw O859 c23) (w58 hw) (w2 hw) (by decide) (by decide))) Wk.cleanC (fun v h' q => Or.inl q.2) (w56 hw) (w57 hw) (w2 hw) (w58 hw) (by decide) (argsL := [(.int c23)]) (st := []) rfl rfl (lenOf pd14 rfl) rfl (Nat.le_of_eq rfl) (k' := 2) rfl (n' := 8) rfl (by decide) (by decide) rfl ?_
                intro r1066 h1067 Q1067 O1067
                obtain ⟨q1069, e1068⟩ := Q1067
                obtain rfl := e1068.symm
                rcases q1069 with ⟨rfl, q1069⟩ | ⟨rfl, q1069⟩
                · -- space: True
                  refine Ww.if_ne C at_230 (by decide) (pcT := 236) (by decide) (pc' := 233) rfl (fun q1070 => ?_) (fun q => absurd q (by decide))
                  refine Ww.iload (pc' := 238) C at_236 rfl rfl ?_
                  refine Ww.iconst (pc' := 239) C at_238 (v := (3 : Int32)) rfl rfl ?_
                  refine Ww.icmp_le C at_239 (by decide) (pcT := 253) (by decide) (pc' := 242) rfl (fun q => absurd q (by decide)) (fun q1071 => ?_)
                  refine Ww.iload (pc' := 244) C at_242 rfl rfl ?_
                  refine Ww.callS (pc' := 247) C at_244 (fun vm0 C => (Wk.Con.pays C (Wn := 0) (own_sp l hw O859 c27) (w58 hw) (w2 hw) (by decide) (by decide))) Wk.cleanC (fun v h' q => Or.inl q.2) (w56 hw) (w57 hw) (w2 hw) (w58 hw) (by decide) (argsL := [(.int c27)]) (st := []) rfl rfl (lenOf pd14 rfl) rfl (Nat.le_of_eq rfl) (k' := 2) rfl (n' := 8) rfl (by decide) (by decide) rfl ?_
                  intro r1072 h1073 Q1073 O1073
                  obtain ⟨q1075, e1074⟩ := Q1073
                  obtain rfl := e1074.symm
                  rcases q1075 with ⟨rfl, q1075⟩ | ⟨rfl, q1075⟩
                  · -- space: True
                    refine Ww.if_ne C at_247 (by decide) (pcT := 253) (by decide) (pc' := 250) rfl (fun q1076 => ?_) (fun q => absurd q (by decide))
                    refine Ww.iload (pc' := 255) C at_253 rfl rfl ?_
                    refine Ww.iload (pc' := 257) C at_255 rfl rfl ?_
                    refine Ww.isub (pc' := 258) C at_257 (v := (2 : Int32)) (by decide) rfl ?_
                    refine Ww.istore (pc' := 260) C at_258 (Ls' := #[.val (.int p0), .val (.int p1), .val (.int p2), .val (.int p3), .val (.int p4), .val (.int (4 : Int32)), .val (.int c15), .val (.int c19), .val (.int c23), .val (.int c27), .val (.ref a29), .val (.ref a849), .val (.int (0 : Int32)), .val (.int (2 : Int32)), .val (.int (2 : Int32)), .unset, .unset]) rfl rfl ?_
                    refine Ww.newO (pc' := 263) C at_260 (w5 hw) (w6 hw) (w7 hw) (k' := 3) rfl (n' := 12) rfl (by decide) (by decide) rfl ?_
                    intro a1077 h1078 ga1077 za1077 E1078 Aa1077 Da1077 Ua1077 O1078
                    have F1079 : Fld Z h1078 a1077 "java/lang/String" "value" "[B" .null := Da1077 (Or.inr (w20 hw)) (ty := (.array .byte)) (by decide)
                    have F1080 : Fld Z h1078 a1077 "java/lang/String" "coder" "B" (.int (0 : Int32)) := Da1077 (Or.inr (w21 hw)) (ty := .byte) (by decide)
                    refine Ww.dup (pc' := 264) C at_263 rfl rfl ?_
                    refine Ww.aload (pc' := 266) C at_264 rfl rfl rfl ?_
                    have hp1081 : ∀ c ∈ ([c15, c19, c23, c27] : List Int32), ¬ c < 0 ∧ ¬ (255 : Int32) < c := (List.forall_mem_cons.mpr ⟨rc15, (List.forall_mem_cons.mpr ⟨rc19, (List.forall_mem_cons.mpr ⟨rc23, (List.forall_mem_cons.mpr ⟨rc27, (fun _ h => nomatch h)⟩)⟩)⟩)⟩)
                    refine Ww.callI (pc' := 269) C at_266 (a := a1077) (fun vm0 C => (strNew C hw hs O1078 (cs := [c15, c19, c23, c27]) (n := 4) (Wn := 1) za1077 Aa1077 F1079 F1080 (V859.ext E1078) rfl (by decide) (by decide) hp1081 (by decide) (by decide))) (strNewC (n := 4) O1078 za1077 rfl (by decide) hp1081) (fun v h' q => Or.inr (Or.inr ⟨a1077, (List.mem_of_getElem? (i := 0) rfl), q.2.1⟩)) rfl (w8 hw) (w9 hw) (w10 hw) (by decide) (argsL := [(.ref a849)]) (st := [(.ref a1077)]) rfl rfl (lenOf pd12 rfl) rfl (Nat.le_of_eq rfl) (k' := 4) rfl (n' := 16) rfl (by decide) (by decide) rfl ?_
                    intro r1082 h1083 Q1083 O1083
                    obtain ⟨rfl, Kh1083, Sh1083⟩ := Q1083
                    refine Ww.callSS (pc' := 272) C at_269 (Ww.Con.pays hE (Wn := 0) (own_wos l hw hE O1083 hs a1077 [c15, c19, c23, c27] Sh1083 (show _ ≤ 4 from Nat.le_of_ble_eq_true rfl)) (w29 hw) (w28 hw) (by decide) (by decide)) Wk.cleanC (w26 hw) (w27 hw) (w28 hw) (w29 hw) (by decide) (argsL := [(.ref a1077)]) (st := []) rfl rfl (lenOf pd13 rfl) rfl (Nat.le_of_eq rfl) (k' := 8) rfl (n' := 28) rfl (by decide) (by decide) rfl ?_
                    intro r1084 h1085 Q1085 O1085
                    obtain ⟨x1086, rfl, E1085, S1085⟩ := Q1085
                    refine Ww.astore (pc' := 274) C at_272 rfl (Ls' := #[.val (.int p0), .val (.int p1), .val (.int p2), .val (.int p3), .val (.int p4), .val (.int (4 : Int32)), .val (.int c15), .val (.int c19), .val (.int c23), .val (.int c27), .val (.ref a29), .val (.ref a849), .val (.int (0 : Int32)), .val (.int (2 : Int32)), .val (.int (2 : Int32)), .val (.ref x1086), .unset]) rfl rfl ?_
                    have hT : trim [c15, c19, c23, c27] = [c15, c19] := by simp [trim, lead, endAt, q993, q876, q870, q864]
                    have G15 : Str Z h1085 x1086 [c15, c19] := hT ▸ S1085
                    refine Ww.aload (pc' := 276) C at_274 rfl rfl rfl ?_
                    refine Ww.callV (pc' := 279) C at_276 (a := x1086) (fun vm0 C => (strLen C hw hs O1085 (Wn := 0) G15 (by decide) (by decide))) (pureC (P := fun v => v = some (.int (Int32.ofNat ([c15, c19] : List Int32).length))) O1085) (fun v h' q => Or.inl q.2) S1085.exa (w55 hw) (w31 hw) (fun vm0 hZ0 => notFace_of_selects (args := #[]) (mvT (s := W.s.setVm vm0) hZ0 (w33 hw))) (w33 hw) (w32 hw) (by decide) (argsL := []) (st := []) rfl rfl (lenOf pd5 rfl) rfl (Nat.le_of_eq rfl) (k' := 8) rfl (n' := 28) rfl (by decide) (by decide) rfl ?_
                    intro r1087 h1088 Q1088 O1088
                    obtain ⟨rfl, e1089⟩ := Q1088
                    obtain rfl := e1089.symm
                    refine Ww.iload (pc' := 281) C at_279 rfl rfl ?_
                    refine Ww.icmp_ne C at_281 (by decide) (pcT := 288) (by decide) (pc' := 284) rfl (fun q => absurd rfl q) (fun q1090 => ?_)
                    refine Ww.iconst (pc' := 285) C at_284 (v := (1 : Int32)) rfl rfl ?_
                    refine Ww.goto C at_285 (by decide) (pc' := 289) (by decide) ?_
                    refine Ww.istore (pc' := 291) C at_289 (Ls' := #[.val (.int p0), .val (.int p1), .val (.int p2), .val (.int p3), .val (.int p4), .val (.int (4 : Int32)), .val (.int c15), .val (.int c19), .val (.int c23), .val (.int c27), .val (.ref a29), .val (.ref a849), .val (.int (0 : Int32)), .val (.int (2 : Int32)), .val (.int (2 : Int32)), .val (.ref x1086), .val (.int (1 : Int32))]) rfl rfl ?_
                    refine Ww.iload (pc' := 293) C at_291 rfl rfl ?_
                    refine Ww.if_eq C at_293 (by decide) (pcT := 322) (by decide) (pc' := 296) rfl (fun q => absurd q (by decide)) (fun q1091 => ?_)
                    refine Ww.iload (pc' := 298) C at_296 rfl rfl ?_
                    refine Ww.if_le C at_298 (by decide) (pcT := 322) (by decide) (pc' := 301) rfl (fun q => absurd q (by decide)) (fun q1092 => ?_)
                    refine Ww.aload (pc' := 303) C at_301 rfl rfl rfl ?_
                    refine Ww.iconst (pc' := 304) C at_303 (v := (0 : Int32)) rfl rfl ?_
                    refine Ww.callV (pc' := 307) C at_304 (a := x1086) (fun vm0 C => (strAt C hw hs O1085 (Wn := 0) (i := 0) G15 (show _ < _ from Nat.le_of_ble_eq_true rfl) rfl (by decide) (by decide))) (pureC (P := fun v => v = some (.int (([c15, c19] : List Int32).getD 0 0))) O1085) (fun v h' q => Or.inl q.2) S1085.exa (w114 hw) (w70 hw) (fun vm0 hZ0 => notFace_of_selects (args := #[]) (mvT (s := W.s.setVm vm0) hZ0 (w72 hw))) (w72 hw) (w71 hw) (by decide) (argsL := [(.int (0 : Int32))]) (st := []) rfl rfl (lenOf pd10 rfl) rfl (Nat.le_of_eq rfl) (k' := 8) rfl (n' := 28) rfl (by decide) (by decide) rfl ?_
                    intro r1093 h1094 Q1094 O1094
                    obtain ⟨rfl, e1095⟩ := Q1094
                    obtain rfl := e1095.symm
                    refine Ww.aload (pc' := 309) C at_307 rfl rfl rfl ?_
                    refine Ww.iload (pc' := 311) C at_309 rfl rfl ?_
                    have X1096 : Ext h35 h853 := Wk.Ext.wr (Z := Z) E850 W853 (Nat.le_of_eq ga849.symm)
                    have X1097 : Ext h35 h855 := Wk.Ext.wr (Z := Z) X1096 W855 (Nat.le_of_eq ga849.symm)
                    have X1098 : Ext h35 h857 := Wk.Ext.wr (Z := Z) X1097 W857 (Nat.le_of_eq ga849.symm)
                    have X1099 : Ext h35 h859 := Wk.Ext.wr (Z := Z) X1098 W859 (Nat.le_of_eq ga849.symm)
                    have X1100 : Ext h35 h1078 := Wk.Ext.trans X1099 E1078
                    have X1101 : Ext h35 h1083 := Wk.Ext.keep1 (Z := Z) X1100 Kh1083 (Nat.le_trans X1099.1 (Nat.le_of_eq ga1077.symm))
                    have X1102 : Ext h35 h1085 := Wk.Ext.trans X1101 E1085
                    refine Ww.caload (pc' := 312) C at_311 (V35.ext X1102) (by decide) (v := (.int c15)) rfl rfl ?_
                    refine Ww.icmp_ne C at_312 (by decide) (pcT := 319) (by decide) (pc' := 315) rfl (fun q => absurd rfl q) (fun q1103 => ?_)
                    refine Ww.iconst (pc' := 316) C at_315 (v := (1 : Int32)) rfl rfl ?_
                    refine Ww.goto C at_316 (by decide) (pc' := 320) (by decide) ?_
                    refine Ww.istore (pc' := 322) C at_320 (Ls' := #[.val (.int p0), .val (.int p1), .val (.int p2), .val (.int p3), .val (.int p4), .val (.int (4 : Int32)), .val (.int c15), .val (.int c19), .val (.int c23), .val (.int c27), .val (.ref a29), .val (.ref a849), .val (.int (0 : Int32)), .val (.int (2 : Int32)), .val (.int (2 : Int32)), .val (.ref x1086), .val (.int (1 : Int32))]) rfl rfl ?_
                    refine Ww.iload (pc' := 324) C at_322 rfl rfl ?_
                    refine Ww.if_eq C at_324 (by decide) (pcT := 356) (by decide) (pc' := 327) rfl (fun q => absurd q (by decide)) (fun q1104 => ?_)
                    refine Ww.iload (pc' := 329) C at_327 rfl rfl ?_
                    refine Ww.iconst (pc' := 330) C at_329 (v := (1 : Int32)) rfl rfl ?_
                    refine Ww.icmp_le C at_330 (by decide) (pcT := 356) (by decide) (pc' := 333) rfl (fun q => absurd q (by decide)) (fun q1105 => ?_)
                    refine Ww.aload (pc' := 335) C at_333 rfl rfl rfl ?_
                    refine Ww.iconst (pc' := 336) C at_335 (v := (1 : Int32)) rfl rfl ?_
                    refine Ww.callV (pc' := 339) C at_336 (a := x1086) (fun vm0 C => (strAt C hw hs O1085 (Wn := 0) (i := 1) G15 (show _ < _ from Nat.le_of_ble_eq_true rfl) rfl (by decide) (by decide))) (pureC (P := fun v => v = some (.int (([c15, c19] : List Int32).getD 1 0))) O1085) (fun v h' q => Or.inl q.2) S1085.exa (w114 hw) (w70 hw) (fun vm0 hZ0 => notFace_of_selects (args := #[]) (mvT (s := W.s.setVm vm0) hZ0 (w72 hw))) (w72 hw) (w71 hw) (by decide) (argsL := [(.int (1 : Int32))]) (st := []) rfl rfl (lenOf pd10 rfl) rfl (Nat.le_of_eq rfl) (k' := 8) rfl (n' := 28) rfl (by decide) (by decide) rfl ?_
                    intro r1106 h1107 Q1107 O1107
                    obtain ⟨rfl, e1108⟩ := Q1107
                    obtain rfl := e1108.symm
                    refine Ww.aload (pc' := 341) C at_339 rfl rfl rfl ?_
                    refine Ww.iload (pc' := 343) C at_341 rfl rfl ?_
                    refine Ww.iconst (pc' := 344) C at_343 (v := (1 : Int32)) rfl rfl ?_
                    refine Ww.iadd (pc' := 345) C at_344 (v := (1 : Int32)) (by decide) rfl ?_
                    refine Ww.caload (pc' := 346) C at_345 (V35.ext X1102) (by decide) (v := (.int c19)) rfl rfl ?_
                    refine Ww.icmp_ne C at_346 (by decide) (pcT := 353) (by decide) (pc' := 349) rfl (fun q => absurd rfl q) (fun q1109 => ?_)
                    refine Ww.iconst (pc' := 350) C at_349 (v := (1 : Int32)) rfl rfl ?_
                    refine Ww.goto C at_350 (by decide) (pc' := 354) (by decide) ?_
                    refine Ww.istore (pc' := 356) C at_354 (Ls' := #[.val (.int p0), .val (.int p1), .val (.int p2), .val (.int p3), .val (.int p4), .val (.int (4 : Int32)), .val (.int c15), .val (.int c19), .val (.int c23), .val (.int c27), .val (.ref a29), .val (.ref a849), .val (.int (0 : Int32)), .val (.int (2 : Int32)), .val (.int (2 : Int32)), .val (.ref x1086), .val (.int (1 : Int32))]) rfl rfl ?_
                    refine Ww.iload (pc' := 358) C at_356 rfl rfl ?_
                    refine Ww.if_eq C at_358 (by decide) (pcT := 390) (by decide) (pc' := 361) rfl (fun q => absurd q (by decide)) (fun q1110 => ?_)
                    refine Ww.iload (pc' := 363) C at_361 rfl rfl ?_
                    refine Ww.iconst (pc' := 364) C at_363 (v := (2 : Int32)) rfl rfl ?_
                    refine Ww.icmp_le C at_364 (by decide) (pcT := 390) (by decide) (pc' := 367) rfl (fun q1111 => ?_) (fun q => absurd q (by decide))
                    refine Ww.iload (pc' := 392) C at_390 rfl rfl ?_
                    refine Ww.if_eq C at_392 (by decide) (pcT := 424) (by decide) (pc' := 395) rfl (fun q => absurd q (by decide)) (fun q1112 => ?_)
                    refine Ww.iload (pc' := 397) C at_395 rfl rfl ?_
                    refine Ww.iconst (pc' := 398) C at_397 (v := (3 : Int32)) rfl rfl ?_
                    refine Ww.icmp_le C at_398 (by decide) (pcT := 424) (by decide) (pc' := 401) rfl (fun q1113 => ?_) (fun q => absurd q (by decide))
                    refine Ww.iload (pc' := 426) C at_424 rfl rfl ?_
                    exact Ww.retNar (ty := .boolean) C hE (by simp) at_426 rfl (by decide) (by decide) rfl
                  · -- space: False
                    exact absurd q864 q1075
                · -- space: False
                  exact absurd q870 q1069
      · -- space: False
        refine Ww.if_ne C at_143 (by decide) (pcT := 149) (by decide) (pc' := 146) rfl (fun q => absurd q (by decide)) (fun q1114 => ?_)
        refine Ww.iconst (pc' := 147) C at_146 (v := (2 : Int32)) rfl rfl ?_
        refine Ww.istore (pc' := 149) C at_147 (Ls' := #[.val (.int p0), .val (.int p1), .val (.int p2), .val (.int p3), .val (.int p4), .val (.int (4 : Int32)), .val (.int c15), .val (.int c19), .val (.int c23), .val (.int c27), .val (.ref a29), .val (.ref a849), .val (.int (2 : Int32)), .unset, .unset, .unset, .unset]) rfl rfl ?_
        refine Ww.iload (pc' := 151) C at_149 rfl rfl ?_
        refine Ww.iconst (pc' := 152) C at_151 (v := (1 : Int32)) rfl rfl ?_
        refine Ww.icmp_le C at_152 (by decide) (pcT := 166) (by decide) (pc' := 155) rfl (fun q => absurd q (by decide)) (fun q1115 => ?_)
        refine Ww.iload (pc' := 157) C at_155 rfl rfl ?_
        refine Ww.callS (pc' := 160) C at_157 (fun vm0 C => (Wk.Con.pays C (Wn := 0) (own_sp l hw O859 c19) (w58 hw) (w2 hw) (by decide) (by decide))) Wk.cleanC (fun v h' q => Or.inl q.2) (w56 hw) (w57 hw) (w2 hw) (w58 hw) (by decide) (argsL := [(.int c19)]) (st := []) rfl rfl (lenOf pd14 rfl) rfl (Nat.le_of_eq rfl) (k' := 2) rfl (n' := 8) rfl (by decide) (by decide) rfl ?_
        intro r1116 h1117 Q1117 O1117
        obtain ⟨q1119, e1118⟩ := Q1117
        obtain rfl := e1118.symm
        rcases q1119 with ⟨rfl, q1119⟩ | ⟨rfl, q1119⟩
        · -- space: True
          refine Ww.if_ne C at_160 (by decide) (pcT := 166) (by decide) (pc' := 163) rfl (fun q1120 => ?_) (fun q => absurd q (by decide))
          refine Ww.iload (pc' := 168) C at_166 rfl rfl ?_
          refine Ww.if_le C at_168 (by decide) (pcT := 182) (by decide) (pc' := 171) rfl (fun q => absurd q (by decide)) (fun q1121 => ?_)
          refine Ww.iload (pc' := 173) C at_171 rfl rfl ?_
          refine Ww.callS (pc' := 176) C at_173 (fun vm0 C => (Wk.Con.pays C (Wn := 0) (own_sp l hw O859 c15) (w58 hw) (w2 hw) (by decide) (by decide))) Wk.cleanC (fun v h' q => Or.inl q.2) (w56 hw) (w57 hw) (w2 hw) (w58 hw) (by decide) (argsL := [(.int c15)]) (st := []) rfl rfl (lenOf pd14 rfl) rfl (Nat.le_of_eq rfl) (k' := 2) rfl (n' := 8) rfl (by decide) (by decide) rfl ?_
          intro r1122 h1123 Q1123 O1123
          obtain ⟨q1125, e1124⟩ := Q1123
          obtain rfl := e1124.symm
          rcases q1125 with ⟨rfl, q1125⟩ | ⟨rfl, q1125⟩
          · -- space: True
            refine Ww.if_ne C at_176 (by decide) (pcT := 182) (by decide) (pc' := 179) rfl (fun q1126 => ?_) (fun q => absurd q (by decide))
            refine Ww.iload (pc' := 184) C at_182 rfl rfl ?_
            refine Ww.istore (pc' := 186) C at_184 (Ls' := #[.val (.int p0), .val (.int p1), .val (.int p2), .val (.int p3), .val (.int p4), .val (.int (4 : Int32)), .val (.int c15), .val (.int c19), .val (.int c23), .val (.int c27), .val (.ref a29), .val (.ref a849), .val (.int (2 : Int32)), .val (.int (2 : Int32)), .unset, .unset, .unset]) rfl rfl ?_
            refine Ww.iload (pc' := 188) C at_186 rfl rfl ?_
            refine Ww.if_le C at_188 (by decide) (pcT := 202) (by decide) (pc' := 191) rfl (fun q => absurd q (by decide)) (fun q1127 => ?_)
            refine Ww.iload (pc' := 193) C at_191 rfl rfl ?_
            refine Ww.callS (pc' := 196) C at_193 (fun vm0 C => (Wk.Con.pays C (Wn := 0) (own_sp l hw O859 c15) (w58 hw) (w2 hw) (by decide) (by decide))) Wk.cleanC (fun v h' q => Or.inl q.2) (w56 hw) (w57 hw) (w2 hw) (w58 hw) (by decide) (argsL := [(.int c15)]) (st := []) rfl rfl (lenOf pd14 rfl) rfl (Nat.le_of_eq rfl) (k' := 2) rfl (n' := 8) rfl (by decide) (by decide) rfl ?_
            intro r1128 h1129 Q1129 O1129
            obtain ⟨q1131, e1130⟩ := Q1129
            obtain rfl := e1130.symm
            rcases q1131 with ⟨rfl, q1131⟩ | ⟨rfl, q1131⟩
            · -- space: True
              refine Ww.if_ne C at_196 (by decide) (pcT := 202) (by decide) (pc' := 199) rfl (fun q1132 => ?_) (fun q => absurd q (by decide))
              refine Ww.iload (pc' := 204) C at_202 rfl rfl ?_
              refine Ww.iconst (pc' := 205) C at_204 (v := (1 : Int32)) rfl rfl ?_
              refine Ww.icmp_le C at_205 (by decide) (pcT := 219) (by decide) (pc' := 208) rfl (fun q => absurd q (by decide)) (fun q1133 => ?_)
              refine Ww.iload (pc' := 210) C at_208 rfl rfl ?_
              refine Ww.callS (pc' := 213) C at_210 (fun vm0 C => (Wk.Con.pays C (Wn := 0) (own_sp l hw O859 c19) (w58 hw) (w2 hw) (by decide) (by decide))) Wk.cleanC (fun v h' q => Or.inl q.2) (w56 hw) (w57 hw) (w2 hw) (w58 hw) (by decide) (argsL := [(.int c19)]) (st := []) rfl rfl (lenOf pd14 rfl) rfl (Nat.le_of_eq rfl) (k' := 2) rfl (n' := 8) rfl (by decide) (by decide) rfl ?_
              intro r1134 h1135 Q1135 O1135
              obtain ⟨q1137, e1136⟩ := Q1135
              obtain rfl := e1136.symm
              rcases q1137 with ⟨rfl, q1137⟩ | ⟨rfl, q1137⟩
              · -- space: True
                refine Ww.if_ne C at_213 (by decide) (pcT := 219) (by decide) (pc' := 216) rfl (fun q1138 => ?_) (fun q => absurd q (by decide))
                refine Ww.iload (pc' := 221) C at_219 rfl rfl ?_
                refine Ww.iconst (pc' := 222) C at_221 (v := (2 : Int32)) rfl rfl ?_
                refine Ww.icmp_le C at_222 (by decide) (pcT := 236) (by decide) (pc' := 225) rfl (fun q => absurd q (by decide)) (fun q1139 => ?_)
                refine Ww.iload (pc' := 227) C at_225 rfl rfl ?_
                refine Ww.callS (pc' := 230) C at_227 (fun vm0 C => (Wk.Con.pays C (Wn := 0) (own_sp l hw O859 c23) (w58 hw) (w2 hw) (by decide) (by decide))) Wk.cleanC (fun v h' q => Or.inl q.2) (w56 hw) (w57 hw) (w2 hw) (w58 hw) (by decide) (argsL := [(.int c23)]) (st := []) rfl rfl (lenOf pd14 rfl) rfl (Nat.le_of_eq rfl) (k' := 2) rfl (n' := 8) rfl (by decide) (by decide) rfl ?_
                intro r1140 h1141 Q1141 O1141
                obtain ⟨q1143, e1142⟩ := Q1141
                obtain rfl := e1142.symm
                rcases q1143 with ⟨rfl, q1143⟩ | ⟨rfl, q1143⟩
                · -- space: True
                  exact absurd q1143 q870
                · -- space: False
                  refine Ww.if_ne C at_230 (by decide) (pcT := 236) (by decide) (pc' := 233) rfl (fun q => absurd q (by decide)) (fun q1144 => ?_)
                  refine Ww.iconst (pc' := 234) C at_233 (v := (3 : Int32)) rfl rfl ?_
                  refine Ww.istore (pc' := 236) C at_234 (Ls' := #[.val (.int p0), .val (.int p1), .val (.int p2), .val (.int p3), .val (.int p4), .val (.int (4 : Int32)), .val (.int c15), .val (.int c19), .val (.int c23), .val (.int c27), .val (.ref a29), .val (.ref a849), .val (.int (2 : Int32)), .val (.int (3 : Int32)), .unset, .unset, .unset]) rfl rfl ?_
                  refine Ww.iload (pc' := 238) C at_236 rfl rfl ?_
                  refine Ww.iconst (pc' := 239) C at_238 (v := (3 : Int32)) rfl rfl ?_
                  refine Ww.icmp_le C at_239 (by decide) (pcT := 253) (by decide) (pc' := 242) rfl (fun q => absurd q (by decide)) (fun q1145 => ?_)
                  refine Ww.iload (pc' := 244) C at_242 rfl rfl ?_
                  refine Ww.callS (pc' := 247) C at_244 (fun vm0 C => (Wk.Con.pays C (Wn := 0) (own_sp l hw O859 c27) (w58 hw) (w2 hw) (by decide) (by decide))) Wk.cleanC (fun v h' q => Or.inl q.2) (w56 hw) (w57 hw) (w2 hw) (w58 hw) (by decide) (argsL := [(.int c27)]) (st := []) rfl rfl (lenOf pd14 rfl) rfl (Nat.le_of_eq rfl) (k' := 2) rfl (n' := 8) rfl (by decide) (by decide) rfl ?_
                  intro r1146 h1147 Q1147 O1147
                  obtain ⟨q1149, e1148⟩ := Q1147
                  obtain rfl := e1148.symm
                  rcases q1149 with ⟨rfl, q1149⟩ | ⟨rfl, q1149⟩
                  · -- space: True
                    refine Ww.if_ne C at_247 (by decide) (pcT := 253) (by decide) (pc' := 250) rfl (fun q1150 => ?_) (fun q => absurd q (by decide))
                    refine Ww.iload (pc' := 255) C at_253 rfl rfl ?_
                    refine Ww.iload (pc' := 257) C at_255 rfl rfl ?_
                    refine Ww.isub (pc' := 258) C at_257 (v := (1 : Int32)) (by decide) rfl ?_
                    refine Ww.istore (pc' := 260) C at_258 (Ls' := #[.val (.int p0), .val (.int p1), .val (.int p2), .val (.int p3), .val (.int p4), .val (.int (4 : Int32)), .val (.int c15), .val (.int c19), .val (.int c23), .val (.int c27), .val (.ref a29), .val (.ref a849), .val (.int (2 : Int32)), .val (.int (3 : Int32)), .val (.int (1 : Int32)), .unset, .unset]) rfl rfl ?_
                    refine Ww.newO (pc' := 263) C at_260 (w5 hw) (w6 hw) (w7 hw) (k' := 3) rfl (n' := 12) rfl (by decide) (by decide) rfl ?_
                    intro a1151 h1152 ga1151 za1151 E1152 Aa1151 Da1151 Ua1151 O1152
                    have F1153 : Fld Z h1152 a1151 "java/lang/String" "value" "[B" .null := Da1151 (Or.inr (w20 hw)) (ty := (.array .byte)) (by decide)
                    have F1154 : Fld Z h1152 a1151 "java/lang/String" "coder" "B" (.int (0 : Int32)) := Da1151 (Or.inr (w21 hw)) (ty := .byte) (by decide)
                    refine Ww.dup (pc' := 264) C at_263 rfl rfl ?_
                    refine Ww.aload (pc' := 266) C at_264 rfl rfl rfl ?_
                    have hp1155 : ∀ c ∈ ([c15, c19, c23, c27] : List Int32), ¬ c < 0 ∧ ¬ (255 : Int32) < c := (List.forall_mem_cons.mpr ⟨rc15, (List.forall_mem_cons.mpr ⟨rc19, (List.forall_mem_cons.mpr ⟨rc23, (List.forall_mem_cons.mpr ⟨rc27, (fun _ h => nomatch h)⟩)⟩)⟩)⟩)
                    refine Ww.callI (pc' := 269) C at_266 (a := a1151) (fun vm0 C => (strNew C hw hs O1152 (cs := [c15, c19, c23, c27]) (n := 4) (Wn := 1) za1151 Aa1151 F1153 F1154 (V859.ext E1152) rfl (by decide) (by decide) hp1155 (by decide) (by decide))) (strNewC (n := 4) O1152 za1151 rfl (by decide) hp1155) (fun v h' q => Or.inr (Or.inr ⟨a1151, (List.mem_of_getElem? (i := 0) rfl), q.2.1⟩)) rfl (w8 hw) (w9 hw) (w10 hw) (by decide) (argsL := [(.ref a849)]) (st := [(.ref a1151)]) rfl rfl (lenOf pd12 rfl) rfl (Nat.le_of_eq rfl) (k' := 4) rfl (n' := 16) rfl (by decide) (by decide) rfl ?_
                    intro r1156 h1157 Q1157 O1157
                    obtain ⟨rfl, Kh1157, Sh1157⟩ := Q1157
                    refine Ww.callSS (pc' := 272) C at_269 (Ww.Con.pays hE (Wn := 0) (own_wos l hw hE O1157 hs a1151 [c15, c19, c23, c27] Sh1157 (show _ ≤ 4 from Nat.le_of_ble_eq_true rfl)) (w29 hw) (w28 hw) (by decide) (by decide)) Wk.cleanC (w26 hw) (w27 hw) (w28 hw) (w29 hw) (by decide) (argsL := [(.ref a1151)]) (st := []) rfl rfl (lenOf pd13 rfl) rfl (Nat.le_of_eq rfl) (k' := 8) rfl (n' := 28) rfl (by decide) (by decide) rfl ?_
                    intro r1158 h1159 Q1159 O1159
                    obtain ⟨x1160, rfl, E1159, S1159⟩ := Q1159
                    refine Ww.astore (pc' := 274) C at_272 rfl (Ls' := #[.val (.int p0), .val (.int p1), .val (.int p2), .val (.int p3), .val (.int p4), .val (.int (4 : Int32)), .val (.int c15), .val (.int c19), .val (.int c23), .val (.int c27), .val (.ref a29), .val (.ref a849), .val (.int (2 : Int32)), .val (.int (3 : Int32)), .val (.int (1 : Int32)), .val (.ref x1160), .unset]) rfl rfl ?_
                    have hT : trim [c15, c19, c23, c27] = [c23] := by simp [trim, lead, endAt, q1125, q1119, q870, q864]
                    have G15 : Str Z h1159 x1160 [c23] := hT ▸ S1159
                    refine Ww.aload (pc' := 276) C at_274 rfl rfl rfl ?_
                    refine Ww.callV (pc' := 279) C at_276 (a := x1160) (fun vm0 C => (strLen C hw hs O1159 (Wn := 0) G15 (by decide) (by decide))) (pureC (P := fun v => v = some (.int (Int32.ofNat ([c23] : List Int32).length))) O1159) (fun v h' q => Or.inl q.2) S1159.exa (w55 hw) (w31 hw) (fun vm0 hZ0 => notFace_of_selects (args := #[]) (mvT (s := W.s.setVm vm0) hZ0 (w33 hw))) (w33 hw) (w32 hw) (by decide) (argsL := []) (st := []) rfl rfl (lenOf pd5 rfl) rfl (Nat.le_of_eq rfl) (k' := 8) rfl (n' := 28) rfl (by decide) (by decide) rfl ?_
                    intro r1161 h1162 Q1162 O1162
                    obtain ⟨rfl, e1163⟩ := Q1162
                    obtain rfl := e1163.symm
                    refine Ww.iload (pc' := 281) C at_279 rfl rfl ?_
                    refine Ww.icmp_ne C at_281 (by decide) (pcT := 288) (by decide) (pc' := 284) rfl (fun q => absurd rfl q) (fun q1164 => ?_)
                    refine Ww.iconst (pc' := 285) C at_284 (v := (1 : Int32)) rfl rfl ?_
                    refine Ww.goto C at_285 (by decide) (pc' := 289) (by decide) ?_
                    refine Ww.istore (pc' := 291) C at_289 (Ls' := #[.val (.int p0), .val (.int p1), .val (.int p2), .val (.int p3), .val (.int p4), .val (.int (4 : Int32)), .val (.int c15), .val (.int c19), .val (.int c23), .val (.int c27), .val (.ref a29), .val (.ref a849), .val (.int (2 : Int32)), .val (.int (3 : Int32)), .val (.int (1 : Int32)), .val (.ref x1160), .val (.int (1 : Int32))]) rfl rfl ?_
                    refine Ww.iload (pc' := 293) C at_291 rfl rfl ?_
                    refine Ww.if_eq C at_293 (by decide) (pcT := 322) (by decide) (pc' := 296) rfl (fun q => absurd q (by decide)) (fun q1165 => ?_)
                    refine Ww.iload (pc' := 298) C at_296 rfl rfl ?_
                    refine Ww.if_le C at_298 (by decide) (pcT := 322) (by decide) (pc' := 301) rfl (fun q => absurd q (by decide)) (fun q1166 => ?_)
                    refine Ww.aload (pc' := 303) C at_301 rfl rfl rfl ?_
                    refine Ww.iconst (pc' := 304) C at_303 (v := (0 : Int32)) rfl rfl ?_
                    refine Ww.callV (pc' := 307) C at_304 (a := x1160) (fun vm0 C => (strAt C hw hs O1159 (Wn := 0) (i := 0) G15 (show _ < _ from Nat.le_of_ble_eq_true rfl) rfl (by decide) (by decide))) (pureC (P := fun v => v = some (.int (([c23] : List Int32).getD 0 0))) O1159) (fun v h' q => Or.inl q.2) S1159.exa (w114 hw) (w70 hw) (fun vm0 hZ0 => notFace_of_selects (args := #[]) (mvT (s := W.s.setVm vm0) hZ0 (w72 hw))) (w72 hw) (w71 hw) (by decide) (argsL := [(.int (0 : Int32))]) (st := []) rfl rfl (lenOf pd10 rfl) rfl (Nat.le_of_eq rfl) (k' := 8) rfl (n' := 28) rfl (by decide) (by decide) rfl ?_
                    intro r1167 h1168 Q1168 O1168
                    obtain ⟨rfl, e1169⟩ := Q1168
                    obtain rfl := e1169.symm
                    refine Ww.aload (pc' := 309) C at_307 rfl rfl rfl ?_
                    refine Ww.iload (pc' := 311) C at_309 rfl rfl ?_
                    have X1170 : Ext h35 h853 := Wk.Ext.wr (Z := Z) E850 W853 (Nat.le_of_eq ga849.symm)
                    have X1171 : Ext h35 h855 := Wk.Ext.wr (Z := Z) X1170 W855 (Nat.le_of_eq ga849.symm)
                    have X1172 : Ext h35 h857 := Wk.Ext.wr (Z := Z) X1171 W857 (Nat.le_of_eq ga849.symm)
                    have X1173 : Ext h35 h859 := Wk.Ext.wr (Z := Z) X1172 W859 (Nat.le_of_eq ga849.symm)
                    have X1174 : Ext h35 h1152 := Wk.Ext.trans X1173 E1152
                    have X1175 : Ext h35 h1157 := Wk.Ext.keep1 (Z := Z) X1174 Kh1157 (Nat.le_trans X1173.1 (Nat.le_of_eq ga1151.symm))
                    have X1176 : Ext h35 h1159 := Wk.Ext.trans X1175 E1159
                    refine Ww.caload (pc' := 312) C at_311 (V35.ext X1176) (by decide) (v := (.int c23)) rfl rfl ?_
                    refine Ww.icmp_ne C at_312 (by decide) (pcT := 319) (by decide) (pc' := 315) rfl (fun q => absurd rfl q) (fun q1177 => ?_)
                    refine Ww.iconst (pc' := 316) C at_315 (v := (1 : Int32)) rfl rfl ?_
                    refine Ww.goto C at_316 (by decide) (pc' := 320) (by decide) ?_
                    refine Ww.istore (pc' := 322) C at_320 (Ls' := #[.val (.int p0), .val (.int p1), .val (.int p2), .val (.int p3), .val (.int p4), .val (.int (4 : Int32)), .val (.int c15), .val (.int c19), .val (.int c23), .val (.int c27), .val (.ref a29), .val (.ref a849), .val (.int (2 : Int32)), .val (.int (3 : Int32)), .val (.int (1 : Int32)), .val (.ref x1160), .val (.int (1 : Int32))]) rfl rfl ?_
                    refine Ww.iload (pc' := 324) C at_322 rfl rfl ?_
                    refine Ww.if_eq C at_324 (by decide) (pcT := 356) (by decide) (pc' := 327) rfl (fun q => absurd q (by decide)) (fun q1178 => ?_)
                    refine Ww.iload (pc' := 329) C at_327 rfl rfl ?_
                    refine Ww.iconst (pc' := 330) C at_329 (v := (1 : Int32)) rfl rfl ?_
                    refine Ww.icmp_le C at_330 (by decide) (pcT := 356) (by decide) (pc' := 333) rfl (fun q1179 => ?_) (fun q => absurd q (by decide))
                    refine Ww.iload (pc' := 358) C at_356 rfl rfl ?_
                    refine Ww.if_eq C at_358 (by decide) (pcT := 390) (by decide) (pc' := 361) rfl (fun q => absurd q (by decide)) (fun q1180 => ?_)
                    refine Ww.iload (pc' := 363) C at_361 rfl rfl ?_
                    refine Ww.iconst (pc' := 364) C at_363 (v := (2 : Int32)) rfl rfl ?_
                    refine Ww.icmp_le C at_364 (by decide) (pcT := 390) (by decide) (pc' := 367) rfl (fun q1181 => ?_) (fun q => absurd q (by decide))
                    refine Ww.iload (pc' := 392) C at_390 rfl rfl ?_
                    refine Ww.if_eq C at_392 (by decide) (pcT := 424) (by decide) (pc' := 395) rfl (fun q => absurd q (by decide)) (fun q1182 => ?_)
                    refine Ww.iload (pc' := 397) C at_395 rfl rfl ?_
                    refine Ww.iconst (pc' := 398) C at_397 (v := (3 : Int32)) rfl rfl ?_
                    refine Ww.icmp_le C at_398 (by decide) (pcT := 424) (by decide) (pc' := 401) rfl (fun q1183 => ?_) (fun q => absurd q (by decide))
                    refine Ww.iload (pc' := 426) C at_424 rfl rfl ?_
                    exact Ww.retNar (ty := .boolean) C hE (by simp) at_426 rfl (by decide) (by decide) rfl
                  · -- space: False
                    exact absurd q864 q1149
              · -- space: False
                exact absurd q1119 q1137
            · -- space: False
              exact absurd q1125 q1131
          · -- space: False
            refine Ww.if_ne C at_176 (by decide) (pcT := 182) (by decide) (pc' := 179) rfl (fun q => absurd q (by decide)) (fun q1184 => ?_)
            refine Ww.iconst (pc' := 180) C at_179 (v := (0 : Int32)) rfl rfl ?_
            refine Ww.istore (pc' := 182) C at_180 (Ls' := #[.val (.int p0), .val (.int p1), .val (.int p2), .val (.int p3), .val (.int p4), .val (.int (4 : Int32)), .val (.int c15), .val (.int c19), .val (.int c23), .val (.int c27), .val (.ref a29), .val (.ref a849), .val (.int (0 : Int32)), .unset, .unset, .unset, .unset]) rfl rfl ?_
            refine Ww.iload (pc' := 184) C at_182 rfl rfl ?_
            refine Ww.istore (pc' := 186) C at_184 (Ls' := #[.val (.int p0), .val (.int p1), .val (.int p2), .val (.int p3), .val (.int p4), .val (.int (4 : Int32)), .val (.int c15), .val (.int c19), .val (.int c23), .val (.int c27), .val (.ref a29), .val (.ref a849), .val (.int (0 : Int32)), .val (.int (0 : Int32)), .unset, .unset, .unset]) rfl rfl ?_
            refine Ww.iload (pc' := 188) C at_186 rfl rfl ?_
            refine Ww.if_le C at_188 (by decide) (pcT := 202) (by decide) (pc' := 191) rfl (fun q => absurd q (by decide)) (fun q1185 => ?_)
            refine Ww.iload (pc' := 193) C at_191 rfl rfl ?_
            refine Ww.callS (pc' := 196) C at_193 (fun vm0 C => (Wk.Con.pays C (Wn := 0) (own_sp l hw O859 c15) (w58 hw) (w2 hw) (by decide) (by decide))) Wk.cleanC (fun v h' q => Or.inl q.2) (w56 hw) (w57 hw) (w2 hw) (w58 hw) (by decide) (argsL := [(.int c15)]) (st := []) rfl rfl (lenOf pd14 rfl) rfl (Nat.le_of_eq rfl) (k' := 2) rfl (n' := 8) rfl (by decide) (by decide) rfl ?_
            intro r1186 h1187 Q1187 O1187
            obtain ⟨q1189, e1188⟩ := Q1187
            obtain rfl := e1188.symm
            rcases q1189 with ⟨rfl, q1189⟩ | ⟨rfl, q1189⟩
            · -- space: True
              exact absurd q1189 q1125
            · -- space: False
              refine Ww.if_ne C at_196 (by decide) (pcT := 202) (by decide) (pc' := 199) rfl (fun q => absurd q (by decide)) (fun q1190 => ?_)
              refine Ww.iconst (pc' := 200) C at_199 (v := (1 : Int32)) rfl rfl ?_
              refine Ww.istore (pc' := 202) C at_200 (Ls' := #[.val (.int p0), .val (.int p1), .val (.int p2), .val (.int p3), .val (.int p4), .val (.int (4 : Int32)), .val (.int c15), .val (.int c19), .val (.int c23), .val (.int c27), .val (.ref a29), .val (.ref a849), .val (.int (0 : Int32)), .val (.int (1 : Int32)), .unset, .unset, .unset]) rfl rfl ?_
              refine Ww.iload (pc' := 204) C at_202 rfl rfl ?_
              refine Ww.iconst (pc' := 205) C at_204 (v := (1 : Int32)) rfl rfl ?_
              refine Ww.icmp_le C at_205 (by decide) (pcT := 219) (by decide) (pc' := 208) rfl (fun q => absurd q (by decide)) (fun q1191 => ?_)
              refine Ww.iload (pc' := 210) C at_208 rfl rfl ?_
              refine Ww.callS (pc' := 213) C at_210 (fun vm0 C => (Wk.Con.pays C (Wn := 0) (own_sp l hw O859 c19) (w58 hw) (w2 hw) (by decide) (by decide))) Wk.cleanC (fun v h' q => Or.inl q.2) (w56 hw) (w57 hw) (w2 hw) (w58 hw) (by decide) (argsL := [(.int c19)]) (st := []) rfl rfl (lenOf pd14 rfl) rfl (Nat.le_of_eq rfl) (k' := 2) rfl (n' := 8) rfl (by decide) (by decide) rfl ?_
              intro r1192 h1193 Q1193 O1193
              obtain ⟨q1195, e1194⟩ := Q1193
              obtain rfl := e1194.symm
              rcases q1195 with ⟨rfl, q1195⟩ | ⟨rfl, q1195⟩
              · -- space: True
                refine Ww.if_ne C at_213 (by decide) (pcT := 219) (by decide) (pc' := 216) rfl (fun q1196 => ?_) (fun q => absurd q (by decide))
                refine Ww.iload (pc' := 221) C at_219 rfl rfl ?_
                refine Ww.iconst (pc' := 222) C at_221 (v := (2 : Int32)) rfl rfl ?_
                refine Ww.icmp_le C at_222 (by decide) (pcT := 236) (by decide) (pc' := 225) rfl (fun q => absurd q (by decide)) (fun q1197 => ?_)
                refine Ww.iload (pc' := 227) C at_225 rfl rfl ?_
                refine Ww.callS (pc' := 230) C at_227 (fun vm0 C => (Wk.Con.pays C (Wn := 0) (own_sp l hw O859 c23) (w58 hw) (w2 hw) (by decide) (by decide))) Wk.cleanC (fun v h' q => Or.inl q.2) (w56 hw) (w57 hw) (w2 hw) (w58 hw) (by decide) (argsL := [(.int c23)]) (st := []) rfl rfl (lenOf pd14 rfl) rfl (Nat.le_of_eq rfl) (k' := 2) rfl (n' := 8) rfl (by decide) (by decide) rfl ?_
                intro r1198 h1199 Q1199 O1199
                obtain ⟨q1201, e1200⟩ := Q1199
                obtain rfl := e1200.symm
                rcases q1201 with ⟨rfl, q1201⟩ | ⟨rfl, q1201⟩
                · -- space: True
                  exact absurd q1201 q870
                · -- space: False
                  refine Ww.if_ne C at_230 (by decide) (pcT := 236) (by decide) (pc' := 233) rfl (fun q => absurd q (by decide)) (fun q1202 => ?_)
                  refine Ww.iconst (pc' := 234) C at_233 (v := (3 : Int32)) rfl rfl ?_
                  refine Ww.istore (pc' := 236) C at_234 (Ls' := #[.val (.int p0), .val (.int p1), .val (.int p2), .val (.int p3), .val (.int p4), .val (.int (4 : Int32)), .val (.int c15), .val (.int c19), .val (.int c23), .val (.int c27), .val (.ref a29), .val (.ref a849), .val (.int (0 : Int32)), .val (.int (3 : Int32)), .unset, .unset, .unset]) rfl rfl ?_
                  refine Ww.iload (pc' := 238) C at_236 rfl rfl ?_
                  refine Ww.iconst (pc' := 239) C at_238 (v := (3 : Int32)) rfl rfl ?_
                  refine Ww.icmp_le C at_239 (by decide) (pcT := 253) (by decide) (pc' := 242) rfl (fun q => absurd q (by decide)) (fun q1203 => ?_)
                  refine Ww.iload (pc' := 244) C at_242 rfl rfl ?_
                  refine Ww.callS (pc' := 247) C at_244 (fun vm0 C => (Wk.Con.pays C (Wn := 0) (own_sp l hw O859 c27) (w58 hw) (w2 hw) (by decide) (by decide))) Wk.cleanC (fun v h' q => Or.inl q.2) (w56 hw) (w57 hw) (w2 hw) (w58 hw) (by decide) (argsL := [(.int c27)]) (st := []) rfl rfl (lenOf pd14 rfl) rfl (Nat.le_of_eq rfl) (k' := 2) rfl (n' := 8) rfl (by decide) (by decide) rfl ?_
                  intro r1204 h1205 Q1205 O1205
                  obtain ⟨q1207, e1206⟩ := Q1205
                  obtain rfl := e1206.symm
                  rcases q1207 with ⟨rfl, q1207⟩ | ⟨rfl, q1207⟩
                  · -- space: True
                    refine Ww.if_ne C at_247 (by decide) (pcT := 253) (by decide) (pc' := 250) rfl (fun q1208 => ?_) (fun q => absurd q (by decide))
                    refine Ww.iload (pc' := 255) C at_253 rfl rfl ?_
                    refine Ww.iload (pc' := 257) C at_255 rfl rfl ?_
                    refine Ww.isub (pc' := 258) C at_257 (v := (3 : Int32)) (by decide) rfl ?_
                    refine Ww.istore (pc' := 260) C at_258 (Ls' := #[.val (.int p0), .val (.int p1), .val (.int p2), .val (.int p3), .val (.int p4), .val (.int (4 : Int32)), .val (.int c15), .val (.int c19), .val (.int c23), .val (.int c27), .val (.ref a29), .val (.ref a849), .val (.int (0 : Int32)), .val (.int (3 : Int32)), .val (.int (3 : Int32)), .unset, .unset]) rfl rfl ?_
                    refine Ww.newO (pc' := 263) C at_260 (w5 hw) (w6 hw) (w7 hw) (k' := 3) rfl (n' := 12) rfl (by decide) (by decide) rfl ?_
                    intro a1209 h1210 ga1209 za1209 E1210 Aa1209 Da1209 Ua1209 O1210
                    have F1211 : Fld Z h1210 a1209 "java/lang/String" "value" "[B" .null := Da1209 (Or.inr (w20 hw)) (ty := (.array .byte)) (by decide)
                    have F1212 : Fld Z h1210 a1209 "java/lang/String" "coder" "B" (.int (0 : Int32)) := Da1209 (Or.inr (w21 hw)) (ty := .byte) (by decide)
                    refine Ww.dup (pc' := 264) C at_263 rfl rfl ?_
                    refine Ww.aload (pc' := 266) C at_264 rfl rfl rfl ?_
                    have hp1213 : ∀ c ∈ ([c15, c19, c23, c27] : List Int32), ¬ c < 0 ∧ ¬ (255 : Int32) < c := (List.forall_mem_cons.mpr ⟨rc15, (List.forall_mem_cons.mpr ⟨rc19, (List.forall_mem_cons.mpr ⟨rc23, (List.forall_mem_cons.mpr ⟨rc27, (fun _ h => nomatch h)⟩)⟩)⟩)⟩)
                    refine Ww.callI (pc' := 269) C at_266 (a := a1209) (fun vm0 C => (strNew C hw hs O1210 (cs := [c15, c19, c23, c27]) (n := 4) (Wn := 1) za1209 Aa1209 F1211 F1212 (V859.ext E1210) rfl (by decide) (by decide) hp1213 (by decide) (by decide))) (strNewC (n := 4) O1210 za1209 rfl (by decide) hp1213) (fun v h' q => Or.inr (Or.inr ⟨a1209, (List.mem_of_getElem? (i := 0) rfl), q.2.1⟩)) rfl (w8 hw) (w9 hw) (w10 hw) (by decide) (argsL := [(.ref a849)]) (st := [(.ref a1209)]) rfl rfl (lenOf pd12 rfl) rfl (Nat.le_of_eq rfl) (k' := 4) rfl (n' := 16) rfl (by decide) (by decide) rfl ?_
                    intro r1214 h1215 Q1215 O1215
                    obtain ⟨rfl, Kh1215, Sh1215⟩ := Q1215
                    refine Ww.callSS (pc' := 272) C at_269 (Ww.Con.pays hE (Wn := 0) (own_wos l hw hE O1215 hs a1209 [c15, c19, c23, c27] Sh1215 (show _ ≤ 4 from Nat.le_of_ble_eq_true rfl)) (w29 hw) (w28 hw) (by decide) (by decide)) Wk.cleanC (w26 hw) (w27 hw) (w28 hw) (w29 hw) (by decide) (argsL := [(.ref a1209)]) (st := []) rfl rfl (lenOf pd13 rfl) rfl (Nat.le_of_eq rfl) (k' := 8) rfl (n' := 28) rfl (by decide) (by decide) rfl ?_
                    intro r1216 h1217 Q1217 O1217
                    obtain ⟨x1218, rfl, E1217, S1217⟩ := Q1217
                    refine Ww.astore (pc' := 274) C at_272 rfl (Ls' := #[.val (.int p0), .val (.int p1), .val (.int p2), .val (.int p3), .val (.int p4), .val (.int (4 : Int32)), .val (.int c15), .val (.int c19), .val (.int c23), .val (.int c27), .val (.ref a29), .val (.ref a849), .val (.int (0 : Int32)), .val (.int (3 : Int32)), .val (.int (3 : Int32)), .val (.ref x1218), .unset]) rfl rfl ?_
                    have hT : trim [c15, c19, c23, c27] = [c15, c19, c23] := by simp [trim, lead, endAt, q1125, q1119, q870, q864]
                    have G15 : Str Z h1217 x1218 [c15, c19, c23] := hT ▸ S1217
                    refine Ww.aload (pc' := 276) C at_274 rfl rfl rfl ?_
                    refine Ww.callV (pc' := 279) C at_276 (a := x1218) (fun vm0 C => (strLen C hw hs O1217 (Wn := 0) G15 (by decide) (by decide))) (pureC (P := fun v => v = some (.int (Int32.ofNat ([c15, c19, c23] : List Int32).length))) O1217) (fun v h' q => Or.inl q.2) S1217.exa (w55 hw) (w31 hw) (fun vm0 hZ0 => notFace_of_selects (args := #[]) (mvT (s := W.s.setVm vm0) hZ0 (w33 hw))) (w33 hw) (w32 hw) (by decide) (argsL := []) (st := []) rfl rfl (lenOf pd5 rfl) rfl (Nat.le_of_eq rfl) (k' := 8) rfl (n' := 28) rfl (by decide) (by decide) rfl ?_
                    intro r1219 h1220 Q1220 O1220
                    obtain ⟨rfl, e1221⟩ := Q1220
                    obtain rfl := e1221.symm
                    refine Ww.iload (pc' := 281) C at_279 rfl rfl ?_
                    refine Ww.icmp_ne C at_281 (by decide) (pcT := 288) (by decide) (pc' := 284) rfl (fun q => absurd rfl q) (fun q1222 => ?_)
                    refine Ww.iconst (pc' := 285) C at_284 (v := (1 : Int32)) rfl rfl ?_
                    refine Ww.goto C at_285 (by decide) (pc' := 289) (by decide) ?_
                    refine Ww.istore (pc' := 291) C at_289 (Ls' := #[.val (.int p0), .val (.int p1), .val (.int p2), .val (.int p3), .val (.int p4), .val (.int (4 : Int32)), .val (.int c15), .val (.int c19), .val (.int c23), .val (.int c27), .val (.ref a29), .val (.ref a849), .val (.int (0 : Int32)), .val (.int (3 : Int32)), .val (.int (3 : Int32)), .val (.ref x1218), .val (.int (1 : Int32))]) rfl rfl ?_
                    refine Ww.iload (pc' := 293) C at_291 rfl rfl ?_
                    refine Ww.if_eq C at_293 (by decide) (pcT := 322) (by decide) (pc' := 296) rfl (fun q => absurd q (by decide)) (fun q1223 => ?_)
                    refine Ww.iload (pc' := 298) C at_296 rfl rfl ?_
                    refine Ww.if_le C at_298 (by decide) (pcT := 322) (by decide) (pc' := 301) rfl (fun q => absurd q (by decide)) (fun q1224 => ?_)
                    refine Ww.aload (pc' := 303) C at_301 rfl rfl rfl ?_
                    refine Ww.iconst (pc' := 304) C at_303 (v := (0 : Int32)) rfl rfl ?_
                    refine Ww.callV (pc' := 307) C at_304 (a := x1218) (fun vm0 C => (strAt C hw hs O1217 (Wn := 0) (i := 0) G15 (show _ < _ from Nat.le_of_ble_eq_true rfl) rfl (by decide) (by decide))) (pureC (P := fun v => v = some (.int (([c15, c19, c23] : List Int32).getD 0 0))) O1217) (fun v h' q => Or.inl q.2) S1217.exa (w114 hw) (w70 hw) (fun vm0 hZ0 => notFace_of_selects (args := #[]) (mvT (s := W.s.setVm vm0) hZ0 (w72 hw))) (w72 hw) (w71 hw) (by decide) (argsL := [(.int (0 : Int32))]) (st := []) rfl rfl (lenOf pd10 rfl) rfl (Nat.le_of_eq rfl) (k' := 8) rfl (n' := 28) rfl (by decide) (by decide) rfl ?_
                    intro r1225 h1226 Q1226 O1226
                    obtain ⟨rfl, e1227⟩ := Q1226
                    obtain rfl := e1227.symm
                    refine Ww.aload (pc' := 309) C at_307 rfl rfl rfl ?_
                    refine Ww.iload (pc' := 311) C at_309 rfl rfl ?_
                    have X1228 : Ext h35 h853 := Wk.Ext.wr (Z := Z) E850 W853 (Nat.le_of_eq ga849.symm)
                    have X1229 : Ext h35 h855 := Wk.Ext.wr (Z := Z) X1228 W855 (Nat.le_of_eq ga849.symm)
                    have X1230 : Ext h35 h857 := Wk.Ext.wr (Z := Z) X1229 W857 (Nat.le_of_eq ga849.symm)
                    have X1231 : Ext h35 h859 := Wk.Ext.wr (Z := Z) X1230 W859 (Nat.le_of_eq ga849.symm)
                    have X1232 : Ext h35 h1210 := Wk.Ext.trans X1231 E1210
                    have X1233 : Ext h35 h1215 := Wk.Ext.keep1 (Z := Z) X1232 Kh1215 (Nat.le_trans X1231.1 (Nat.le_of_eq ga1209.symm))
                    have X1234 : Ext h35 h1217 := Wk.Ext.trans X1233 E1217
                    refine Ww.caload (pc' := 312) C at_311 (V35.ext X1234) (by decide) (v := (.int c15)) rfl rfl ?_
                    refine Ww.icmp_ne C at_312 (by decide) (pcT := 319) (by decide) (pc' := 315) rfl (fun q => absurd rfl q) (fun q1235 => ?_)
                    refine Ww.iconst (pc' := 316) C at_315 (v := (1 : Int32)) rfl rfl ?_
                    refine Ww.goto C at_316 (by decide) (pc' := 320) (by decide) ?_
                    refine Ww.istore (pc' := 322) C at_320 (Ls' := #[.val (.int p0), .val (.int p1), .val (.int p2), .val (.int p3), .val (.int p4), .val (.int (4 : Int32)), .val (.int c15), .val (.int c19), .val (.int c23), .val (.int c27), .val (.ref a29), .val (.ref a849), .val (.int (0 : Int32)), .val (.int (3 : Int32)), .val (.int (3 : Int32)), .val (.ref x1218), .val (.int (1 : Int32))]) rfl rfl ?_
                    refine Ww.iload (pc' := 324) C at_322 rfl rfl ?_
                    refine Ww.if_eq C at_324 (by decide) (pcT := 356) (by decide) (pc' := 327) rfl (fun q => absurd q (by decide)) (fun q1236 => ?_)
                    refine Ww.iload (pc' := 329) C at_327 rfl rfl ?_
                    refine Ww.iconst (pc' := 330) C at_329 (v := (1 : Int32)) rfl rfl ?_
                    refine Ww.icmp_le C at_330 (by decide) (pcT := 356) (by decide) (pc' := 333) rfl (fun q => absurd q (by decide)) (fun q1237 => ?_)
                    refine Ww.aload (pc' := 335) C at_333 rfl rfl rfl ?_
                    refine Ww.iconst (pc' := 336) C at_335 (v := (1 : Int32)) rfl rfl ?_
                    refine Ww.callV (pc' := 339) C at_336 (a := x1218) (fun vm0 C => (strAt C hw hs O1217 (Wn := 0) (i := 1) G15 (show _ < _ from Nat.le_of_ble_eq_true rfl) rfl (by decide) (by decide))) (pureC (P := fun v => v = some (.int (([c15, c19, c23] : List Int32).getD 1 0))) O1217) (fun v h' q => Or.inl q.2) S1217.exa (w114 hw) (w70 hw) (fun vm0 hZ0 => notFace_of_selects (args := #[]) (mvT (s := W.s.setVm vm0) hZ0 (w72 hw))) (w72 hw) (w71 hw) (by decide) (argsL := [(.int (1 : Int32))]) (st := []) rfl rfl (lenOf pd10 rfl) rfl (Nat.le_of_eq rfl) (k' := 8) rfl (n' := 28) rfl (by decide) (by decide) rfl ?_
                    intro r1238 h1239 Q1239 O1239
                    obtain ⟨rfl, e1240⟩ := Q1239
                    obtain rfl := e1240.symm
                    refine Ww.aload (pc' := 341) C at_339 rfl rfl rfl ?_
                    refine Ww.iload (pc' := 343) C at_341 rfl rfl ?_
                    refine Ww.iconst (pc' := 344) C at_343 (v := (1 : Int32)) rfl rfl ?_
                    refine Ww.iadd (pc' := 345) C at_344 (v := (1 : Int32)) (by decide) rfl ?_
                    refine Ww.caload (pc' := 346) C at_345 (V35.ext X1234) (by decide) (v := (.int c19)) rfl rfl ?_
                    refine Ww.icmp_ne C at_346 (by decide) (pcT := 353) (by decide) (pc' := 349) rfl (fun q => absurd rfl q) (fun q1241 => ?_)
                    refine Ww.iconst (pc' := 350) C at_349 (v := (1 : Int32)) rfl rfl ?_
                    refine Ww.goto C at_350 (by decide) (pc' := 354) (by decide) ?_
                    refine Ww.istore (pc' := 356) C at_354 (Ls' := #[.val (.int p0), .val (.int p1), .val (.int p2), .val (.int p3), .val (.int p4), .val (.int (4 : Int32)), .val (.int c15), .val (.int c19), .val (.int c23), .val (.int c27), .val (.ref a29), .val (.ref a849), .val (.int (0 : Int32)), .val (.int (3 : Int32)), .val (.int (3 : Int32)), .val (.ref x1218), .val (.int (1 : Int32))]) rfl rfl ?_
                    refine Ww.iload (pc' := 358) C at_356 rfl rfl ?_
                    refine Ww.if_eq C at_358 (by decide) (pcT := 390) (by decide) (pc' := 361) rfl (fun q => absurd q (by decide)) (fun q1242 => ?_)
                    refine Ww.iload (pc' := 363) C at_361 rfl rfl ?_
                    refine Ww.iconst (pc' := 364) C at_363 (v := (2 : Int32)) rfl rfl ?_
                    refine Ww.icmp_le C at_364 (by decide) (pcT := 390) (by decide) (pc' := 367) rfl (fun q => absurd q (by decide)) (fun q1243 => ?_)
                    refine Ww.aload (pc' := 369) C at_367 rfl rfl rfl ?_
                    refine Ww.iconst (pc' := 370) C at_369 (v := (2 : Int32)) rfl rfl ?_
                    refine Ww.callV (pc' := 373) C at_370 (a := x1218) (fun vm0 C => (strAt C hw hs O1217 (Wn := 0) (i := 2) G15 (show _ < _ from Nat.le_of_ble_eq_true rfl) rfl (by decide) (by decide))) (pureC (P := fun v => v = some (.int (([c15, c19, c23] : List Int32).getD 2 0))) O1217) (fun v h' q => Or.inl q.2) S1217.exa (w114 hw) (w70 hw) (fun vm0 hZ0 => notFace_of_selects (args := #[]) (mvT (s := W.s.setVm vm0) hZ0 (w72 hw))) (w72 hw) (w71 hw) (by decide) (argsL := [(.int (2 : Int32))]) (st := []) rfl rfl (lenOf pd10 rfl) rfl (Nat.le_of_eq rfl) (k' := 8) rfl (n' := 28) rfl (by decide) (by decide) rfl ?_
                    intro r1244 h1245 Q1245 O1245
                    obtain ⟨rfl, e1246⟩ := Q1245
                    obtain rfl := e1246.symm
                    refine Ww.aload (pc' := 375) C at_373 rfl rfl rfl ?_
                    refine Ww.iload (pc' := 377) C at_375 rfl rfl ?_
                    refine Ww.iconst (pc' := 378) C at_377 (v := (2 : Int32)) rfl rfl ?_
                    refine Ww.iadd (pc' := 379) C at_378 (v := (2 : Int32)) (by decide) rfl ?_
                    refine Ww.caload (pc' := 380) C at_379 (V35.ext X1234) (by decide) (v := (.int c23)) rfl rfl ?_
                    refine Ww.icmp_ne C at_380 (by decide) (pcT := 387) (by decide) (pc' := 383) rfl (fun q => absurd rfl q) (fun q1247 => ?_)
                    refine Ww.iconst (pc' := 384) C at_383 (v := (1 : Int32)) rfl rfl ?_
                    refine Ww.goto C at_384 (by decide) (pc' := 388) (by decide) ?_
                    refine Ww.istore (pc' := 390) C at_388 (Ls' := #[.val (.int p0), .val (.int p1), .val (.int p2), .val (.int p3), .val (.int p4), .val (.int (4 : Int32)), .val (.int c15), .val (.int c19), .val (.int c23), .val (.int c27), .val (.ref a29), .val (.ref a849), .val (.int (0 : Int32)), .val (.int (3 : Int32)), .val (.int (3 : Int32)), .val (.ref x1218), .val (.int (1 : Int32))]) rfl rfl ?_
                    refine Ww.iload (pc' := 392) C at_390 rfl rfl ?_
                    refine Ww.if_eq C at_392 (by decide) (pcT := 424) (by decide) (pc' := 395) rfl (fun q => absurd q (by decide)) (fun q1248 => ?_)
                    refine Ww.iload (pc' := 397) C at_395 rfl rfl ?_
                    refine Ww.iconst (pc' := 398) C at_397 (v := (3 : Int32)) rfl rfl ?_
                    refine Ww.icmp_le C at_398 (by decide) (pcT := 424) (by decide) (pc' := 401) rfl (fun q1249 => ?_) (fun q => absurd q (by decide))
                    refine Ww.iload (pc' := 426) C at_424 rfl rfl ?_
                    exact Ww.retNar (ty := .boolean) C hE (by simp) at_426 rfl (by decide) (by decide) rfl
                  · -- space: False
                    exact absurd q864 q1207
              · -- space: False
                exact absurd q1119 q1195
        · -- space: False
          refine Ww.if_ne C at_160 (by decide) (pcT := 166) (by decide) (pc' := 163) rfl (fun q => absurd q (by decide)) (fun q1250 => ?_)
          refine Ww.iconst (pc' := 164) C at_163 (v := (1 : Int32)) rfl rfl ?_
          refine Ww.istore (pc' := 166) C at_164 (Ls' := #[.val (.int p0), .val (.int p1), .val (.int p2), .val (.int p3), .val (.int p4), .val (.int (4 : Int32)), .val (.int c15), .val (.int c19), .val (.int c23), .val (.int c27), .val (.ref a29), .val (.ref a849), .val (.int (1 : Int32)), .unset, .unset, .unset, .unset]) rfl rfl ?_
          refine Ww.iload (pc' := 168) C at_166 rfl rfl ?_
          refine Ww.if_le C at_168 (by decide) (pcT := 182) (by decide) (pc' := 171) rfl (fun q => absurd q (by decide)) (fun q1251 => ?_)
          refine Ww.iload (pc' := 173) C at_171 rfl rfl ?_
          refine Ww.callS (pc' := 176) C at_173 (fun vm0 C => (Wk.Con.pays C (Wn := 0) (own_sp l hw O859 c15) (w58 hw) (w2 hw) (by decide) (by decide))) Wk.cleanC (fun v h' q => Or.inl q.2) (w56 hw) (w57 hw) (w2 hw) (w58 hw) (by decide) (argsL := [(.int c15)]) (st := []) rfl rfl (lenOf pd14 rfl) rfl (Nat.le_of_eq rfl) (k' := 2) rfl (n' := 8) rfl (by decide) (by decide) rfl ?_
          intro r1252 h1253 Q1253 O1253
          obtain ⟨q1255, e1254⟩ := Q1253
          obtain rfl := e1254.symm
          rcases q1255 with ⟨rfl, q1255⟩ | ⟨rfl, q1255⟩
          · -- space: True
            refine Ww.if_ne C at_176 (by decide) (pcT := 182) (by decide) (pc' := 179) rfl (fun q1256 => ?_) (fun q => absurd q (by decide))
            refine Ww.iload (pc' := 184) C at_182 rfl rfl ?_
            refine Ww.istore (pc' := 186) C at_184 (Ls' := #[.val (.int p0), .val (.int p1), .val (.int p2), .val (.int p3), .val (.int p4), .val (.int (4 : Int32)), .val (.int c15), .val (.int c19), .val (.int c23), .val (.int c27), .val (.ref a29), .val (.ref a849), .val (.int (1 : Int32)), .val (.int (1 : Int32)), .unset, .unset, .unset]) rfl rfl ?_
            refine Ww.iload (pc' := 188) C at_186 rfl rfl ?_
            refine Ww.if_le C at_188 (by decide) (pcT := 202) (by decide) (pc' := 191) rfl (fun q => absurd q (by decide)) (fun q1257 => ?_)
            refine Ww.iload (pc' := 193) C at_191 rfl rfl ?_
            refine Ww.callS (pc' := 196) C at_193 (fun vm0 C => (Wk.Con.pays C (Wn := 0) (own_sp l hw O859 c15) (w58 hw) (w2 hw) (by decide) (by decide))) Wk.cleanC (fun v h' q => Or.inl q.2) (w56 hw) (w57 hw) (w2 hw) (w58 hw) (by decide) (argsL := [(.int c15)]) (st := []) rfl rfl (lenOf pd14 rfl) rfl (Nat.le_of_eq rfl) (k' := 2) rfl (n' := 8) rfl (by decide) (by decide) rfl ?_
            intro r1258 h1259 Q1259 O1259
            obtain ⟨q1261, e1260⟩ := Q1259
            obtain rfl := e1260.symm
            rcases q1261 with ⟨rfl, q1261⟩ | ⟨rfl, q1261⟩
            · -- space: True
              refine Ww.if_ne C at_196 (by decide) (pcT := 202) (by decide) (pc' := 199) rfl (fun q1262 => ?_) (fun q => absurd q (by decide))
              refine Ww.iload (pc' := 204) C at_202 rfl rfl ?_
              refine Ww.iconst (pc' := 205) C at_204 (v := (1 : Int32)) rfl rfl ?_
              refine Ww.icmp_le C at_205 (by decide) (pcT := 219) (by decide) (pc' := 208) rfl (fun q => absurd q (by decide)) (fun q1263 => ?_)
              refine Ww.iload (pc' := 210) C at_208 rfl rfl ?_
              refine Ww.callS (pc' := 213) C at_210 (fun vm0 C => (Wk.Con.pays C (Wn := 0) (own_sp l hw O859 c19) (w58 hw) (w2 hw) (by decide) (by decide))) Wk.cleanC (fun v h' q => Or.inl q.2) (w56 hw) (w57 hw) (w2 hw) (w58 hw) (by decide) (argsL := [(.int c19)]) (st := []) rfl rfl (lenOf pd14 rfl) rfl (Nat.le_of_eq rfl) (k' := 2) rfl (n' := 8) rfl (by decide) (by decide) rfl ?_
              intro r1264 h1265 Q1265 O1265
              obtain ⟨q1267, e1266⟩ := Q1265
              obtain rfl := e1266.symm
              rcases q1267 with ⟨rfl, q1267⟩ | ⟨rfl, q1267⟩
              · -- space: True
                exact absurd q1267 q1119
              · -- space: False
                refine Ww.if_ne C at_213 (by decide) (pcT := 219) (by decide) (pc' := 216) rfl (fun q => absurd q (by decide)) (fun q1268 => ?_)
                refine Ww.iconst (pc' := 217) C at_216 (v := (2 : Int32)) rfl rfl ?_
                refine Ww.istore (pc' := 219) C at_217 (Ls' := #[.val (.int p0), .val (.int p1), .val (.int p2), .val (.int p3), .val (.int p4), .val (.int (4 : Int32)), .val (.int c15), .val (.int c19), .val (.int c23), .val (.int c27), .val (.ref a29), .val (.ref a849), .val (.int (1 : Int32)), .val (.int (2 : Int32)), .unset, .unset, .unset]) rfl rfl ?_
                refine Ww.iload (pc' := 221) C at_219 rfl rfl ?_
                refine Ww.iconst (pc' := 222) C at_221 (v := (2 : Int32)) rfl rfl ?_
                refine Ww.icmp_le C at_222 (by decide) (pcT := 236) (by decide) (pc' := 225) rfl (fun q => absurd q (by decide)) (fun q1269 => ?_)
                refine Ww.iload (pc' := 227) C at_225 rfl rfl ?_
                refine Ww.callS (pc' := 230) C at_227 (fun vm0 C => (Wk.Con.pays C (Wn := 0) (own_sp l hw O859 c23) (w58 hw) (w2 hw) (by decide) (by decide))) Wk.cleanC (fun v h' q => Or.inl q.2) (w56 hw) (w57 hw) (w2 hw) (w58 hw) (by decide) (argsL := [(.int c23)]) (st := []) rfl rfl (lenOf pd14 rfl) rfl (Nat.le_of_eq rfl) (k' := 2) rfl (n' := 8) rfl (by decide) (by decide) rfl ?_
                intro r1270 h1271 Q1271 O1271
                obtain ⟨q1273, e1272⟩ := Q1271
                obtain rfl := e1272.symm
                rcases q1273 with ⟨rfl, q1273⟩ | ⟨rfl, q1273⟩
                · -- space: True
                  exact absurd q1273 q870
                · -- space: False
                  refine Ww.if_ne C at_230 (by decide) (pcT := 236) (by decide) (pc' := 233) rfl (fun q => absurd q (by decide)) (fun q1274 => ?_)
                  refine Ww.iconst (pc' := 234) C at_233 (v := (3 : Int32)) rfl rfl ?_
                  refine Ww.istore (pc' := 236) C at_234 (Ls' := #[.val (.int p0), .val (.int p1), .val (.int p2), .val (.int p3), .val (.int p4), .val (.int (4 : Int32)), .val (.int c15), .val (.int c19), .val (.int c23), .val (.int c27), .val (.ref a29), .val (.ref a849), .val (.int (1 : Int32)), .val (.int (3 : Int32)), .unset, .unset, .unset]) rfl rfl ?_
                  refine Ww.iload (pc' := 238) C at_236 rfl rfl ?_
                  refine Ww.iconst (pc' := 239) C at_238 (v := (3 : Int32)) rfl rfl ?_
                  refine Ww.icmp_le C at_239 (by decide) (pcT := 253) (by decide) (pc' := 242) rfl (fun q => absurd q (by decide)) (fun q1275 => ?_)
                  refine Ww.iload (pc' := 244) C at_242 rfl rfl ?_
                  refine Ww.callS (pc' := 247) C at_244 (fun vm0 C => (Wk.Con.pays C (Wn := 0) (own_sp l hw O859 c27) (w58 hw) (w2 hw) (by decide) (by decide))) Wk.cleanC (fun v h' q => Or.inl q.2) (w56 hw) (w57 hw) (w2 hw) (w58 hw) (by decide) (argsL := [(.int c27)]) (st := []) rfl rfl (lenOf pd14 rfl) rfl (Nat.le_of_eq rfl) (k' := 2) rfl (n' := 8) rfl (by decide) (by decide) rfl ?_
                  intro r1276 h1277 Q1277 O1277
                  obtain ⟨q1279, e1278⟩ := Q1277
                  obtain rfl := e1278.symm
                  rcases q1279 with ⟨rfl, q1279⟩ | ⟨rfl, q1279⟩
                  · -- space: True
                    refine Ww.if_ne C at_247 (by decide) (pcT := 253) (by decide) (pc' := 250) rfl (fun q1280 => ?_) (fun q => absurd q (by decide))
                    refine Ww.iload (pc' := 255) C at_253 rfl rfl ?_
                    refine Ww.iload (pc' := 257) C at_255 rfl rfl ?_
                    refine Ww.isub (pc' := 258) C at_257 (v := (2 : Int32)) (by decide) rfl ?_
                    refine Ww.istore (pc' := 260) C at_258 (Ls' := #[.val (.int p0), .val (.int p1), .val (.int p2), .val (.int p3), .val (.int p4), .val (.int (4 : Int32)), .val (.int c15), .val (.int c19), .val (.int c23), .val (.int c27), .val (.ref a29), .val (.ref a849), .val (.int (1 : Int32)), .val (.int (3 : Int32)), .val (.int (2 : Int32)), .unset, .unset]) rfl rfl ?_
                    refine Ww.newO (pc' := 263) C at_260 (w5 hw) (w6 hw) (w7 hw) (k' := 3) rfl (n' := 12) rfl (by decide) (by decide) rfl ?_
                    intro a1281 h1282 ga1281 za1281 E1282 Aa1281 Da1281 Ua1281 O1282
                    have F1283 : Fld Z h1282 a1281 "java/lang/String" "value" "[B" .null := Da1281 (Or.inr (w20 hw)) (ty := (.array .byte)) (by decide)
                    have F1284 : Fld Z h1282 a1281 "java/lang/String" "coder" "B" (.int (0 : Int32)) := Da1281 (Or.inr (w21 hw)) (ty := .byte) (by decide)
                    refine Ww.dup (pc' := 264) C at_263 rfl rfl ?_
                    refine Ww.aload (pc' := 266) C at_264 rfl rfl rfl ?_
                    have hp1285 : ∀ c ∈ ([c15, c19, c23, c27] : List Int32), ¬ c < 0 ∧ ¬ (255 : Int32) < c := (List.forall_mem_cons.mpr ⟨rc15, (List.forall_mem_cons.mpr ⟨rc19, (List.forall_mem_cons.mpr ⟨rc23, (List.forall_mem_cons.mpr ⟨rc27, (fun _ h => nomatch h)⟩)⟩)⟩)⟩)
                    refine Ww.callI (pc' := 269) C at_266 (a := a1281) (fun vm0 C => (strNew C hw hs O1282 (cs := [c15, c19, c23, c27]) (n := 4) (Wn := 1) za1281 Aa1281 F1283 F1284 (V859.ext E1282) rfl (by decide) (by decide) hp1285 (by decide) (by decide))) (strNewC (n := 4) O1282 za1281 rfl (by decide) hp1285) (fun v h' q => Or.inr (Or.inr ⟨a1281, (List.mem_of_getElem? (i := 0) rfl), q.2.1⟩)) rfl (w8 hw) (w9 hw) (w10 hw) (by decide) (argsL := [(.ref a849)]) (st := [(.ref a1281)]) rfl rfl (lenOf pd12 rfl) rfl (Nat.le_of_eq rfl) (k' := 4) rfl (n' := 16) rfl (by decide) (by decide) rfl ?_
                    intro r1286 h1287 Q1287 O1287
                    obtain ⟨rfl, Kh1287, Sh1287⟩ := Q1287
                    refine Ww.callSS (pc' := 272) C at_269 (Ww.Con.pays hE (Wn := 0) (own_wos l hw hE O1287 hs a1281 [c15, c19, c23, c27] Sh1287 (show _ ≤ 4 from Nat.le_of_ble_eq_true rfl)) (w29 hw) (w28 hw) (by decide) (by decide)) Wk.cleanC (w26 hw) (w27 hw) (w28 hw) (w29 hw) (by decide) (argsL := [(.ref a1281)]) (st := []) rfl rfl (lenOf pd13 rfl) rfl (Nat.le_of_eq rfl) (k' := 8) rfl (n' := 28) rfl (by decide) (by decide) rfl ?_
                    intro r1288 h1289 Q1289 O1289
                    obtain ⟨x1290, rfl, E1289, S1289⟩ := Q1289
                    refine Ww.astore (pc' := 274) C at_272 rfl (Ls' := #[.val (.int p0), .val (.int p1), .val (.int p2), .val (.int p3), .val (.int p4), .val (.int (4 : Int32)), .val (.int c15), .val (.int c19), .val (.int c23), .val (.int c27), .val (.ref a29), .val (.ref a849), .val (.int (1 : Int32)), .val (.int (3 : Int32)), .val (.int (2 : Int32)), .val (.ref x1290), .unset]) rfl rfl ?_
                    have hT : trim [c15, c19, c23, c27] = [c19, c23] := by simp [trim, lead, endAt, q1255, q1119, q870, q864]
                    have G15 : Str Z h1289 x1290 [c19, c23] := hT ▸ S1289
                    refine Ww.aload (pc' := 276) C at_274 rfl rfl rfl ?_
                    refine Ww.callV (pc' := 279) C at_276 (a := x1290) (fun vm0 C => (strLen C hw hs O1289 (Wn := 0) G15 (by decide) (by decide))) (pureC (P := fun v => v = some (.int (Int32.ofNat ([c19, c23] : List Int32).length))) O1289) (fun v h' q => Or.inl q.2) S1289.exa (w55 hw) (w31 hw) (fun vm0 hZ0 => notFace_of_selects (args := #[]) (mvT (s := W.s.setVm vm0) hZ0 (w33 hw))) (w33 hw) (w32 hw) (by decide) (argsL := []) (st := []) rfl rfl (lenOf pd5 rfl) rfl (Nat.le_of_eq rfl) (k' := 8) rfl (n' := 28) rfl (by decide) (by decide) rfl ?_
                    intro r1291 h1292 Q1292 O1292
                    obtain ⟨rfl, e1293⟩ := Q1292
                    obtain rfl := e1293.symm
                    refine Ww.iload (pc' := 281) C at_279 rfl rfl ?_
                    refine Ww.icmp_ne C at_281 (by decide) (pcT := 288) (by decide) (pc' := 284) rfl (fun q => absurd rfl q) (fun q1294 => ?_)
                    refine Ww.iconst (pc' := 285) C at_284 (v := (1 : Int32)) rfl rfl ?_
                    refine Ww.goto C at_285 (by decide) (pc' := 289) (by decide) ?_
                    refine Ww.istore (pc' := 291) C at_289 (Ls' := #[.val (.int p0), .val (.int p1), .val (.int p2), .val (.int p3), .val (.int p4), .val (.int (4 : Int32)), .val (.int c15), .val (.int c19), .val (.int c23), .val (.int c27), .val (.ref a29), .val (.ref a849), .val (.int (1 : Int32)), .val (.int (3 : Int32)), .val (.int (2 : Int32)), .val (.ref x1290), .val (.int (1 : Int32))]) rfl rfl ?_
                    refine Ww.iload (pc' := 293) C at_291 rfl rfl ?_
                    refine Ww.if_eq C at_293 (by decide) (pcT := 322) (by decide) (pc' := 296) rfl (fun q => absurd q (by decide)) (fun q1295 => ?_)
                    refine Ww.iload (pc' := 298) C at_296 rfl rfl ?_
                    refine Ww.if_le C at_298 (by decide) (pcT := 322) (by decide) (pc' := 301) rfl (fun q => absurd q (by decide)) (fun q1296 => ?_)
                    refine Ww.aload (pc' := 303) C at_301 rfl rfl rfl ?_
                    refine Ww.iconst (pc' := 304) C at_303 (v := (0 : Int32)) rfl rfl ?_
                    refine Ww.callV (pc' := 307) C at_304 (a := x1290) (fun vm0 C => (strAt C hw hs O1289 (Wn := 0) (i := 0) G15 (show _ < _ from Nat.le_of_ble_eq_true rfl) rfl (by decide) (by decide))) (pureC (P := fun v => v = some (.int (([c19, c23] : List Int32).getD 0 0))) O1289) (fun v h' q => Or.inl q.2) S1289.exa (w114 hw) (w70 hw) (fun vm0 hZ0 => notFace_of_selects (args := #[]) (mvT (s := W.s.setVm vm0) hZ0 (w72 hw))) (w72 hw) (w71 hw) (by decide) (argsL := [(.int (0 : Int32))]) (st := []) rfl rfl (lenOf pd10 rfl) rfl (Nat.le_of_eq rfl) (k' := 8) rfl (n' := 28) rfl (by decide) (by decide) rfl ?_
                    intro r1297 h1298 Q1298 O1298
                    obtain ⟨rfl, e1299⟩ := Q1298
                    obtain rfl := e1299.symm
                    refine Ww.aload (pc' := 309) C at_307 rfl rfl rfl ?_
                    refine Ww.iload (pc' := 311) C at_309 rfl rfl ?_
                    have X1300 : Ext h35 h853 := Wk.Ext.wr (Z := Z) E850 W853 (Nat.le_of_eq ga849.symm)
                    have X1301 : Ext h35 h855 := Wk.Ext.wr (Z := Z) X1300 W855 (Nat.le_of_eq ga849.symm)
                    have X1302 : Ext h35 h857 := Wk.Ext.wr (Z := Z) X1301 W857 (Nat.le_of_eq ga849.symm)
                    have X1303 : Ext h35 h859 := Wk.Ext.wr (Z := Z) X1302 W859 (Nat.le_of_eq ga849.symm)
                    have X1304 : Ext h35 h1282 := Wk.Ext.trans X1303 E1282
                    have X1305 : Ext h35 h1287 := Wk.Ext.keep1 (Z := Z) X1304 Kh1287 (Nat.le_trans X1303.1 (Nat.le_of_eq ga1281.symm))
                    have X1306 : Ext h35 h1289 := Wk.Ext.trans X1305 E1289
                    refine Ww.caload (pc' := 312) C at_311 (V35.ext X1306) (by decide) (v := (.int c19)) rfl rfl ?_
                    refine Ww.icmp_ne C at_312 (by decide) (pcT := 319) (by decide) (pc' := 315) rfl (fun q => absurd rfl q) (fun q1307 => ?_)
                    refine Ww.iconst (pc' := 316) C at_315 (v := (1 : Int32)) rfl rfl ?_
                    refine Ww.goto C at_316 (by decide) (pc' := 320) (by decide) ?_
                    refine Ww.istore (pc' := 322) C at_320 (Ls' := #[.val (.int p0), .val (.int p1), .val (.int p2), .val (.int p3), .val (.int p4), .val (.int (4 : Int32)), .val (.int c15), .val (.int c19), .val (.int c23), .val (.int c27), .val (.ref a29), .val (.ref a849), .val (.int (1 : Int32)), .val (.int (3 : Int32)), .val (.int (2 : Int32)), .val (.ref x1290), .val (.int (1 : Int32))]) rfl rfl ?_
                    refine Ww.iload (pc' := 324) C at_322 rfl rfl ?_
                    refine Ww.if_eq C at_324 (by decide) (pcT := 356) (by decide) (pc' := 327) rfl (fun q => absurd q (by decide)) (fun q1308 => ?_)
                    refine Ww.iload (pc' := 329) C at_327 rfl rfl ?_
                    refine Ww.iconst (pc' := 330) C at_329 (v := (1 : Int32)) rfl rfl ?_
                    refine Ww.icmp_le C at_330 (by decide) (pcT := 356) (by decide) (pc' := 333) rfl (fun q => absurd q (by decide)) (fun q1309 => ?_)
                    refine Ww.aload (pc' := 335) C at_333 rfl rfl rfl ?_
                    refine Ww.iconst (pc' := 336) C at_335 (v := (1 : Int32)) rfl rfl ?_
                    refine Ww.callV (pc' := 339) C at_336 (a := x1290) (fun vm0 C => (strAt C hw hs O1289 (Wn := 0) (i := 1) G15 (show _ < _ from Nat.le_of_ble_eq_true rfl) rfl (by decide) (by decide))) (pureC (P := fun v => v = some (.int (([c19, c23] : List Int32).getD 1 0))) O1289) (fun v h' q => Or.inl q.2) S1289.exa (w114 hw) (w70 hw) (fun vm0 hZ0 => notFace_of_selects (args := #[]) (mvT (s := W.s.setVm vm0) hZ0 (w72 hw))) (w72 hw) (w71 hw) (by decide) (argsL := [(.int (1 : Int32))]) (st := []) rfl rfl (lenOf pd10 rfl) rfl (Nat.le_of_eq rfl) (k' := 8) rfl (n' := 28) rfl (by decide) (by decide) rfl ?_
                    intro r1310 h1311 Q1311 O1311
                    obtain ⟨rfl, e1312⟩ := Q1311
                    obtain rfl := e1312.symm
                    refine Ww.aload (pc' := 341) C at_339 rfl rfl rfl ?_
                    refine Ww.iload (pc' := 343) C at_341 rfl rfl ?_
                    refine Ww.iconst (pc' := 344) C at_343 (v := (1 : Int32)) rfl rfl ?_
                    refine Ww.iadd (pc' := 345) C at_344 (v := (2 : Int32)) (by decide) rfl ?_
                    refine Ww.caload (pc' := 346) C at_345 (V35.ext X1306) (by decide) (v := (.int c23)) rfl rfl ?_
                    refine Ww.icmp_ne C at_346 (by decide) (pcT := 353) (by decide) (pc' := 349) rfl (fun q => absurd rfl q) (fun q1313 => ?_)
                    refine Ww.iconst (pc' := 350) C at_349 (v := (1 : Int32)) rfl rfl ?_
                    refine Ww.goto C at_350 (by decide) (pc' := 354) (by decide) ?_
                    refine Ww.istore (pc' := 356) C at_354 (Ls' := #[.val (.int p0), .val (.int p1), .val (.int p2), .val (.int p3), .val (.int p4), .val (.int (4 : Int32)), .val (.int c15), .val (.int c19), .val (.int c23), .val (.int c27), .val (.ref a29), .val (.ref a849), .val (.int (1 : Int32)), .val (.int (3 : Int32)), .val (.int (2 : Int32)), .val (.ref x1290), .val (.int (1 : Int32))]) rfl rfl ?_
                    refine Ww.iload (pc' := 358) C at_356 rfl rfl ?_
                    refine Ww.if_eq C at_358 (by decide) (pcT := 390) (by decide) (pc' := 361) rfl (fun q => absurd q (by decide)) (fun q1314 => ?_)
                    refine Ww.iload (pc' := 363) C at_361 rfl rfl ?_
                    refine Ww.iconst (pc' := 364) C at_363 (v := (2 : Int32)) rfl rfl ?_
                    refine Ww.icmp_le C at_364 (by decide) (pcT := 390) (by decide) (pc' := 367) rfl (fun q1315 => ?_) (fun q => absurd q (by decide))
                    refine Ww.iload (pc' := 392) C at_390 rfl rfl ?_
                    refine Ww.if_eq C at_392 (by decide) (pcT := 424) (by decide) (pc' := 395) rfl (fun q => absurd q (by decide)) (fun q1316 => ?_)
                    refine Ww.iload (pc' := 397) C at_395 rfl rfl ?_
                    refine Ww.iconst (pc' := 398) C at_397 (v := (3 : Int32)) rfl rfl ?_
                    refine Ww.icmp_le C at_398 (by decide) (pcT := 424) (by decide) (pc' := 401) rfl (fun q1317 => ?_) (fun q => absurd q (by decide))
                    refine Ww.iload (pc' := 426) C at_424 rfl rfl ?_
                    exact Ww.retNar (ty := .boolean) C hE (by simp) at_426 rfl (by decide) (by decide) rfl
                  · -- space: False
                    exact absurd q864 q1279
            · -- space: False
              exact absurd q1255 q1261
          · -- space: False
            refine Ww.if_ne C at_176 (by decide) (pcT := 182) (by decide) (pc' := 179) rfl (fun q => absurd q (by decide)) (fun q1318 => ?_)
            refine Ww.iconst (pc' := 180) C at_179 (v := (0 : Int32)) rfl rfl ?_
            refine Ww.istore (pc' := 182) C at_180 (Ls' := #[.val (.int p0), .val (.int p1), .val (.int p2), .val (.int p3), .val (.int p4), .val (.int (4 : Int32)), .val (.int c15), .val (.int c19), .val (.int c23), .val (.int c27), .val (.ref a29), .val (.ref a849), .val (.int (0 : Int32)), .unset, .unset, .unset, .unset]) rfl rfl ?_
            refine Ww.iload (pc' := 184) C at_182 rfl rfl ?_
            refine Ww.istore (pc' := 186) C at_184 (Ls' := #[.val (.int p0), .val (.int p1), .val (.int p2), .val (.int p3), .val (.int p4), .val (.int (4 : Int32)), .val (.int c15), .val (.int c19), .val (.int c23), .val (.int c27), .val (.ref a29), .val (.ref a849), .val (.int (0 : Int32)), .val (.int (0 : Int32)), .unset, .unset, .unset]) rfl rfl ?_
            refine Ww.iload (pc' := 188) C at_186 rfl rfl ?_
            refine Ww.if_le C at_188 (by decide) (pcT := 202) (by decide) (pc' := 191) rfl (fun q => absurd q (by decide)) (fun q1319 => ?_)
            refine Ww.iload (pc' := 193) C at_191 rfl rfl ?_
            refine Ww.callS (pc' := 196) C at_193 (fun vm0 C => (Wk.Con.pays C (Wn := 0) (own_sp l hw O859 c15) (w58 hw) (w2 hw) (by decide) (by decide))) Wk.cleanC (fun v h' q => Or.inl q.2) (w56 hw) (w57 hw) (w2 hw) (w58 hw) (by decide) (argsL := [(.int c15)]) (st := []) rfl rfl (lenOf pd14 rfl) rfl (Nat.le_of_eq rfl) (k' := 2) rfl (n' := 8) rfl (by decide) (by decide) rfl ?_
            intro r1320 h1321 Q1321 O1321
            obtain ⟨q1323, e1322⟩ := Q1321
            obtain rfl := e1322.symm
            rcases q1323 with ⟨rfl, q1323⟩ | ⟨rfl, q1323⟩
            · -- space: True
              exact absurd q1323 q1255
            · -- space: False
              refine Ww.if_ne C at_196 (by decide) (pcT := 202) (by decide) (pc' := 199) rfl (fun q => absurd q (by decide)) (fun q1324 => ?_)
              refine Ww.iconst (pc' := 200) C at_199 (v := (1 : Int32)) rfl rfl ?_
              refine Ww.istore (pc' := 202) C at_200 (Ls' := #[.val (.int p0), .val (.int p1), .val (.int p2), .val (.int p3), .val (.int p4), .val (.int (4 : Int32)), .val (.int c15), .val (.int c19), .val (.int c23), .val (.int c27), .val (.ref a29), .val (.ref a849), .val (.int (0 : Int32)), .val (.int (1 : Int32)), .unset, .unset, .unset]) rfl rfl ?_
              refine Ww.iload (pc' := 204) C at_202 rfl rfl ?_
              refine Ww.iconst (pc' := 205) C at_204 (v := (1 : Int32)) rfl rfl ?_
              refine Ww.icmp_le C at_205 (by decide) (pcT := 219) (by decide) (pc' := 208) rfl (fun q => absurd q (by decide)) (fun q1325 => ?_)
              refine Ww.iload (pc' := 210) C at_208 rfl rfl ?_
              refine Ww.callS (pc' := 213) C at_210 (fun vm0 C => (Wk.Con.pays C (Wn := 0) (own_sp l hw O859 c19) (w58 hw) (w2 hw) (by decide) (by decide))) Wk.cleanC (fun v h' q => Or.inl q.2) (w56 hw) (w57 hw) (w2 hw) (w58 hw) (by decide) (argsL := [(.int c19)]) (st := []) rfl rfl (lenOf pd14 rfl) rfl (Nat.le_of_eq rfl) (k' := 2) rfl (n' := 8) rfl (by decide) (by decide) rfl ?_
              intro r1326 h1327 Q1327 O1327
              obtain ⟨q1329, e1328⟩ := Q1327
              obtain rfl := e1328.symm
              rcases q1329 with ⟨rfl, q1329⟩ | ⟨rfl, q1329⟩
              · -- space: True
                exact absurd q1329 q1119
              · -- space: False
                refine Ww.if_ne C at_213 (by decide) (pcT := 219) (by decide) (pc' := 216) rfl (fun q => absurd q (by decide)) (fun q1330 => ?_)
                refine Ww.iconst (pc' := 217) C at_216 (v := (2 : Int32)) rfl rfl ?_
                refine Ww.istore (pc' := 219) C at_217 (Ls' := #[.val (.int p0), .val (.int p1), .val (.int p2), .val (.int p3), .val (.int p4), .val (.int (4 : Int32)), .val (.int c15), .val (.int c19), .val (.int c23), .val (.int c27), .val (.ref a29), .val (.ref a849), .val (.int (0 : Int32)), .val (.int (2 : Int32)), .unset, .unset, .unset]) rfl rfl ?_
                refine Ww.iload (pc' := 221) C at_219 rfl rfl ?_
                refine Ww.iconst (pc' := 222) C at_221 (v := (2 : Int32)) rfl rfl ?_
                refine Ww.icmp_le C at_222 (by decide) (pcT := 236) (by decide) (pc' := 225) rfl (fun q => absurd q (by decide)) (fun q1331 => ?_)
                refine Ww.iload (pc' := 227) C at_225 rfl rfl ?_
                refine Ww.callS (pc' := 230) C at_227 (fun vm0 C => (Wk.Con.pays C (Wn := 0) (own_sp l hw O859 c23) (w58 hw) (w2 hw) (by decide) (by decide))) Wk.cleanC (fun v h' q => Or.inl q.2) (w56 hw) (w57 hw) (w2 hw) (w58 hw) (by decide) (argsL := [(.int c23)]) (st := []) rfl rfl (lenOf pd14 rfl) rfl (Nat.le_of_eq rfl) (k' := 2) rfl (n' := 8) rfl (by decide) (by decide) rfl ?_
                intro r1332 h1333 Q1333 O1333
                obtain ⟨q1335, e1334⟩ := Q1333
                obtain rfl := e1334.symm
                rcases q1335 with ⟨rfl, q1335⟩ | ⟨rfl, q1335⟩
                · -- space: True
                  exact absurd q1335 q870
                · -- space: False
                  refine Ww.if_ne C at_230 (by decide) (pcT := 236) (by decide) (pc' := 233) rfl (fun q => absurd q (by decide)) (fun q1336 => ?_)
                  refine Ww.iconst (pc' := 234) C at_233 (v := (3 : Int32)) rfl rfl ?_
                  refine Ww.istore (pc' := 236) C at_234 (Ls' := #[.val (.int p0), .val (.int p1), .val (.int p2), .val (.int p3), .val (.int p4), .val (.int (4 : Int32)), .val (.int c15), .val (.int c19), .val (.int c23), .val (.int c27), .val (.ref a29), .val (.ref a849), .val (.int (0 : Int32)), .val (.int (3 : Int32)), .unset, .unset, .unset]) rfl rfl ?_
                  refine Ww.iload (pc' := 238) C at_236 rfl rfl ?_
                  refine Ww.iconst (pc' := 239) C at_238 (v := (3 : Int32)) rfl rfl ?_
                  refine Ww.icmp_le C at_239 (by decide) (pcT := 253) (by decide) (pc' := 242) rfl (fun q => absurd q (by decide)) (fun q1337 => ?_)
                  refine Ww.iload (pc' := 244) C at_242 rfl rfl ?_
                  refine Ww.callS (pc' := 247) C at_244 (fun vm0 C => (Wk.Con.pays C (Wn := 0) (own_sp l hw O859 c27) (w58 hw) (w2 hw) (by decide) (by decide))) Wk.cleanC (fun v h' q => Or.inl q.2) (w56 hw) (w57 hw) (w2 hw) (w58 hw) (by decide) (argsL := [(.int c27)]) (st := []) rfl rfl (lenOf pd14 rfl) rfl (Nat.le_of_eq rfl) (k' := 2) rfl (n' := 8) rfl (by decide) (by decide) rfl ?_
                  intro r1338 h1339 Q1339 O1339
                  obtain ⟨q1341, e1340⟩ := Q1339
                  obtain rfl := e1340.symm
                  rcases q1341 with ⟨rfl, q1341⟩ | ⟨rfl, q1341⟩
                  · -- space: True
                    refine Ww.if_ne C at_247 (by decide) (pcT := 253) (by decide) (pc' := 250) rfl (fun q1342 => ?_) (fun q => absurd q (by decide))
                    refine Ww.iload (pc' := 255) C at_253 rfl rfl ?_
                    refine Ww.iload (pc' := 257) C at_255 rfl rfl ?_
                    refine Ww.isub (pc' := 258) C at_257 (v := (3 : Int32)) (by decide) rfl ?_
                    refine Ww.istore (pc' := 260) C at_258 (Ls' := #[.val (.int p0), .val (.int p1), .val (.int p2), .val (.int p3), .val (.int p4), .val (.int (4 : Int32)), .val (.int c15), .val (.int c19), .val (.int c23), .val (.int c27), .val (.ref a29), .val (.ref a849), .val (.int (0 : Int32)), .val (.int (3 : Int32)), .val (.int (3 : Int32)), .unset, .unset]) rfl rfl ?_
                    refine Ww.newO (pc' := 263) C at_260 (w5 hw) (w6 hw) (w7 hw) (k' := 3) rfl (n' := 12) rfl (by decide) (by decide) rfl ?_
                    intro a1343 h1344 ga1343 za1343 E1344 Aa1343 Da1343 Ua1343 O1344
                    have F1345 : Fld Z h1344 a1343 "java/lang/String" "value" "[B" .null := Da1343 (Or.inr (w20 hw)) (ty := (.array .byte)) (by decide)
                    have F1346 : Fld Z h1344 a1343 "java/lang/String" "coder" "B" (.int (0 : Int32)) := Da1343 (Or.inr (w21 hw)) (ty := .byte) (by decide)
                    refine Ww.dup (pc' := 264) C at_263 rfl rfl ?_
                    refine Ww.aload (pc' := 266) C at_264 rfl rfl rfl ?_
                    have hp1347 : ∀ c ∈ ([c15, c19, c23, c27] : List Int32), ¬ c < 0 ∧ ¬ (255 : Int32) < c := (List.forall_mem_cons.mpr ⟨rc15, (List.forall_mem_cons.mpr ⟨rc19, (List.forall_mem_cons.mpr ⟨rc23, (List.forall_mem_cons.mpr ⟨rc27, (fun _ h => nomatch h)⟩)⟩)⟩)⟩)
                    refine Ww.callI (pc' := 269) C at_266 (a := a1343) (fun vm0 C => (strNew C hw hs O1344 (cs := [c15, c19, c23, c27]) (n := 4) (Wn := 1) za1343 Aa1343 F1345 F1346 (V859.ext E1344) rfl (by decide) (by decide) hp1347 (by decide) (by decide))) (strNewC (n := 4) O1344 za1343 rfl (by decide) hp1347) (fun v h' q => Or.inr (Or.inr ⟨a1343, (List.mem_of_getElem? (i := 0) rfl), q.2.1⟩)) rfl (w8 hw) (w9 hw) (w10 hw) (by decide) (argsL := [(.ref a849)]) (st := [(.ref a1343)]) rfl rfl (lenOf pd12 rfl) rfl (Nat.le_of_eq rfl) (k' := 4) rfl (n' := 16) rfl (by decide) (by decide) rfl ?_
                    intro r1348 h1349 Q1349 O1349
                    obtain ⟨rfl, Kh1349, Sh1349⟩ := Q1349
                    refine Ww.callSS (pc' := 272) C at_269 (Ww.Con.pays hE (Wn := 0) (own_wos l hw hE O1349 hs a1343 [c15, c19, c23, c27] Sh1349 (show _ ≤ 4 from Nat.le_of_ble_eq_true rfl)) (w29 hw) (w28 hw) (by decide) (by decide)) Wk.cleanC (w26 hw) (w27 hw) (w28 hw) (w29 hw) (by decide) (argsL := [(.ref a1343)]) (st := []) rfl rfl (lenOf pd13 rfl) rfl (Nat.le_of_eq rfl) (k' := 8) rfl (n' := 28) rfl (by decide) (by decide) rfl ?_
                    intro r1350 h1351 Q1351 O1351
                    obtain ⟨x1352, rfl, E1351, S1351⟩ := Q1351
                    refine Ww.astore (pc' := 274) C at_272 rfl (Ls' := #[.val (.int p0), .val (.int p1), .val (.int p2), .val (.int p3), .val (.int p4), .val (.int (4 : Int32)), .val (.int c15), .val (.int c19), .val (.int c23), .val (.int c27), .val (.ref a29), .val (.ref a849), .val (.int (0 : Int32)), .val (.int (3 : Int32)), .val (.int (3 : Int32)), .val (.ref x1352), .unset]) rfl rfl ?_
                    have hT : trim [c15, c19, c23, c27] = [c15, c19, c23] := by simp [trim, lead, endAt, q1255, q1119, q870, q864]
                    have G15 : Str Z h1351 x1352 [c15, c19, c23] := hT ▸ S1351
                    refine Ww.aload (pc' := 276) C at_274 rfl rfl rfl ?_
                    refine Ww.callV (pc' := 279) C at_276 (a := x1352) (fun vm0 C => (strLen C hw hs O1351 (Wn := 0) G15 (by decide) (by decide))) (pureC (P := fun v => v = some (.int (Int32.ofNat ([c15, c19, c23] : List Int32).length))) O1351) (fun v h' q => Or.inl q.2) S1351.exa (w55 hw) (w31 hw) (fun vm0 hZ0 => notFace_of_selects (args := #[]) (mvT (s := W.s.setVm vm0) hZ0 (w33 hw))) (w33 hw) (w32 hw) (by decide) (argsL := []) (st := []) rfl rfl (lenOf pd5 rfl) rfl (Nat.le_of_eq rfl) (k' := 8) rfl (n' := 28) rfl (by decide) (by decide) rfl ?_
                    intro r1353 h1354 Q1354 O1354
                    obtain ⟨rfl, e1355⟩ := Q1354
                    obtain rfl := e1355.symm
                    refine Ww.iload (pc' := 281) C at_279 rfl rfl ?_
                    refine Ww.icmp_ne C at_281 (by decide) (pcT := 288) (by decide) (pc' := 284) rfl (fun q => absurd rfl q) (fun q1356 => ?_)
                    refine Ww.iconst (pc' := 285) C at_284 (v := (1 : Int32)) rfl rfl ?_
                    refine Ww.goto C at_285 (by decide) (pc' := 289) (by decide) ?_
                    refine Ww.istore (pc' := 291) C at_289 (Ls' := #[.val (.int p0), .val (.int p1), .val (.int p2), .val (.int p3), .val (.int p4), .val (.int (4 : Int32)), .val (.int c15), .val (.int c19), .val (.int c23), .val (.int c27), .val (.ref a29), .val (.ref a849), .val (.int (0 : Int32)), .val (.int (3 : Int32)), .val (.int (3 : Int32)), .val (.ref x1352), .val (.int (1 : Int32))]) rfl rfl ?_
                    refine Ww.iload (pc' := 293) C at_291 rfl rfl ?_
                    refine Ww.if_eq C at_293 (by decide) (pcT := 322) (by decide) (pc' := 296) rfl (fun q => absurd q (by decide)) (fun q1357 => ?_)
                    refine Ww.iload (pc' := 298) C at_296 rfl rfl ?_
                    refine Ww.if_le C at_298 (by decide) (pcT := 322) (by decide) (pc' := 301) rfl (fun q => absurd q (by decide)) (fun q1358 => ?_)
                    refine Ww.aload (pc' := 303) C at_301 rfl rfl rfl ?_
                    refine Ww.iconst (pc' := 304) C at_303 (v := (0 : Int32)) rfl rfl ?_
                    refine Ww.callV (pc' := 307) C at_304 (a := x1352) (fun vm0 C => (strAt C hw hs O1351 (Wn := 0) (i := 0) G15 (show _ < _ from Nat.le_of_ble_eq_true rfl) rfl (by decide) (by decide))) (pureC (P := fun v => v = some (.int (([c15, c19, c23] : List Int32).getD 0 0))) O1351) (fun v h' q => Or.inl q.2) S1351.exa (w114 hw) (w70 hw) (fun vm0 hZ0 => notFace_of_selects (args := #[]) (mvT (s := W.s.setVm vm0) hZ0 (w72 hw))) (w72 hw) (w71 hw) (by decide) (argsL := [(.int (0 : Int32))]) (st := []) rfl rfl (lenOf pd10 rfl) rfl (Nat.le_of_eq rfl) (k' := 8) rfl (n' := 28) rfl (by decide) (by decide) rfl ?_
                    intro r1359 h1360 Q1360 O1360
                    obtain ⟨rfl, e1361⟩ := Q1360
                    obtain rfl := e1361.symm
                    refine Ww.aload (pc' := 309) C at_307 rfl rfl rfl ?_
                    refine Ww.iload (pc' := 311) C at_309 rfl rfl ?_
                    have X1362 : Ext h35 h853 := Wk.Ext.wr (Z := Z) E850 W853 (Nat.le_of_eq ga849.symm)
                    have X1363 : Ext h35 h855 := Wk.Ext.wr (Z := Z) X1362 W855 (Nat.le_of_eq ga849.symm)
                    have X1364 : Ext h35 h857 := Wk.Ext.wr (Z := Z) X1363 W857 (Nat.le_of_eq ga849.symm)
                    have X1365 : Ext h35 h859 := Wk.Ext.wr (Z := Z) X1364 W859 (Nat.le_of_eq ga849.symm)
                    have X1366 : Ext h35 h1344 := Wk.Ext.trans X1365 E1344
                    have X1367 : Ext h35 h1349 := Wk.Ext.keep1 (Z := Z) X1366 Kh1349 (Nat.le_trans X1365.1 (Nat.le_of_eq ga1343.symm))
                    have X1368 : Ext h35 h1351 := Wk.Ext.trans X1367 E1351
                    refine Ww.caload (pc' := 312) C at_311 (V35.ext X1368) (by decide) (v := (.int c15)) rfl rfl ?_
                    refine Ww.icmp_ne C at_312 (by decide) (pcT := 319) (by decide) (pc' := 315) rfl (fun q => absurd rfl q) (fun q1369 => ?_)
                    refine Ww.iconst (pc' := 316) C at_315 (v := (1 : Int32)) rfl rfl ?_
                    refine Ww.goto C at_316 (by decide) (pc' := 320) (by decide) ?_
                    refine Ww.istore (pc' := 322) C at_320 (Ls' := #[.val (.int p0), .val (.int p1), .val (.int p2), .val (.int p3), .val (.int p4), .val (.int (4 : Int32)), .val (.int c15), .val (.int c19), .val (.int c23), .val (.int c27), .val (.ref a29), .val (.ref a849), .val (.int (0 : Int32)), .val (.int (3 : Int32)), .val (.int (3 : Int32)), .val (.ref x1352), .val (.int (1 : Int32))]) rfl rfl ?_
                    refine Ww.iload (pc' := 324) C at_322 rfl rfl ?_
                    refine Ww.if_eq C at_324 (by decide) (pcT := 356) (by decide) (pc' := 327) rfl (fun q => absurd q (by decide)) (fun q1370 => ?_)
                    refine Ww.iload (pc' := 329) C at_327 rfl rfl ?_
                    refine Ww.iconst (pc' := 330) C at_329 (v := (1 : Int32)) rfl rfl ?_
                    refine Ww.icmp_le C at_330 (by decide) (pcT := 356) (by decide) (pc' := 333) rfl (fun q => absurd q (by decide)) (fun q1371 => ?_)
                    refine Ww.aload (pc' := 335) C at_333 rfl rfl rfl ?_
                    refine Ww.iconst (pc' := 336) C at_335 (v := (1 : Int32)) rfl rfl ?_
                    refine Ww.callV (pc' := 339) C at_336 (a := x1352) (fun vm0 C => (strAt C hw hs O1351 (Wn := 0) (i := 1) G15 (show _ < _ from Nat.le_of_ble_eq_true rfl) rfl (by decide) (by decide))) (pureC (P := fun v => v = some (.int (([c15, c19, c23] : List Int32).getD 1 0))) O1351) (fun v h' q => Or.inl q.2) S1351.exa (w114 hw) (w70 hw) (fun vm0 hZ0 => notFace_of_selects (args := #[]) (mvT (s := W.s.setVm vm0) hZ0 (w72 hw))) (w72 hw) (w71 hw) (by decide) (argsL := [(.int (1 : Int32))]) (st := []) rfl rfl (lenOf pd10 rfl) rfl (Nat.le_of_eq rfl) (k' := 8) rfl (n' := 28) rfl (by decide) (by decide) rfl ?_
                    intro r1372 h1373 Q1373 O1373
                    obtain ⟨rfl, e1374⟩ := Q1373
                    obtain rfl := e1374.symm
                    refine Ww.aload (pc' := 341) C at_339 rfl rfl rfl ?_
                    refine Ww.iload (pc' := 343) C at_341 rfl rfl ?_
                    refine Ww.iconst (pc' := 344) C at_343 (v := (1 : Int32)) rfl rfl ?_
                    refine Ww.iadd (pc' := 345) C at_344 (v := (1 : Int32)) (by decide) rfl ?_
                    refine Ww.caload (pc' := 346) C at_345 (V35.ext X1368) (by decide) (v := (.int c19)) rfl rfl ?_
                    refine Ww.icmp_ne C at_346 (by decide) (pcT := 353) (by decide) (pc' := 349) rfl (fun q => absurd rfl q) (fun q1375 => ?_)
                    refine Ww.iconst (pc' := 350) C at_349 (v := (1 : Int32)) rfl rfl ?_
                    refine Ww.goto C at_350 (by decide) (pc' := 354) (by decide) ?_
                    refine Ww.istore (pc' := 356) C at_354 (Ls' := #[.val (.int p0), .val (.int p1), .val (.int p2), .val (.int p3), .val (.int p4), .val (.int (4 : Int32)), .val (.int c15), .val (.int c19), .val (.int c23), .val (.int c27), .val (.ref a29), .val (.ref a849), .val (.int (0 : Int32)), .val (.int (3 : Int32)), .val (.int (3 : Int32)), .val (.ref x1352), .val (.int (1 : Int32))]) rfl rfl ?_
                    refine Ww.iload (pc' := 358) C at_356 rfl rfl ?_
                    refine Ww.if_eq C at_358 (by decide) (pcT := 390) (by decide) (pc' := 361) rfl (fun q => absurd q (by decide)) (fun q1376 => ?_)
                    refine Ww.iload (pc' := 363) C at_361 rfl rfl ?_
                    refine Ww.iconst (pc' := 364) C at_363 (v := (2 : Int32)) rfl rfl ?_
                    refine Ww.icmp_le C at_364 (by decide) (pcT := 390) (by decide) (pc' := 367) rfl (fun q => absurd q (by decide)) (fun q1377 => ?_)
                    refine Ww.aload (pc' := 369) C at_367 rfl rfl rfl ?_
                    refine Ww.iconst (pc' := 370) C at_369 (v := (2 : Int32)) rfl rfl ?_
                    refine Ww.callV (pc' := 373) C at_370 (a := x1352) (fun vm0 C => (strAt C hw hs O1351 (Wn := 0) (i := 2) G15 (show _ < _ from Nat.le_of_ble_eq_true rfl) rfl (by decide) (by decide))) (pureC (P := fun v => v = some (.int (([c15, c19, c23] : List Int32).getD 2 0))) O1351) (fun v h' q => Or.inl q.2) S1351.exa (w114 hw) (w70 hw) (fun vm0 hZ0 => notFace_of_selects (args := #[]) (mvT (s := W.s.setVm vm0) hZ0 (w72 hw))) (w72 hw) (w71 hw) (by decide) (argsL := [(.int (2 : Int32))]) (st := []) rfl rfl (lenOf pd10 rfl) rfl (Nat.le_of_eq rfl) (k' := 8) rfl (n' := 28) rfl (by decide) (by decide) rfl ?_
                    intro r1378 h1379 Q1379 O1379
                    obtain ⟨rfl, e1380⟩ := Q1379
                    obtain rfl := e1380.symm
                    refine Ww.aload (pc' := 375) C at_373 rfl rfl rfl ?_
                    refine Ww.iload (pc' := 377) C at_375 rfl rfl ?_
                    refine Ww.iconst (pc' := 378) C at_377 (v := (2 : Int32)) rfl rfl ?_
                    refine Ww.iadd (pc' := 379) C at_378 (v := (2 : Int32)) (by decide) rfl ?_
                    refine Ww.caload (pc' := 380) C at_379 (V35.ext X1368) (by decide) (v := (.int c23)) rfl rfl ?_
                    refine Ww.icmp_ne C at_380 (by decide) (pcT := 387) (by decide) (pc' := 383) rfl (fun q => absurd rfl q) (fun q1381 => ?_)
                    refine Ww.iconst (pc' := 384) C at_383 (v := (1 : Int32)) rfl rfl ?_
                    refine Ww.goto C at_384 (by decide) (pc' := 388) (by decide) ?_
                    refine Ww.istore (pc' := 390) C at_388 (Ls' := #[.val (.int p0), .val (.int p1), .val (.int p2), .val (.int p3), .val (.int p4), .val (.int (4 : Int32)), .val (.int c15), .val (.int c19), .val (.int c23), .val (.int c27), .val (.ref a29), .val (.ref a849), .val (.int (0 : Int32)), .val (.int (3 : Int32)), .val (.int (3 : Int32)), .val (.ref x1352), .val (.int (1 : Int32))]) rfl rfl ?_
                    refine Ww.iload (pc' := 392) C at_390 rfl rfl ?_
                    refine Ww.if_eq C at_392 (by decide) (pcT := 424) (by decide) (pc' := 395) rfl (fun q => absurd q (by decide)) (fun q1382 => ?_)
                    refine Ww.iload (pc' := 397) C at_395 rfl rfl ?_
                    refine Ww.iconst (pc' := 398) C at_397 (v := (3 : Int32)) rfl rfl ?_
                    refine Ww.icmp_le C at_398 (by decide) (pcT := 424) (by decide) (pc' := 401) rfl (fun q1383 => ?_) (fun q => absurd q (by decide))
                    refine Ww.iload (pc' := 426) C at_424 rfl rfl ?_
                    exact Ww.retNar (ty := .boolean) C hE (by simp) at_426 rfl (by decide) (by decide) rfl
                  · -- space: False
                    exact absurd q864 q1341
    · -- space: False
      refine Ww.if_ne C at_126 (by decide) (pcT := 132) (by decide) (pc' := 129) rfl (fun q => absurd q (by decide)) (fun q1384 => ?_)
      refine Ww.iconst (pc' := 130) C at_129 (v := (3 : Int32)) rfl rfl ?_
      refine Ww.istore (pc' := 132) C at_130 (Ls' := #[.val (.int p0), .val (.int p1), .val (.int p2), .val (.int p3), .val (.int p4), .val (.int (4 : Int32)), .val (.int c15), .val (.int c19), .val (.int c23), .val (.int c27), .val (.ref a29), .val (.ref a849), .val (.int (3 : Int32)), .unset, .unset, .unset, .unset]) rfl rfl ?_
      refine Ww.iload (pc' := 134) C at_132 rfl rfl ?_
      refine Ww.iconst (pc' := 135) C at_134 (v := (2 : Int32)) rfl rfl ?_
      refine Ww.icmp_le C at_135 (by decide) (pcT := 149) (by decide) (pc' := 138) rfl (fun q => absurd q (by decide)) (fun q1385 => ?_)
      refine Ww.iload (pc' := 140) C at_138 rfl rfl ?_
      refine Ww.callS (pc' := 143) C at_140 (fun vm0 C => (Wk.Con.pays C (Wn := 0) (own_sp l hw O859 c23) (w58 hw) (w2 hw) (by decide) (by decide))) Wk.cleanC (fun v h' q => Or.inl q.2) (w56 hw) (w57 hw) (w2 hw) (w58 hw) (by decide) (argsL := [(.int c23)]) (st := []) rfl rfl (lenOf pd14 rfl) rfl (Nat.le_of_eq rfl) (k' := 2) rfl (n' := 8) rfl (by decide) (by decide) rfl ?_
      intro r1386 h1387 Q1387 O1387
      obtain ⟨q1389, e1388⟩ := Q1387
      obtain rfl := e1388.symm
      rcases q1389 with ⟨rfl, q1389⟩ | ⟨rfl, q1389⟩
      · -- space: True
        refine Ww.if_ne C at_143 (by decide) (pcT := 149) (by decide) (pc' := 146) rfl (fun q1390 => ?_) (fun q => absurd q (by decide))
        refine Ww.iload (pc' := 151) C at_149 rfl rfl ?_
        refine Ww.iconst (pc' := 152) C at_151 (v := (1 : Int32)) rfl rfl ?_
        refine Ww.icmp_le C at_152 (by decide) (pcT := 166) (by decide) (pc' := 155) rfl (fun q => absurd q (by decide)) (fun q1391 => ?_)
        refine Ww.iload (pc' := 157) C at_155 rfl rfl ?_
        refine Ww.callS (pc' := 160) C at_157 (fun vm0 C => (Wk.Con.pays C (Wn := 0) (own_sp l hw O859 c19) (w58 hw) (w2 hw) (by decide) (by decide))) Wk.cleanC (fun v h' q => Or.inl q.2) (w56 hw) (w57 hw) (w2 hw) (w58 hw) (by decide) (argsL := [(.int c19)]) (st := []) rfl rfl (lenOf pd14 rfl) rfl (Nat.le_of_eq rfl) (k' := 2) rfl (n' := 8) rfl (by decide) (by decide) rfl ?_
        intro r1392 h1393 Q1393 O1393
        obtain ⟨q1395, e1394⟩ := Q1393
        obtain rfl := e1394.symm
        rcases q1395 with ⟨rfl, q1395⟩ | ⟨rfl, q1395⟩
        · -- space: True
          refine Ww.if_ne C at_160 (by decide) (pcT := 166) (by decide) (pc' := 163) rfl (fun q1396 => ?_) (fun q => absurd q (by decide))
          refine Ww.iload (pc' := 168) C at_166 rfl rfl ?_
          refine Ww.if_le C at_168 (by decide) (pcT := 182) (by decide) (pc' := 171) rfl (fun q => absurd q (by decide)) (fun q1397 => ?_)
          refine Ww.iload (pc' := 173) C at_171 rfl rfl ?_
          refine Ww.callS (pc' := 176) C at_173 (fun vm0 C => (Wk.Con.pays C (Wn := 0) (own_sp l hw O859 c15) (w58 hw) (w2 hw) (by decide) (by decide))) Wk.cleanC (fun v h' q => Or.inl q.2) (w56 hw) (w57 hw) (w2 hw) (w58 hw) (by decide) (argsL := [(.int c15)]) (st := []) rfl rfl (lenOf pd14 rfl) rfl (Nat.le_of_eq rfl) (k' := 2) rfl (n' := 8) rfl (by decide) (by decide) rfl ?_
          intro r1398 h1399 Q1399 O1399
          obtain ⟨q1401, e1400⟩ := Q1399
          obtain rfl := e1400.symm
          rcases q1401 with ⟨rfl, q1401⟩ | ⟨rfl, q1401⟩
          · -- space: True
            refine Ww.if_ne C at_176 (by decide) (pcT := 182) (by decide) (pc' := 179) rfl (fun q1402 => ?_) (fun q => absurd q (by decide))
            refine Ww.iload (pc' := 184) C at_182 rfl rfl ?_
            refine Ww.istore (pc' := 186) C at_184 (Ls' := #[.val (.int p0), .val (.int p1), .val (.int p2), .val (.int p3), .val (.int p4), .val (.int (4 : Int32)), .val (.int c15), .val (.int c19), .val (.int c23), .val (.int c27), .val (.ref a29), .val (.ref a849), .val (.int (3 : Int32)), .val (.int (3 : Int32)), .unset, .unset, .unset]) rfl rfl ?_
            refine Ww.iload (pc' := 188) C at_186 rfl rfl ?_
            refine Ww.if_le C at_188 (by decide) (pcT := 202) (by decide) (pc' := 191) rfl (fun q => absurd q (by decide)) (fun q1403 => ?_)
            refine Ww.iload (pc' := 193) C at_191 rfl rfl ?_
            refine Ww.callS (pc' := 196) C at_193 (fun vm0 C => (Wk.Con.pays C (Wn := 0) (own_sp l hw O859 c15) (w58 hw) (w2 hw) (by decide) (by decide))) Wk.cleanC (fun v h' q => Or.inl q.2) (w56 hw) (w57 hw) (w2 hw) (w58 hw) (by decide) (argsL := [(.int c15)]) (st := []) rfl rfl (lenOf pd14 rfl) rfl (Nat.le_of_eq rfl) (k' := 2) rfl (n' := 8) rfl (by decide) (by decide) rfl ?_
            intro r1404 h1405 Q1405 O1405
            obtain ⟨q1407, e1406⟩ := Q1405
            obtain rfl := e1406.symm
            rcases q1407 with ⟨rfl, q1407⟩ | ⟨rfl, q1407⟩
            · -- space: True
              refine Ww.if_ne C at_196 (by decide) (pcT := 202) (by decide) (pc' := 199) rfl (fun q1408 => ?_) (fun q => absurd q (by decide))
              refine Ww.iload (pc' := 204) C at_202 rfl rfl ?_
              refine Ww.iconst (pc' := 205) C at_204 (v := (1 : Int32)) rfl rfl ?_
              refine Ww.icmp_le C at_205 (by decide) (pcT := 219) (by decide) (pc' := 208) rfl (fun q => absurd q (by decide)) (fun q1409 => ?_)
              refine Ww.iload (pc' := 210) C at_208 rfl rfl ?_
              refine Ww.callS (pc' := 213) C at_210 (fun vm0 C => (Wk.Con.pays C (Wn := 0) (own_sp l hw O859 c19) (w58 hw) (w2 hw) (by decide) (by decide))) Wk.cleanC (fun v h' q => Or.inl q.2) (w56 hw) (w57 hw) (w2 hw) (w58 hw) (by decide) (argsL := [(.int c19)]) (st := []) rfl rfl (lenOf pd14 rfl) rfl (Nat.le_of_eq rfl) (k' := 2) rfl (n' := 8) rfl (by decide) (by decide) rfl ?_
              intro r1410 h1411 Q1411 O1411
              obtain ⟨q1413, e1412⟩ := Q1411
              obtain rfl := e1412.symm
              rcases q1413 with ⟨rfl, q1413⟩ | ⟨rfl, q1413⟩
              · -- space: True
                refine Ww.if_ne C at_213 (by decide) (pcT := 219) (by decide) (pc' := 216) rfl (fun q1414 => ?_) (fun q => absurd q (by decide))
                refine Ww.iload (pc' := 221) C at_219 rfl rfl ?_
                refine Ww.iconst (pc' := 222) C at_221 (v := (2 : Int32)) rfl rfl ?_
                refine Ww.icmp_le C at_222 (by decide) (pcT := 236) (by decide) (pc' := 225) rfl (fun q => absurd q (by decide)) (fun q1415 => ?_)
                refine Ww.iload (pc' := 227) C at_225 rfl rfl ?_
                refine Ww.callS (pc' := 230) C at_227 (fun vm0 C => (Wk.Con.pays C (Wn := 0) (own_sp l hw O859 c23) (w58 hw) (w2 hw) (by decide) (by decide))) Wk.cleanC (fun v h' q => Or.inl q.2) (w56 hw) (w57 hw) (w2 hw) (w58 hw) (by decide) (argsL := [(.int c23)]) (st := []) rfl rfl (lenOf pd14 rfl) rfl (Nat.le_of_eq rfl) (k' := 2) rfl (n' := 8) rfl (by decide) (by decide) rfl ?_
                intro r1416 h1417 Q1417 O1417
                obtain ⟨q1419, e1418⟩ := Q1417
                obtain rfl := e1418.symm
                rcases q1419 with ⟨rfl, q1419⟩ | ⟨rfl, q1419⟩
                · -- space: True
                  refine Ww.if_ne C at_230 (by decide) (pcT := 236) (by decide) (pc' := 233) rfl (fun q1420 => ?_) (fun q => absurd q (by decide))
                  refine Ww.iload (pc' := 238) C at_236 rfl rfl ?_
                  refine Ww.iconst (pc' := 239) C at_238 (v := (3 : Int32)) rfl rfl ?_
                  refine Ww.icmp_le C at_239 (by decide) (pcT := 253) (by decide) (pc' := 242) rfl (fun q => absurd q (by decide)) (fun q1421 => ?_)
                  refine Ww.iload (pc' := 244) C at_242 rfl rfl ?_
                  refine Ww.callS (pc' := 247) C at_244 (fun vm0 C => (Wk.Con.pays C (Wn := 0) (own_sp l hw O859 c27) (w58 hw) (w2 hw) (by decide) (by decide))) Wk.cleanC (fun v h' q => Or.inl q.2) (w56 hw) (w57 hw) (w2 hw) (w58 hw) (by decide) (argsL := [(.int c27)]) (st := []) rfl rfl (lenOf pd14 rfl) rfl (Nat.le_of_eq rfl) (k' := 2) rfl (n' := 8) rfl (by decide) (by decide) rfl ?_
                  intro r1422 h1423 Q1423 O1423
                  obtain ⟨q1425, e1424⟩ := Q1423
                  obtain rfl := e1424.symm
                  rcases q1425 with ⟨rfl, q1425⟩ | ⟨rfl, q1425⟩
                  · -- space: True
                    exact absurd q1425 q864
                  · -- space: False
                    refine Ww.if_ne C at_247 (by decide) (pcT := 253) (by decide) (pc' := 250) rfl (fun q => absurd q (by decide)) (fun q1426 => ?_)
                    refine Ww.iconst (pc' := 251) C at_250 (v := (4 : Int32)) rfl rfl ?_
                    refine Ww.istore (pc' := 253) C at_251 (Ls' := #[.val (.int p0), .val (.int p1), .val (.int p2), .val (.int p3), .val (.int p4), .val (.int (4 : Int32)), .val (.int c15), .val (.int c19), .val (.int c23), .val (.int c27), .val (.ref a29), .val (.ref a849), .val (.int (3 : Int32)), .val (.int (4 : Int32)), .unset, .unset, .unset]) rfl rfl ?_
                    refine Ww.iload (pc' := 255) C at_253 rfl rfl ?_
                    refine Ww.iload (pc' := 257) C at_255 rfl rfl ?_
                    refine Ww.isub (pc' := 258) C at_257 (v := (1 : Int32)) (by decide) rfl ?_
                    refine Ww.istore (pc' := 260) C at_258 (Ls' := #[.val (.int p0), .val (.int p1), .val (.int p2), .val (.int p3), .val (.int p4), .val (.int (4 : Int32)), .val (.int c15), .val (.int c19), .val (.int c23), .val (.int c27), .val (.ref a29), .val (.ref a849), .val (.int (3 : Int32)), .val (.int (4 : Int32)), .val (.int (1 : Int32)), .unset, .unset]) rfl rfl ?_
                    refine Ww.newO (pc' := 263) C at_260 (w5 hw) (w6 hw) (w7 hw) (k' := 3) rfl (n' := 12) rfl (by decide) (by decide) rfl ?_
                    intro a1427 h1428 ga1427 za1427 E1428 Aa1427 Da1427 Ua1427 O1428
                    have F1429 : Fld Z h1428 a1427 "java/lang/String" "value" "[B" .null := Da1427 (Or.inr (w20 hw)) (ty := (.array .byte)) (by decide)
                    have F1430 : Fld Z h1428 a1427 "java/lang/String" "coder" "B" (.int (0 : Int32)) := Da1427 (Or.inr (w21 hw)) (ty := .byte) (by decide)
                    refine Ww.dup (pc' := 264) C at_263 rfl rfl ?_
                    refine Ww.aload (pc' := 266) C at_264 rfl rfl rfl ?_
                    have hp1431 : ∀ c ∈ ([c15, c19, c23, c27] : List Int32), ¬ c < 0 ∧ ¬ (255 : Int32) < c := (List.forall_mem_cons.mpr ⟨rc15, (List.forall_mem_cons.mpr ⟨rc19, (List.forall_mem_cons.mpr ⟨rc23, (List.forall_mem_cons.mpr ⟨rc27, (fun _ h => nomatch h)⟩)⟩)⟩)⟩)
                    refine Ww.callI (pc' := 269) C at_266 (a := a1427) (fun vm0 C => (strNew C hw hs O1428 (cs := [c15, c19, c23, c27]) (n := 4) (Wn := 1) za1427 Aa1427 F1429 F1430 (V859.ext E1428) rfl (by decide) (by decide) hp1431 (by decide) (by decide))) (strNewC (n := 4) O1428 za1427 rfl (by decide) hp1431) (fun v h' q => Or.inr (Or.inr ⟨a1427, (List.mem_of_getElem? (i := 0) rfl), q.2.1⟩)) rfl (w8 hw) (w9 hw) (w10 hw) (by decide) (argsL := [(.ref a849)]) (st := [(.ref a1427)]) rfl rfl (lenOf pd12 rfl) rfl (Nat.le_of_eq rfl) (k' := 4) rfl (n' := 16) rfl (by decide) (by decide) rfl ?_
                    intro r1432 h1433 Q1433 O1433
                    obtain ⟨rfl, Kh1433, Sh1433⟩ := Q1433
                    refine Ww.callSS (pc' := 272) C at_269 (Ww.Con.pays hE (Wn := 0) (own_wos l hw hE O1433 hs a1427 [c15, c19, c23, c27] Sh1433 (show _ ≤ 4 from Nat.le_of_ble_eq_true rfl)) (w29 hw) (w28 hw) (by decide) (by decide)) Wk.cleanC (w26 hw) (w27 hw) (w28 hw) (w29 hw) (by decide) (argsL := [(.ref a1427)]) (st := []) rfl rfl (lenOf pd13 rfl) rfl (Nat.le_of_eq rfl) (k' := 8) rfl (n' := 28) rfl (by decide) (by decide) rfl ?_
                    intro r1434 h1435 Q1435 O1435
                    obtain ⟨x1436, rfl, E1435, S1435⟩ := Q1435
                    refine Ww.astore (pc' := 274) C at_272 rfl (Ls' := #[.val (.int p0), .val (.int p1), .val (.int p2), .val (.int p3), .val (.int p4), .val (.int (4 : Int32)), .val (.int c15), .val (.int c19), .val (.int c23), .val (.int c27), .val (.ref a29), .val (.ref a849), .val (.int (3 : Int32)), .val (.int (4 : Int32)), .val (.int (1 : Int32)), .val (.ref x1436), .unset]) rfl rfl ?_
                    have hT : trim [c15, c19, c23, c27] = [c27] := by simp [trim, lead, endAt, q1401, q1395, q1389, q864]
                    have G15 : Str Z h1435 x1436 [c27] := hT ▸ S1435
                    refine Ww.aload (pc' := 276) C at_274 rfl rfl rfl ?_
                    refine Ww.callV (pc' := 279) C at_276 (a := x1436) (fun vm0 C => (strLen C hw hs O1435 (Wn := 0) G15 (by decide) (by decide))) (pureC (P := fun v => v = some (.int (Int32.ofNat ([c27] : List Int32).length))) O1435) (fun v h' q => Or.inl q.2) S1435.exa (w55 hw) (w31 hw) (fun vm0 hZ0 => notFace_of_selects (args := #[]) (mvT (s := W.s.setVm vm0) hZ0 (w33 hw))) (w33 hw) (w32 hw) (by decide) (argsL := []) (st := []) rfl rfl (lenOf pd5 rfl) rfl (Nat.le_of_eq rfl) (k' := 8) rfl (n' := 28) rfl (by decide) (by decide) rfl ?_
                    intro r1437 h1438 Q1438 O1438
                    obtain ⟨rfl, e1439⟩ := Q1438
                    obtain rfl := e1439.symm
                    refine Ww.iload (pc' := 281) C at_279 rfl rfl ?_
                    refine Ww.icmp_ne C at_281 (by decide) (pcT := 288) (by decide) (pc' := 284) rfl (fun q => absurd rfl q) (fun q1440 => ?_)
                    refine Ww.iconst (pc' := 285) C at_284 (v := (1 : Int32)) rfl rfl ?_
                    refine Ww.goto C at_285 (by decide) (pc' := 289) (by decide) ?_
                    refine Ww.istore (pc' := 291) C at_289 (Ls' := #[.val (.int p0), .val (.int p1), .val (.int p2), .val (.int p3), .val (.int p4), .val (.int (4 : Int32)), .val (.int c15), .val (.int c19), .val (.int c23), .val (.int c27), .val (.ref a29), .val (.ref a849), .val (.int (3 : Int32)), .val (.int (4 : Int32)), .val (.int (1 : Int32)), .val (.ref x1436), .val (.int (1 : Int32))]) rfl rfl ?_
                    refine Ww.iload (pc' := 293) C at_291 rfl rfl ?_
                    refine Ww.if_eq C at_293 (by decide) (pcT := 322) (by decide) (pc' := 296) rfl (fun q => absurd q (by decide)) (fun q1441 => ?_)
                    refine Ww.iload (pc' := 298) C at_296 rfl rfl ?_
                    refine Ww.if_le C at_298 (by decide) (pcT := 322) (by decide) (pc' := 301) rfl (fun q => absurd q (by decide)) (fun q1442 => ?_)
                    refine Ww.aload (pc' := 303) C at_301 rfl rfl rfl ?_
                    refine Ww.iconst (pc' := 304) C at_303 (v := (0 : Int32)) rfl rfl ?_
                    refine Ww.callV (pc' := 307) C at_304 (a := x1436) (fun vm0 C => (strAt C hw hs O1435 (Wn := 0) (i := 0) G15 (show _ < _ from Nat.le_of_ble_eq_true rfl) rfl (by decide) (by decide))) (pureC (P := fun v => v = some (.int (([c27] : List Int32).getD 0 0))) O1435) (fun v h' q => Or.inl q.2) S1435.exa (w114 hw) (w70 hw) (fun vm0 hZ0 => notFace_of_selects (args := #[]) (mvT (s := W.s.setVm vm0) hZ0 (w72 hw))) (w72 hw) (w71 hw) (by decide) (argsL := [(.int (0 : Int32))]) (st := []) rfl rfl (lenOf pd10 rfl) rfl (Nat.le_of_eq rfl) (k' := 8) rfl (n' := 28) rfl (by decide) (by decide) rfl ?_
                    intro r1443 h1444 Q1444 O1444
                    obtain ⟨rfl, e1445⟩ := Q1444
                    obtain rfl := e1445.symm
                    refine Ww.aload (pc' := 309) C at_307 rfl rfl rfl ?_
                    refine Ww.iload (pc' := 311) C at_309 rfl rfl ?_
                    have X1446 : Ext h35 h853 := Wk.Ext.wr (Z := Z) E850 W853 (Nat.le_of_eq ga849.symm)
                    have X1447 : Ext h35 h855 := Wk.Ext.wr (Z := Z) X1446 W855 (Nat.le_of_eq ga849.symm)
                    have X1448 : Ext h35 h857 := Wk.Ext.wr (Z := Z) X1447 W857 (Nat.le_of_eq ga849.symm)
                    have X1449 : Ext h35 h859 := Wk.Ext.wr (Z := Z) X1448 W859 (Nat.le_of_eq ga849.symm)
                    have X1450 : Ext h35 h1428 := Wk.Ext.trans X1449 E1428
                    have X1451 : Ext h35 h1433 := Wk.Ext.keep1 (Z := Z) X1450 Kh1433 (Nat.le_trans X1449.1 (Nat.le_of_eq ga1427.symm))
                    have X1452 : Ext h35 h1435 := Wk.Ext.trans X1451 E1435
                    refine Ww.caload (pc' := 312) C at_311 (V35.ext X1452) (by decide) (v := (.int c27)) rfl rfl ?_
                    refine Ww.icmp_ne C at_312 (by decide) (pcT := 319) (by decide) (pc' := 315) rfl (fun q => absurd rfl q) (fun q1453 => ?_)
                    refine Ww.iconst (pc' := 316) C at_315 (v := (1 : Int32)) rfl rfl ?_
                    refine Ww.goto C at_316 (by decide) (pc' := 320) (by decide) ?_
                    refine Ww.istore (pc' := 322) C at_320 (Ls' := #[.val (.int p0), .val (.int p1), .val (.int p2), .val (.int p3), .val (.int p4), .val (.int (4 : Int32)), .val (.int c15), .val (.int c19), .val (.int c23), .val (.int c27), .val (.ref a29), .val (.ref a849), .val (.int (3 : Int32)), .val (.int (4 : Int32)), .val (.int (1 : Int32)), .val (.ref x1436), .val (.int (1 : Int32))]) rfl rfl ?_
                    refine Ww.iload (pc' := 324) C at_322 rfl rfl ?_
                    refine Ww.if_eq C at_324 (by decide) (pcT := 356) (by decide) (pc' := 327) rfl (fun q => absurd q (by decide)) (fun q1454 => ?_)
                    refine Ww.iload (pc' := 329) C at_327 rfl rfl ?_
                    refine Ww.iconst (pc' := 330) C at_329 (v := (1 : Int32)) rfl rfl ?_
                    refine Ww.icmp_le C at_330 (by decide) (pcT := 356) (by decide) (pc' := 333) rfl (fun q1455 => ?_) (fun q => absurd q (by decide))
                    refine Ww.iload (pc' := 358) C at_356 rfl rfl ?_
                    refine Ww.if_eq C at_358 (by decide) (pcT := 390) (by decide) (pc' := 361) rfl (fun q => absurd q (by decide)) (fun q1456 => ?_)
                    refine Ww.iload (pc' := 363) C at_361 rfl rfl ?_
                    refine Ww.iconst (pc' := 364) C at_363 (v := (2 : Int32)) rfl rfl ?_
                    refine Ww.icmp_le C at_364 (by decide) (pcT := 390) (by decide) (pc' := 367) rfl (fun q1457 => ?_) (fun q => absurd q (by decide))
                    refine Ww.iload (pc' := 392) C at_390 rfl rfl ?_
                    refine Ww.if_eq C at_392 (by decide) (pcT := 424) (by decide) (pc' := 395) rfl (fun q => absurd q (by decide)) (fun q1458 => ?_)
                    refine Ww.iload (pc' := 397) C at_395 rfl rfl ?_
                    refine Ww.iconst (pc' := 398) C at_397 (v := (3 : Int32)) rfl rfl ?_
                    refine Ww.icmp_le C at_398 (by decide) (pcT := 424) (by decide) (pc' := 401) rfl (fun q1459 => ?_) (fun q => absurd q (by decide))
                    refine Ww.iload (pc' := 426) C at_424 rfl rfl ?_
                    exact Ww.retNar (ty := .boolean) C hE (by simp) at_426 rfl (by decide) (by decide) rfl
                · -- space: False
                  exact absurd q1389 q1419
              · -- space: False
                exact absurd q1395 q1413
            · -- space: False
              exact absurd q1401 q1407
          · -- space: False
            refine Ww.if_ne C at_176 (by decide) (pcT := 182) (by decide) (pc' := 179) rfl (fun q => absurd q (by decide)) (fun q1460 => ?_)
            refine Ww.iconst (pc' := 180) C at_179 (v := (0 : Int32)) rfl rfl ?_
            refine Ww.istore (pc' := 182) C at_180 (Ls' := #[.val (.int p0), .val (.int p1), .val (.int p2), .val (.int p3), .val (.int p4), .val (.int (4 : Int32)), .val (.int c15), .val (.int c19), .val (.int c23), .val (.int c27), .val (.ref a29), .val (.ref a849), .val (.int (0 : Int32)), .unset, .unset, .unset, .unset]) rfl rfl ?_
            refine Ww.iload (pc' := 184) C at_182 rfl rfl ?_
            refine Ww.istore (pc' := 186) C at_184 (Ls' := #[.val (.int p0), .val (.int p1), .val (.int p2), .val (.int p3), .val (.int p4), .val (.int (4 : Int32)), .val (.int c15), .val (.int c19), .val (.int c23), .val (.int c27), .val (.ref a29), .val (.ref a849), .val (.int (0 : Int32)), .val (.int (0 : Int32)), .unset, .unset, .unset]) rfl rfl ?_
            refine Ww.iload (pc' := 188) C at_186 rfl rfl ?_
            refine Ww.if_le C at_188 (by decide) (pcT := 202) (by decide) (pc' := 191) rfl (fun q => absurd q (by decide)) (fun q1461 => ?_)
            refine Ww.iload (pc' := 193) C at_191 rfl rfl ?_
            refine Ww.callS (pc' := 196) C at_193 (fun vm0 C => (Wk.Con.pays C (Wn := 0) (own_sp l hw O859 c15) (w58 hw) (w2 hw) (by decide) (by decide))) Wk.cleanC (fun v h' q => Or.inl q.2) (w56 hw) (w57 hw) (w2 hw) (w58 hw) (by decide) (argsL := [(.int c15)]) (st := []) rfl rfl (lenOf pd14 rfl) rfl (Nat.le_of_eq rfl) (k' := 2) rfl (n' := 8) rfl (by decide) (by decide) rfl ?_
            intro r1462 h1463 Q1463 O1463
            obtain ⟨q1465, e1464⟩ := Q1463
            obtain rfl := e1464.symm
            rcases q1465 with ⟨rfl, q1465⟩ | ⟨rfl, q1465⟩
            · -- space: True
              exact absurd q1465 q1401
            · -- space: False
              refine Ww.if_ne C at_196 (by decide) (pcT := 202) (by decide) (pc' := 199) rfl (fun q => absurd q (by decide)) (fun q1466 => ?_)
              refine Ww.iconst (pc' := 200) C at_199 (v := (1 : Int32)) rfl rfl ?_
              refine Ww.istore (pc' := 202) C at_200 (Ls' := #[.val (.int p0), .val (.int p1), .val (.int p2), .val (.int p3), .val (.int p4), .val (.int (4 : Int32)), .val (.int c15), .val (.int c19), .val (.int c23), .val (.int c27), .val (.ref a29), .val (.ref a849), .val (.int (0 : Int32)), .val (.int (1 : Int32)), .unset, .unset, .unset]) rfl rfl ?_
              refine Ww.iload (pc' := 204) C at_202 rfl rfl ?_
              refine Ww.iconst (pc' := 205) C at_204 (v := (1 : Int32)) rfl rfl ?_
              refine Ww.icmp_le C at_205 (by decide) (pcT := 219) (by decide) (pc' := 208) rfl (fun q => absurd q (by decide)) (fun q1467 => ?_)
              refine Ww.iload (pc' := 210) C at_208 rfl rfl ?_
              refine Ww.callS (pc' := 213) C at_210 (fun vm0 C => (Wk.Con.pays C (Wn := 0) (own_sp l hw O859 c19) (w58 hw) (w2 hw) (by decide) (by decide))) Wk.cleanC (fun v h' q => Or.inl q.2) (w56 hw) (w57 hw) (w2 hw) (w58 hw) (by decide) (argsL := [(.int c19)]) (st := []) rfl rfl (lenOf pd14 rfl) rfl (Nat.le_of_eq rfl) (k' := 2) rfl (n' := 8) rfl (by decide) (by decide) rfl ?_
              intro r1468 h1469 Q1469 O1469
              obtain ⟨q1471, e1470⟩ := Q1469
              obtain rfl := e1470.symm
              rcases q1471 with ⟨rfl, q1471⟩ | ⟨rfl, q1471⟩
              · -- space: True
                refine Ww.if_ne C at_213 (by decide) (pcT := 219) (by decide) (pc' := 216) rfl (fun q1472 => ?_) (fun q => absurd q (by decide))
                refine Ww.iload (pc' := 221) C at_219 rfl rfl ?_
                refine Ww.iconst (pc' := 222) C at_221 (v := (2 : Int32)) rfl rfl ?_
                refine Ww.icmp_le C at_222 (by decide) (pcT := 236) (by decide) (pc' := 225) rfl (fun q => absurd q (by decide)) (fun q1473 => ?_)
                refine Ww.iload (pc' := 227) C at_225 rfl rfl ?_
                refine Ww.callS (pc' := 230) C at_227 (fun vm0 C => (Wk.Con.pays C (Wn := 0) (own_sp l hw O859 c23) (w58 hw) (w2 hw) (by decide) (by decide))) Wk.cleanC (fun v h' q => Or.inl q.2) (w56 hw) (w57 hw) (w2 hw) (w58 hw) (by decide) (argsL := [(.int c23)]) (st := []) rfl rfl (lenOf pd14 rfl) rfl (Nat.le_of_eq rfl) (k' := 2) rfl (n' := 8) rfl (by decide) (by decide) rfl ?_
                intro r1474 h1475 Q1475 O1475
                obtain ⟨q1477, e1476⟩ := Q1475
                obtain rfl := e1476.symm
                rcases q1477 with ⟨rfl, q1477⟩ | ⟨rfl, q1477⟩
                · -- space: True
                  refine Ww.if_ne C at_230 (by decide) (pcT := 236) (by decide) (pc' := 233) rfl (fun q1478 => ?_) (fun q => absurd q (by decide))
                  refine Ww.iload (pc' := 238) C at_236 rfl rfl ?_
                  refine Ww.iconst (pc' := 239) C at_238 (v := (3 : Int32)) rfl rfl ?_
                  refine Ww.icmp_le C at_239 (by decide) (pcT := 253) (by decide) (pc' := 242) rfl (fun q => absurd q (by decide)) (fun q1479 => ?_)
                  refine Ww.iload (pc' := 244) C at_242 rfl rfl ?_
                  refine Ww.callS (pc' := 247) C at_244 (fun vm0 C => (Wk.Con.pays C (Wn := 0) (own_sp l hw O859 c27) (w58 hw) (w2 hw) (by decide) (by decide))) Wk.cleanC (fun v h' q => Or.inl q.2) (w56 hw) (w57 hw) (w2 hw) (w58 hw) (by decide) (argsL := [(.int c27)]) (st := []) rfl rfl (lenOf pd14 rfl) rfl (Nat.le_of_eq rfl) (k' := 2) rfl (n' := 8) rfl (by decide) (by decide) rfl ?_
                  intro r1480 h1481 Q1481 O1481
                  obtain ⟨q1483, e1482⟩ := Q1481
                  obtain rfl := e1482.symm
                  rcases q1483 with ⟨rfl, q1483⟩ | ⟨rfl, q1483⟩
                  · -- space: True
                    exact absurd q1483 q864
                  · -- space: False
                    refine Ww.if_ne C at_247 (by decide) (pcT := 253) (by decide) (pc' := 250) rfl (fun q => absurd q (by decide)) (fun q1484 => ?_)
                    refine Ww.iconst (pc' := 251) C at_250 (v := (4 : Int32)) rfl rfl ?_
                    refine Ww.istore (pc' := 253) C at_251 (Ls' := #[.val (.int p0), .val (.int p1), .val (.int p2), .val (.int p3), .val (.int p4), .val (.int (4 : Int32)), .val (.int c15), .val (.int c19), .val (.int c23), .val (.int c27), .val (.ref a29), .val (.ref a849), .val (.int (0 : Int32)), .val (.int (4 : Int32)), .unset, .unset, .unset]) rfl rfl ?_
                    refine Ww.iload (pc' := 255) C at_253 rfl rfl ?_
                    refine Ww.iload (pc' := 257) C at_255 rfl rfl ?_
                    refine Ww.isub (pc' := 258) C at_257 (v := (4 : Int32)) (by decide) rfl ?_
                    refine Ww.istore (pc' := 260) C at_258 (Ls' := #[.val (.int p0), .val (.int p1), .val (.int p2), .val (.int p3), .val (.int p4), .val (.int (4 : Int32)), .val (.int c15), .val (.int c19), .val (.int c23), .val (.int c27), .val (.ref a29), .val (.ref a849), .val (.int (0 : Int32)), .val (.int (4 : Int32)), .val (.int (4 : Int32)), .unset, .unset]) rfl rfl ?_
                    refine Ww.newO (pc' := 263) C at_260 (w5 hw) (w6 hw) (w7 hw) (k' := 3) rfl (n' := 12) rfl (by decide) (by decide) rfl ?_
                    intro a1485 h1486 ga1485 za1485 E1486 Aa1485 Da1485 Ua1485 O1486
                    have F1487 : Fld Z h1486 a1485 "java/lang/String" "value" "[B" .null := Da1485 (Or.inr (w20 hw)) (ty := (.array .byte)) (by decide)
                    have F1488 : Fld Z h1486 a1485 "java/lang/String" "coder" "B" (.int (0 : Int32)) := Da1485 (Or.inr (w21 hw)) (ty := .byte) (by decide)
                    refine Ww.dup (pc' := 264) C at_263 rfl rfl ?_
                    refine Ww.aload (pc' := 266) C at_264 rfl rfl rfl ?_
                    have hp1489 : ∀ c ∈ ([c15, c19, c23, c27] : List Int32), ¬ c < 0 ∧ ¬ (255 : Int32) < c := (List.forall_mem_cons.mpr ⟨rc15, (List.forall_mem_cons.mpr ⟨rc19, (List.forall_mem_cons.mpr ⟨rc23, (List.forall_mem_cons.mpr ⟨rc27, (fun _ h => nomatch h)⟩)⟩)⟩)⟩)
                    refine Ww.callI (pc' := 269) C at_266 (a := a1485) (fun vm0 C => (strNew C hw hs O1486 (cs := [c15, c19, c23, c27]) (n := 4) (Wn := 1) za1485 Aa1485 F1487 F1488 (V859.ext E1486) rfl (by decide) (by decide) hp1489 (by decide) (by decide))) (strNewC (n := 4) O1486 za1485 rfl (by decide) hp1489) (fun v h' q => Or.inr (Or.inr ⟨a1485, (List.mem_of_getElem? (i := 0) rfl), q.2.1⟩)) rfl (w8 hw) (w9 hw) (w10 hw) (by decide) (argsL := [(.ref a849)]) (st := [(.ref a1485)]) rfl rfl (lenOf pd12 rfl) rfl (Nat.le_of_eq rfl) (k' := 4) rfl (n' := 16) rfl (by decide) (by decide) rfl ?_
                    intro r1490 h1491 Q1491 O1491
                    obtain ⟨rfl, Kh1491, Sh1491⟩ := Q1491
                    refine Ww.callSS (pc' := 272) C at_269 (Ww.Con.pays hE (Wn := 0) (own_wos l hw hE O1491 hs a1485 [c15, c19, c23, c27] Sh1491 (show _ ≤ 4 from Nat.le_of_ble_eq_true rfl)) (w29 hw) (w28 hw) (by decide) (by decide)) Wk.cleanC (w26 hw) (w27 hw) (w28 hw) (w29 hw) (by decide) (argsL := [(.ref a1485)]) (st := []) rfl rfl (lenOf pd13 rfl) rfl (Nat.le_of_eq rfl) (k' := 8) rfl (n' := 28) rfl (by decide) (by decide) rfl ?_
                    intro r1492 h1493 Q1493 O1493
                    obtain ⟨x1494, rfl, E1493, S1493⟩ := Q1493
                    refine Ww.astore (pc' := 274) C at_272 rfl (Ls' := #[.val (.int p0), .val (.int p1), .val (.int p2), .val (.int p3), .val (.int p4), .val (.int (4 : Int32)), .val (.int c15), .val (.int c19), .val (.int c23), .val (.int c27), .val (.ref a29), .val (.ref a849), .val (.int (0 : Int32)), .val (.int (4 : Int32)), .val (.int (4 : Int32)), .val (.ref x1494), .unset]) rfl rfl ?_
                    have hT : trim [c15, c19, c23, c27] = [c15, c19, c23, c27] := by simp [trim, lead, endAt, q1401, q1395, q1389, q864]
                    have G15 : Str Z h1493 x1494 [c15, c19, c23, c27] := hT ▸ S1493
                    refine Ww.aload (pc' := 276) C at_274 rfl rfl rfl ?_
                    refine Ww.callV (pc' := 279) C at_276 (a := x1494) (fun vm0 C => (strLen C hw hs O1493 (Wn := 0) G15 (by decide) (by decide))) (pureC (P := fun v => v = some (.int (Int32.ofNat ([c15, c19, c23, c27] : List Int32).length))) O1493) (fun v h' q => Or.inl q.2) S1493.exa (w55 hw) (w31 hw) (fun vm0 hZ0 => notFace_of_selects (args := #[]) (mvT (s := W.s.setVm vm0) hZ0 (w33 hw))) (w33 hw) (w32 hw) (by decide) (argsL := []) (st := []) rfl rfl (lenOf pd5 rfl) rfl (Nat.le_of_eq rfl) (k' := 8) rfl (n' := 28) rfl (by decide) (by decide) rfl ?_
                    intro r1495 h1496 Q1496 O1496
                    obtain ⟨rfl, e1497⟩ := Q1496
                    obtain rfl := e1497.symm
                    refine Ww.iload (pc' := 281) C at_279 rfl rfl ?_
                    refine Ww.icmp_ne C at_281 (by decide) (pcT := 288) (by decide) (pc' := 284) rfl (fun q => absurd rfl q) (fun q1498 => ?_)
                    refine Ww.iconst (pc' := 285) C at_284 (v := (1 : Int32)) rfl rfl ?_
                    refine Ww.goto C at_285 (by decide) (pc' := 289) (by decide) ?_
                    refine Ww.istore (pc' := 291) C at_289 (Ls' := #[.val (.int p0), .val (.int p1), .val (.int p2), .val (.int p3), .val (.int p4), .val (.int (4 : Int32)), .val (.int c15), .val (.int c19), .val (.int c23), .val (.int c27), .val (.ref a29), .val (.ref a849), .val (.int (0 : Int32)), .val (.int (4 : Int32)), .val (.int (4 : Int32)), .val (.ref x1494), .val (.int (1 : Int32))]) rfl rfl ?_
                    refine Ww.iload (pc' := 293) C at_291 rfl rfl ?_
                    refine Ww.if_eq C at_293 (by decide) (pcT := 322) (by decide) (pc' := 296) rfl (fun q => absurd q (by decide)) (fun q1499 => ?_)
                    refine Ww.iload (pc' := 298) C at_296 rfl rfl ?_
                    refine Ww.if_le C at_298 (by decide) (pcT := 322) (by decide) (pc' := 301) rfl (fun q => absurd q (by decide)) (fun q1500 => ?_)
                    refine Ww.aload (pc' := 303) C at_301 rfl rfl rfl ?_
                    refine Ww.iconst (pc' := 304) C at_303 (v := (0 : Int32)) rfl rfl ?_
                    refine Ww.callV (pc' := 307) C at_304 (a := x1494) (fun vm0 C => (strAt C hw hs O1493 (Wn := 0) (i := 0) G15 (show _ < _ from Nat.le_of_ble_eq_true rfl) rfl (by decide) (by decide))) (pureC (P := fun v => v = some (.int (([c15, c19, c23, c27] : List Int32).getD 0 0))) O1493) (fun v h' q => Or.inl q.2) S1493.exa (w114 hw) (w70 hw) (fun vm0 hZ0 => notFace_of_selects (args := #[]) (mvT (s := W.s.setVm vm0) hZ0 (w72 hw))) (w72 hw) (w71 hw) (by decide) (argsL := [(.int (0 : Int32))]) (st := []) rfl rfl (lenOf pd10 rfl) rfl (Nat.le_of_eq rfl) (k' := 8) rfl (n' := 28) rfl (by decide) (by decide) rfl ?_
                    intro r1501 h1502 Q1502 O1502
                    obtain ⟨rfl, e1503⟩ := Q1502
                    obtain rfl := e1503.symm
                    refine Ww.aload (pc' := 309) C at_307 rfl rfl rfl ?_
                    refine Ww.iload (pc' := 311) C at_309 rfl rfl ?_
                    have X1504 : Ext h35 h853 := Wk.Ext.wr (Z := Z) E850 W853 (Nat.le_of_eq ga849.symm)
                    have X1505 : Ext h35 h855 := Wk.Ext.wr (Z := Z) X1504 W855 (Nat.le_of_eq ga849.symm)
                    have X1506 : Ext h35 h857 := Wk.Ext.wr (Z := Z) X1505 W857 (Nat.le_of_eq ga849.symm)
                    have X1507 : Ext h35 h859 := Wk.Ext.wr (Z := Z) X1506 W859 (Nat.le_of_eq ga849.symm)
                    have X1508 : Ext h35 h1486 := Wk.Ext.trans X1507 E1486
                    have X1509 : Ext h35 h1491 := Wk.Ext.keep1 (Z := Z) X1508 Kh1491 (Nat.le_trans X1507.1 (Nat.le_of_eq ga1485.symm))
                    have X1510 : Ext h35 h1493 := Wk.Ext.trans X1509 E1493
                    refine Ww.caload (pc' := 312) C at_311 (V35.ext X1510) (by decide) (v := (.int c15)) rfl rfl ?_
                    refine Ww.icmp_ne C at_312 (by decide) (pcT := 319) (by decide) (pc' := 315) rfl (fun q => absurd rfl q) (fun q1511 => ?_)
                    refine Ww.iconst (pc' := 316) C at_315 (v := (1 : Int32)) rfl rfl ?_
                    refine Ww.goto C at_316 (by decide) (pc' := 320) (by decide) ?_
                    refine Ww.istore (pc' := 322) C at_320 (Ls' := #[.val (.int p0), .val (.int p1), .val (.int p2), .val (.int p3), .val (.int p4), .val (.int (4 : Int32)), .val (.int c15), .val (.int c19), .val (.int c23), .val (.int c27), .val (.ref a29), .val (.ref a849), .val (.int (0 : Int32)), .val (.int (4 : Int32)), .val (.int (4 : Int32)), .val (.ref x1494), .val (.int (1 : Int32))]) rfl rfl ?_
                    refine Ww.iload (pc' := 324) C at_322 rfl rfl ?_
                    refine Ww.if_eq C at_324 (by decide) (pcT := 356) (by decide) (pc' := 327) rfl (fun q => absurd q (by decide)) (fun q1512 => ?_)
                    refine Ww.iload (pc' := 329) C at_327 rfl rfl ?_
                    refine Ww.iconst (pc' := 330) C at_329 (v := (1 : Int32)) rfl rfl ?_
                    refine Ww.icmp_le C at_330 (by decide) (pcT := 356) (by decide) (pc' := 333) rfl (fun q => absurd q (by decide)) (fun q1513 => ?_)
                    refine Ww.aload (pc' := 335) C at_333 rfl rfl rfl ?_
                    refine Ww.iconst (pc' := 336) C at_335 (v := (1 : Int32)) rfl rfl ?_
                    refine Ww.callV (pc' := 339) C at_336 (a := x1494) (fun vm0 C => (strAt C hw hs O1493 (Wn := 0) (i := 1) G15 (show _ < _ from Nat.le_of_ble_eq_true rfl) rfl (by decide) (by decide))) (pureC (P := fun v => v = some (.int (([c15, c19, c23, c27] : List Int32).getD 1 0))) O1493) (fun v h' q => Or.inl q.2) S1493.exa (w114 hw) (w70 hw) (fun vm0 hZ0 => notFace_of_selects (args := #[]) (mvT (s := W.s.setVm vm0) hZ0 (w72 hw))) (w72 hw) (w71 hw) (by decide) (argsL := [(.int (1 : Int32))]) (st := []) rfl rfl (lenOf pd10 rfl) rfl (Nat.le_of_eq rfl) (k' := 8) rfl (n' := 28) rfl (by decide) (by decide) rfl ?_
                    intro r1514 h1515 Q1515 O1515
                    obtain ⟨rfl, e1516⟩ := Q1515
                    obtain rfl := e1516.symm
                    refine Ww.aload (pc' := 341) C at_339 rfl rfl rfl ?_
                    refine Ww.iload (pc' := 343) C at_341 rfl rfl ?_
                    refine Ww.iconst (pc' := 344) C at_343 (v := (1 : Int32)) rfl rfl ?_
                    refine Ww.iadd (pc' := 345) C at_344 (v := (1 : Int32)) (by decide) rfl ?_
                    refine Ww.caload (pc' := 346) C at_345 (V35.ext X1510) (by decide) (v := (.int c19)) rfl rfl ?_
                    refine Ww.icmp_ne C at_346 (by decide) (pcT := 353) (by decide) (pc' := 349) rfl (fun q => absurd rfl q) (fun q1517 => ?_)
                    refine Ww.iconst (pc' := 350) C at_349 (v := (1 : Int32)) rfl rfl ?_
                    refine Ww.goto C at_350 (by decide) (pc' := 354) (by decide) ?_
                    refine Ww.istore (pc' := 356) C at_354 (Ls' := #[.val (.int p0), .val (.int p1), .val (.int p2), .val (.int p3), .val (.int p4), .val (.int (4 : Int32)), .val (.int c15), .val (.int c19), .val (.int c23), .val (.int c27), .val (.ref a29), .val (.ref a849), .val (.int (0 : Int32)), .val (.int (4 : Int32)), .val (.int (4 : Int32)), .val (.ref x1494), .val (.int (1 : Int32))]) rfl rfl ?_
                    refine Ww.iload (pc' := 358) C at_356 rfl rfl ?_
                    refine Ww.if_eq C at_358 (by decide) (pcT := 390) (by decide) (pc' := 361) rfl (fun q => absurd q (by decide)) (fun q1518 => ?_)
                    refine Ww.iload (pc' := 363) C at_361 rfl rfl ?_
                    refine Ww.iconst (pc' := 364) C at_363 (v := (2 : Int32)) rfl rfl ?_
                    refine Ww.icmp_le C at_364 (by decide) (pcT := 390) (by decide) (pc' := 367) rfl (fun q => absurd q (by decide)) (fun q1519 => ?_)
                    refine Ww.aload (pc' := 369) C at_367 rfl rfl rfl ?_
                    refine Ww.iconst (pc' := 370) C at_369 (v := (2 : Int32)) rfl rfl ?_
                    refine Ww.callV (pc' := 373) C at_370 (a := x1494) (fun vm0 C => (strAt C hw hs O1493 (Wn := 0) (i := 2) G15 (show _ < _ from Nat.le_of_ble_eq_true rfl) rfl (by decide) (by decide))) (pureC (P := fun v => v = some (.int (([c15, c19, c23, c27] : List Int32).getD 2 0))) O1493) (fun v h' q => Or.inl q.2) S1493.exa (w114 hw) (w70 hw) (fun vm0 hZ0 => notFace_of_selects (args := #[]) (mvT (s := W.s.setVm vm0) hZ0 (w72 hw))) (w72 hw) (w71 hw) (by decide) (argsL := [(.int (2 : Int32))]) (st := []) rfl rfl (lenOf pd10 rfl) rfl (Nat.le_of_eq rfl) (k' := 8) rfl (n' := 28) rfl (by decide) (by decide) rfl ?_
                    intro r1520 h1521 Q1521 O1521
                    obtain ⟨rfl, e1522⟩ := Q1521
                    obtain rfl := e1522.symm
                    refine Ww.aload (pc' := 375) C at_373 rfl rfl rfl ?_
                    refine Ww.iload (pc' := 377) C at_375 rfl rfl ?_
                    refine Ww.iconst (pc' := 378) C at_377 (v := (2 : Int32)) rfl rfl ?_
                    refine Ww.iadd (pc' := 379) C at_378 (v := (2 : Int32)) (by decide) rfl ?_
                    refine Ww.caload (pc' := 380) C at_379 (V35.ext X1510) (by decide) (v := (.int c23)) rfl rfl ?_
                    refine Ww.icmp_ne C at_380 (by decide) (pcT := 387) (by decide) (pc' := 383) rfl (fun q => absurd rfl q) (fun q1523 => ?_)
                    refine Ww.iconst (pc' := 384) C at_383 (v := (1 : Int32)) rfl rfl ?_
                    refine Ww.goto C at_384 (by decide) (pc' := 388) (by decide) ?_
                    refine Ww.istore (pc' := 390) C at_388 (Ls' := #[.val (.int p0), .val (.int p1), .val (.int p2), .val (.int p3), .val (.int p4), .val (.int (4 : Int32)), .val (.int c15), .val (.int c19), .val (.int c23), .val (.int c27), .val (.ref a29), .val (.ref a849), .val (.int (0 : Int32)), .val (.int (4 : Int32)), .val (.int (4 : Int32)), .val (.ref x1494), .val (.int (1 : Int32))]) rfl rfl ?_
                    refine Ww.iload (pc' := 392) C at_390 rfl rfl ?_
                    refine Ww.if_eq C at_392 (by decide) (pcT := 424) (by decide) (pc' := 395) rfl (fun q => absurd q (by decide)) (fun q1524 => ?_)
                    refine Ww.iload (pc' := 397) C at_395 rfl rfl ?_
                    refine Ww.iconst (pc' := 398) C at_397 (v := (3 : Int32)) rfl rfl ?_
                    refine Ww.icmp_le C at_398 (by decide) (pcT := 424) (by decide) (pc' := 401) rfl (fun q => absurd q (by decide)) (fun q1525 => ?_)
                    refine Ww.aload (pc' := 403) C at_401 rfl rfl rfl ?_
                    refine Ww.iconst (pc' := 404) C at_403 (v := (3 : Int32)) rfl rfl ?_
                    refine Ww.callV (pc' := 407) C at_404 (a := x1494) (fun vm0 C => (strAt C hw hs O1493 (Wn := 0) (i := 3) G15 (show _ < _ from Nat.le_of_ble_eq_true rfl) rfl (by decide) (by decide))) (pureC (P := fun v => v = some (.int (([c15, c19, c23, c27] : List Int32).getD 3 0))) O1493) (fun v h' q => Or.inl q.2) S1493.exa (w114 hw) (w70 hw) (fun vm0 hZ0 => notFace_of_selects (args := #[]) (mvT (s := W.s.setVm vm0) hZ0 (w72 hw))) (w72 hw) (w71 hw) (by decide) (argsL := [(.int (3 : Int32))]) (st := []) rfl rfl (lenOf pd10 rfl) rfl (Nat.le_of_eq rfl) (k' := 8) rfl (n' := 28) rfl (by decide) (by decide) rfl ?_
                    intro r1526 h1527 Q1527 O1527
                    obtain ⟨rfl, e1528⟩ := Q1527
                    obtain rfl := e1528.symm
                    refine Ww.aload (pc' := 409) C at_407 rfl rfl rfl ?_
                    refine Ww.iload (pc' := 411) C at_409 rfl rfl ?_
                    refine Ww.iconst (pc' := 412) C at_411 (v := (3 : Int32)) rfl rfl ?_
                    refine Ww.iadd (pc' := 413) C at_412 (v := (3 : Int32)) (by decide) rfl ?_
                    refine Ww.caload (pc' := 414) C at_413 (V35.ext X1510) (by decide) (v := (.int c27)) rfl rfl ?_
                    refine Ww.icmp_ne C at_414 (by decide) (pcT := 421) (by decide) (pc' := 417) rfl (fun q => absurd rfl q) (fun q1529 => ?_)
                    refine Ww.iconst (pc' := 418) C at_417 (v := (1 : Int32)) rfl rfl ?_
                    refine Ww.goto C at_418 (by decide) (pc' := 422) (by decide) ?_
                    refine Ww.istore (pc' := 424) C at_422 (Ls' := #[.val (.int p0), .val (.int p1), .val (.int p2), .val (.int p3), .val (.int p4), .val (.int (4 : Int32)), .val (.int c15), .val (.int c19), .val (.int c23), .val (.int c27), .val (.ref a29), .val (.ref a849), .val (.int (0 : Int32)), .val (.int (4 : Int32)), .val (.int (4 : Int32)), .val (.ref x1494), .val (.int (1 : Int32))]) rfl rfl ?_
                    refine Ww.iload (pc' := 426) C at_424 rfl rfl ?_
                    exact Ww.retNar (ty := .boolean) C hE (by simp) at_426 rfl (by decide) (by decide) rfl
                · -- space: False
                  exact absurd q1389 q1477
              · -- space: False
                exact absurd q1395 q1471
        · -- space: False
          refine Ww.if_ne C at_160 (by decide) (pcT := 166) (by decide) (pc' := 163) rfl (fun q => absurd q (by decide)) (fun q1530 => ?_)
          refine Ww.iconst (pc' := 164) C at_163 (v := (1 : Int32)) rfl rfl ?_
          refine Ww.istore (pc' := 166) C at_164 (Ls' := #[.val (.int p0), .val (.int p1), .val (.int p2), .val (.int p3), .val (.int p4), .val (.int (4 : Int32)), .val (.int c15), .val (.int c19), .val (.int c23), .val (.int c27), .val (.ref a29), .val (.ref a849), .val (.int (1 : Int32)), .unset, .unset, .unset, .unset]) rfl rfl ?_
          refine Ww.iload (pc' := 168) C at_166 rfl rfl ?_
          refine Ww.if_le C at_168 (by decide) (pcT := 182) (by decide) (pc' := 171) rfl (fun q => absurd q (by decide)) (fun q1531 => ?_)
          refine Ww.iload (pc' := 173) C at_171 rfl rfl ?_
          refine Ww.callS (pc' := 176) C at_173 (fun vm0 C => (Wk.Con.pays C (Wn := 0) (own_sp l hw O859 c15) (w58 hw) (w2 hw) (by decide) (by decide))) Wk.cleanC (fun v h' q => Or.inl q.2) (w56 hw) (w57 hw) (w2 hw) (w58 hw) (by decide) (argsL := [(.int c15)]) (st := []) rfl rfl (lenOf pd14 rfl) rfl (Nat.le_of_eq rfl) (k' := 2) rfl (n' := 8) rfl (by decide) (by decide) rfl ?_
          intro r1532 h1533 Q1533 O1533
          obtain ⟨q1535, e1534⟩ := Q1533
          obtain rfl := e1534.symm
          rcases q1535 with ⟨rfl, q1535⟩ | ⟨rfl, q1535⟩
          · -- space: True
            refine Ww.if_ne C at_176 (by decide) (pcT := 182) (by decide) (pc' := 179) rfl (fun q1536 => ?_) (fun q => absurd q (by decide))
            refine Ww.iload (pc' := 184) C at_182 rfl rfl ?_
            refine Ww.istore (pc' := 186) C at_184 (Ls' := #[.val (.int p0), .val (.int p1), .val (.int p2), .val (.int p3), .val (.int p4), .val (.int (4 : Int32)), .val (.int c15), .val (.int c19), .val (.int c23), .val (.int c27), .val (.ref a29), .val (.ref a849), .val (.int (1 : Int32)), .val (.int (1 : Int32)), .unset, .unset, .unset]) rfl rfl ?_
            refine Ww.iload (pc' := 188) C at_186 rfl rfl ?_
            refine Ww.if_le C at_188 (by decide) (pcT := 202) (by decide) (pc' := 191) rfl (fun q => absurd q (by decide)) (fun q1537 => ?_)
            refine Ww.iload (pc' := 193) C at_191 rfl rfl ?_
            refine Ww.callS (pc' := 196) C at_193 (fun vm0 C => (Wk.Con.pays C (Wn := 0) (own_sp l hw O859 c15) (w58 hw) (w2 hw) (by decide) (by decide))) Wk.cleanC (fun v h' q => Or.inl q.2) (w56 hw) (w57 hw) (w2 hw) (w58 hw) (by decide) (argsL := [(.int c15)]) (st := []) rfl rfl (lenOf pd14 rfl) rfl (Nat.le_of_eq rfl) (k' := 2) rfl (n' := 8) rfl (by decide) (by decide) rfl ?_
            intro r1538 h1539 Q1539 O1539
            obtain ⟨q1541, e1540⟩ := Q1539
            obtain rfl := e1540.symm
            rcases q1541 with ⟨rfl, q1541⟩ | ⟨rfl, q1541⟩
            · -- space: True
              refine Ww.if_ne C at_196 (by decide) (pcT := 202) (by decide) (pc' := 199) rfl (fun q1542 => ?_) (fun q => absurd q (by decide))
              refine Ww.iload (pc' := 204) C at_202 rfl rfl ?_
              refine Ww.iconst (pc' := 205) C at_204 (v := (1 : Int32)) rfl rfl ?_
              refine Ww.icmp_le C at_205 (by decide) (pcT := 219) (by decide) (pc' := 208) rfl (fun q => absurd q (by decide)) (fun q1543 => ?_)
              refine Ww.iload (pc' := 210) C at_208 rfl rfl ?_
              refine Ww.callS (pc' := 213) C at_210 (fun vm0 C => (Wk.Con.pays C (Wn := 0) (own_sp l hw O859 c19) (w58 hw) (w2 hw) (by decide) (by decide))) Wk.cleanC (fun v h' q => Or.inl q.2) (w56 hw) (w57 hw) (w2 hw) (w58 hw) (by decide) (argsL := [(.int c19)]) (st := []) rfl rfl (lenOf pd14 rfl) rfl (Nat.le_of_eq rfl) (k' := 2) rfl (n' := 8) rfl (by decide) (by decide) rfl ?_
              intro r1544 h1545 Q1545 O1545
              obtain ⟨q1547, e1546⟩ := Q1545
              obtain rfl := e1546.symm
              rcases q1547 with ⟨rfl, q1547⟩ | ⟨rfl, q1547⟩
              · -- space: True
                exact absurd q1547 q1395
              · -- space: False
                refine Ww.if_ne C at_213 (by decide) (pcT := 219) (by decide) (pc' := 216) rfl (fun q => absurd q (by decide)) (fun q1548 => ?_)
                refine Ww.iconst (pc' := 217) C at_216 (v := (2 : Int32)) rfl rfl ?_
                refine Ww.istore (pc' := 219) C at_217 (Ls' := #[.val (.int p0), .val (.int p1), .val (.int p2), .val (.int p3), .val (.int p4), .val (.int (4 : Int32)), .val (.int c15), .val (.int c19), .val (.int c23), .val (.int c27), .val (.ref a29), .val (.ref a849), .val (.int (1 : Int32)), .val (.int (2 : Int32)), .unset, .unset, .unset]) rfl rfl ?_
                refine Ww.iload (pc' := 221) C at_219 rfl rfl ?_
                refine Ww.iconst (pc' := 222) C at_221 (v := (2 : Int32)) rfl rfl ?_
                refine Ww.icmp_le C at_222 (by decide) (pcT := 236) (by decide) (pc' := 225) rfl (fun q => absurd q (by decide)) (fun q1549 => ?_)
                refine Ww.iload (pc' := 227) C at_225 rfl rfl ?_
                refine Ww.callS (pc' := 230) C at_227 (fun vm0 C => (Wk.Con.pays C (Wn := 0) (own_sp l hw O859 c23) (w58 hw) (w2 hw) (by decide) (by decide))) Wk.cleanC (fun v h' q => Or.inl q.2) (w56 hw) (w57 hw) (w2 hw) (w58 hw) (by decide) (argsL := [(.int c23)]) (st := []) rfl rfl (lenOf pd14 rfl) rfl (Nat.le_of_eq rfl) (k' := 2) rfl (n' := 8) rfl (by decide) (by decide) rfl ?_
                intro r1550 h1551 Q1551 O1551
                obtain ⟨q1553, e1552⟩ := Q1551
                obtain rfl := e1552.symm
                rcases q1553 with ⟨rfl, q1553⟩ | ⟨rfl, q1553⟩
                · -- space: True
                  refine Ww.if_ne C at_230 (by decide) (pcT := 236) (by decide) (pc' := 233) rfl (fun q1554 => ?_) (fun q => absurd q (by decide))
                  refine Ww.iload (pc' := 238) C at_236 rfl rfl ?_
                  refine Ww.iconst (pc' := 239) C at_238 (v := (3 : Int32)) rfl rfl ?_
                  refine Ww.icmp_le C at_239 (by decide) (pcT := 253) (by decide) (pc' := 242) rfl (fun q => absurd q (by decide)) (fun q1555 => ?_)
                  refine Ww.iload (pc' := 244) C at_242 rfl rfl ?_
                  refine Ww.callS (pc' := 247) C at_244 (fun vm0 C => (Wk.Con.pays C (Wn := 0) (own_sp l hw O859 c27) (w58 hw) (w2 hw) (by decide) (by decide))) Wk.cleanC (fun v h' q => Or.inl q.2) (w56 hw) (w57 hw) (w2 hw) (w58 hw) (by decide) (argsL := [(.int c27)]) (st := []) rfl rfl (lenOf pd14 rfl) rfl (Nat.le_of_eq rfl) (k' := 2) rfl (n' := 8) rfl (by decide) (by decide) rfl ?_
                  intro r1556 h1557 Q1557 O1557
                  obtain ⟨q1559, e1558⟩ := Q1557
                  obtain rfl := e1558.symm
                  rcases q1559 with ⟨rfl, q1559⟩ | ⟨rfl, q1559⟩
                  · -- space: True
                    exact absurd q1559 q864
                  · -- space: False
                    refine Ww.if_ne C at_247 (by decide) (pcT := 253) (by decide) (pc' := 250) rfl (fun q => absurd q (by decide)) (fun q1560 => ?_)
                    refine Ww.iconst (pc' := 251) C at_250 (v := (4 : Int32)) rfl rfl ?_
                    refine Ww.istore (pc' := 253) C at_251 (Ls' := #[.val (.int p0), .val (.int p1), .val (.int p2), .val (.int p3), .val (.int p4), .val (.int (4 : Int32)), .val (.int c15), .val (.int c19), .val (.int c23), .val (.int c27), .val (.ref a29), .val (.ref a849), .val (.int (1 : Int32)), .val (.int (4 : Int32)), .unset, .unset, .unset]) rfl rfl ?_
                    refine Ww.iload (pc' := 255) C at_253 rfl rfl ?_
                    refine Ww.iload (pc' := 257) C at_255 rfl rfl ?_
                    refine Ww.isub (pc' := 258) C at_257 (v := (3 : Int32)) (by decide) rfl ?_
                    refine Ww.istore (pc' := 260) C at_258 (Ls' := #[.val (.int p0), .val (.int p1), .val (.int p2), .val (.int p3), .val (.int p4), .val (.int (4 : Int32)), .val (.int c15), .val (.int c19), .val (.int c23), .val (.int c27), .val (.ref a29), .val (.ref a849), .val (.int (1 : Int32)), .val (.int (4 : Int32)), .val (.int (3 : Int32)), .unset, .unset]) rfl rfl ?_
                    refine Ww.newO (pc' := 263) C at_260 (w5 hw) (w6 hw) (w7 hw) (k' := 3) rfl (n' := 12) rfl (by decide) (by decide) rfl ?_
                    intro a1561 h1562 ga1561 za1561 E1562 Aa1561 Da1561 Ua1561 O1562
                    have F1563 : Fld Z h1562 a1561 "java/lang/String" "value" "[B" .null := Da1561 (Or.inr (w20 hw)) (ty := (.array .byte)) (by decide)
                    have F1564 : Fld Z h1562 a1561 "java/lang/String" "coder" "B" (.int (0 : Int32)) := Da1561 (Or.inr (w21 hw)) (ty := .byte) (by decide)
                    refine Ww.dup (pc' := 264) C at_263 rfl rfl ?_
                    refine Ww.aload (pc' := 266) C at_264 rfl rfl rfl ?_
                    have hp1565 : ∀ c ∈ ([c15, c19, c23, c27] : List Int32), ¬ c < 0 ∧ ¬ (255 : Int32) < c := (List.forall_mem_cons.mpr ⟨rc15, (List.forall_mem_cons.mpr ⟨rc19, (List.forall_mem_cons.mpr ⟨rc23, (List.forall_mem_cons.mpr ⟨rc27, (fun _ h => nomatch h)⟩)⟩)⟩)⟩)
                    refine Ww.callI (pc' := 269) C at_266 (a := a1561) (fun vm0 C => (strNew C hw hs O1562 (cs := [c15, c19, c23, c27]) (n := 4) (Wn := 1) za1561 Aa1561 F1563 F1564 (V859.ext E1562) rfl (by decide) (by decide) hp1565 (by decide) (by decide))) (strNewC (n := 4) O1562 za1561 rfl (by decide) hp1565) (fun v h' q => Or.inr (Or.inr ⟨a1561, (List.mem_of_getElem? (i := 0) rfl), q.2.1⟩)) rfl (w8 hw) (w9 hw) (w10 hw) (by decide) (argsL := [(.ref a849)]) (st := [(.ref a1561)]) rfl rfl (lenOf pd12 rfl) rfl (Nat.le_of_eq rfl) (k' := 4) rfl (n' := 16) rfl (by decide) (by decide) rfl ?_
                    intro r1566 h1567 Q1567 O1567
                    obtain ⟨rfl, Kh1567, Sh1567⟩ := Q1567
                    refine Ww.callSS (pc' := 272) C at_269 (Ww.Con.pays hE (Wn := 0) (own_wos l hw hE O1567 hs a1561 [c15, c19, c23, c27] Sh1567 (show _ ≤ 4 from Nat.le_of_ble_eq_true rfl)) (w29 hw) (w28 hw) (by decide) (by decide)) Wk.cleanC (w26 hw) (w27 hw) (w28 hw) (w29 hw) (by decide) (argsL := [(.ref a1561)]) (st := []) rfl rfl (lenOf pd13 rfl) rfl (Nat.le_of_eq rfl) (k' := 8) rfl (n' := 28) rfl (by decide) (by decide) rfl ?_
                    intro r1568 h1569 Q1569 O1569
                    obtain ⟨x1570, rfl, E1569, S1569⟩ := Q1569
                    refine Ww.astore (pc' := 274) C at_272 rfl (Ls' := #[.val (.int p0), .val (.int p1), .val (.int p2), .val (.int p3), .val (.int p4), .val (.int (4 : Int32)), .val (.int c15), .val (.int c19), .val (.int c23), .val (.int c27), .val (.ref a29), .val (.ref a849), .val (.int (1 : Int32)), .val (.int (4 : Int32)), .val (.int (3 : Int32)), .val (.ref x1570), .unset]) rfl rfl ?_
                    have hT : trim [c15, c19, c23, c27] = [c19, c23, c27] := by simp [trim, lead, endAt, q1535, q1395, q1389, q864]
                    have G15 : Str Z h1569 x1570 [c19, c23, c27] := hT ▸ S1569
                    refine Ww.aload (pc' := 276) C at_274 rfl rfl rfl ?_
                    refine Ww.callV (pc' := 279) C at_276 (a := x1570) (fun vm0 C => (strLen C hw hs O1569 (Wn := 0) G15 (by decide) (by decide))) (pureC (P := fun v => v = some (.int (Int32.ofNat ([c19, c23, c27] : List Int32).length))) O1569) (fun v h' q => Or.inl q.2) S1569.exa (w55 hw) (w31 hw) (fun vm0 hZ0 => notFace_of_selects (args := #[]) (mvT (s := W.s.setVm vm0) hZ0 (w33 hw))) (w33 hw) (w32 hw) (by decide) (argsL := []) (st := []) rfl rfl (lenOf pd5 rfl) rfl (Nat.le_of_eq rfl) (k' := 8) rfl (n' := 28) rfl (by decide) (by decide) rfl ?_
                    intro r1571 h1572 Q1572 O1572
                    obtain ⟨rfl, e1573⟩ := Q1572
                    obtain rfl := e1573.symm
                    refine Ww.iload (pc' := 281) C at_279 rfl rfl ?_
                    refine Ww.icmp_ne C at_281 (by decide) (pcT := 288) (by decide) (pc' := 284) rfl (fun q => absurd rfl q) (fun q1574 => ?_)
                    refine Ww.iconst (pc' := 285) C at_284 (v := (1 : Int32)) rfl rfl ?_
                    refine Ww.goto C at_285 (by decide) (pc' := 289) (by decide) ?_
                    refine Ww.istore (pc' := 291) C at_289 (Ls' := #[.val (.int p0), .val (.int p1), .val (.int p2), .val (.int p3), .val (.int p4), .val (.int (4 : Int32)), .val (.int c15), .val (.int c19), .val (.int c23), .val (.int c27), .val (.ref a29), .val (.ref a849), .val (.int (1 : Int32)), .val (.int (4 : Int32)), .val (.int (3 : Int32)), .val (.ref x1570), .val (.int (1 : Int32))]) rfl rfl ?_
                    refine Ww.iload (pc' := 293) C at_291 rfl rfl ?_
                    refine Ww.if_eq C at_293 (by decide) (pcT := 322) (by decide) (pc' := 296) rfl (fun q => absurd q (by decide)) (fun q1575 => ?_)
                    refine Ww.iload (pc' := 298) C at_296 rfl rfl ?_
                    refine Ww.if_le C at_298 (by decide) (pcT := 322) (by decide) (pc' := 301) rfl (fun q => absurd q (by decide)) (fun q1576 => ?_)
                    refine Ww.aload (pc' := 303) C at_301 rfl rfl rfl ?_
                    refine Ww.iconst (pc' := 304) C at_303 (v := (0 : Int32)) rfl rfl ?_
                    refine Ww.callV (pc' := 307) C at_304 (a := x1570) (fun vm0 C => (strAt C hw hs O1569 (Wn := 0) (i := 0) G15 (show _ < _ from Nat.le_of_ble_eq_true rfl) rfl (by decide) (by decide))) (pureC (P := fun v => v = some (.int (([c19, c23, c27] : List Int32).getD 0 0))) O1569) (fun v h' q => Or.inl q.2) S1569.exa (w114 hw) (w70 hw) (fun vm0 hZ0 => notFace_of_selects (args := #[]) (mvT (s := W.s.setVm vm0) hZ0 (w72 hw))) (w72 hw) (w71 hw) (by decide) (argsL := [(.int (0 : Int32))]) (st := []) rfl rfl (lenOf pd10 rfl) rfl (Nat.le_of_eq rfl) (k' := 8) rfl (n' := 28) rfl (by decide) (by decide) rfl ?_
                    intro r1577 h1578 Q1578 O1578
                    obtain ⟨rfl, e1579⟩ := Q1578
                    obtain rfl := e1579.symm
                    refine Ww.aload (pc' := 309) C at_307 rfl rfl rfl ?_
                    refine Ww.iload (pc' := 311) C at_309 rfl rfl ?_
                    have X1580 : Ext h35 h853 := Wk.Ext.wr (Z := Z) E850 W853 (Nat.le_of_eq ga849.symm)
                    have X1581 : Ext h35 h855 := Wk.Ext.wr (Z := Z) X1580 W855 (Nat.le_of_eq ga849.symm)
                    have X1582 : Ext h35 h857 := Wk.Ext.wr (Z := Z) X1581 W857 (Nat.le_of_eq ga849.symm)
                    have X1583 : Ext h35 h859 := Wk.Ext.wr (Z := Z) X1582 W859 (Nat.le_of_eq ga849.symm)
                    have X1584 : Ext h35 h1562 := Wk.Ext.trans X1583 E1562
                    have X1585 : Ext h35 h1567 := Wk.Ext.keep1 (Z := Z) X1584 Kh1567 (Nat.le_trans X1583.1 (Nat.le_of_eq ga1561.symm))
                    have X1586 : Ext h35 h1569 := Wk.Ext.trans X1585 E1569
                    refine Ww.caload (pc' := 312) C at_311 (V35.ext X1586) (by decide) (v := (.int c19)) rfl rfl ?_
                    refine Ww.icmp_ne C at_312 (by decide) (pcT := 319) (by decide) (pc' := 315) rfl (fun q => absurd rfl q) (fun q1587 => ?_)
                    refine Ww.iconst (pc' := 316) C at_315 (v := (1 : Int32)) rfl rfl ?_
                    refine Ww.goto C at_316 (by decide) (pc' := 320) (by decide) ?_
                    refine Ww.istore (pc' := 322) C at_320 (Ls' := #[.val (.int p0), .val (.int p1), .val (.int p2), .val (.int p3), .val (.int p4), .val (.int (4 : Int32)), .val (.int c15), .val (.int c19), .val (.int c23), .val (.int c27), .val (.ref a29), .val (.ref a849), .val (.int (1 : Int32)), .val (.int (4 : Int32)), .val (.int (3 : Int32)), .val (.ref x1570), .val (.int (1 : Int32))]) rfl rfl ?_
                    refine Ww.iload (pc' := 324) C at_322 rfl rfl ?_
                    refine Ww.if_eq C at_324 (by decide) (pcT := 356) (by decide) (pc' := 327) rfl (fun q => absurd q (by decide)) (fun q1588 => ?_)
                    refine Ww.iload (pc' := 329) C at_327 rfl rfl ?_
                    refine Ww.iconst (pc' := 330) C at_329 (v := (1 : Int32)) rfl rfl ?_
                    refine Ww.icmp_le C at_330 (by decide) (pcT := 356) (by decide) (pc' := 333) rfl (fun q => absurd q (by decide)) (fun q1589 => ?_)
                    refine Ww.aload (pc' := 335) C at_333 rfl rfl rfl ?_
                    refine Ww.iconst (pc' := 336) C at_335 (v := (1 : Int32)) rfl rfl ?_
                    refine Ww.callV (pc' := 339) C at_336 (a := x1570) (fun vm0 C => (strAt C hw hs O1569 (Wn := 0) (i := 1) G15 (show _ < _ from Nat.le_of_ble_eq_true rfl) rfl (by decide) (by decide))) (pureC (P := fun v => v = some (.int (([c19, c23, c27] : List Int32).getD 1 0))) O1569) (fun v h' q => Or.inl q.2) S1569.exa (w114 hw) (w70 hw) (fun vm0 hZ0 => notFace_of_selects (args := #[]) (mvT (s := W.s.setVm vm0) hZ0 (w72 hw))) (w72 hw) (w71 hw) (by decide) (argsL := [(.int (1 : Int32))]) (st := []) rfl rfl (lenOf pd10 rfl) rfl (Nat.le_of_eq rfl) (k' := 8) rfl (n' := 28) rfl (by decide) (by decide) rfl ?_
                    intro r1590 h1591 Q1591 O1591
                    obtain ⟨rfl, e1592⟩ := Q1591
                    obtain rfl := e1592.symm
                    refine Ww.aload (pc' := 341) C at_339 rfl rfl rfl ?_
                    refine Ww.iload (pc' := 343) C at_341 rfl rfl ?_
                    refine Ww.iconst (pc' := 344) C at_343 (v := (1 : Int32)) rfl rfl ?_
                    refine Ww.iadd (pc' := 345) C at_344 (v := (2 : Int32)) (by decide) rfl ?_
                    refine Ww.caload (pc' := 346) C at_345 (V35.ext X1586) (by decide) (v := (.int c23)) rfl rfl ?_
                    refine Ww.icmp_ne C at_346 (by decide) (pcT := 353) (by decide) (pc' := 349) rfl (fun q => absurd rfl q) (fun q1593 => ?_)
                    refine Ww.iconst (pc' := 350) C at_349 (v := (1 : Int32)) rfl rfl ?_
                    refine Ww.goto C at_350 (by decide) (pc' := 354) (by decide) ?_
                    refine Ww.istore (pc' := 356) C at_354 (Ls' := #[.val (.int p0), .val (.int p1), .val (.int p2), .val (.int p3), .val (.int p4), .val (.int (4 : Int32)), .val (.int c15), .val (.int c19), .val (.int c23), .val (.int c27), .val (.ref a29), .val (.ref a849), .val (.int (1 : Int32)), .val (.int (4 : Int32)), .val (.int (3 : Int32)), .val (.ref x1570), .val (.int (1 : Int32))]) rfl rfl ?_
                    refine Ww.iload (pc' := 358) C at_356 rfl rfl ?_
                    refine Ww.if_eq C at_358 (by decide) (pcT := 390) (by decide) (pc' := 361) rfl (fun q => absurd q (by decide)) (fun q1594 => ?_)
                    refine Ww.iload (pc' := 363) C at_361 rfl rfl ?_
                    refine Ww.iconst (pc' := 364) C at_363 (v := (2 : Int32)) rfl rfl ?_
                    refine Ww.icmp_le C at_364 (by decide) (pcT := 390) (by decide) (pc' := 367) rfl (fun q => absurd q (by decide)) (fun q1595 => ?_)
                    refine Ww.aload (pc' := 369) C at_367 rfl rfl rfl ?_
                    refine Ww.iconst (pc' := 370) C at_369 (v := (2 : Int32)) rfl rfl ?_
                    refine Ww.callV (pc' := 373) C at_370 (a := x1570) (fun vm0 C => (strAt C hw hs O1569 (Wn := 0) (i := 2) G15 (show _ < _ from Nat.le_of_ble_eq_true rfl) rfl (by decide) (by decide))) (pureC (P := fun v => v = some (.int (([c19, c23, c27] : List Int32).getD 2 0))) O1569) (fun v h' q => Or.inl q.2) S1569.exa (w114 hw) (w70 hw) (fun vm0 hZ0 => notFace_of_selects (args := #[]) (mvT (s := W.s.setVm vm0) hZ0 (w72 hw))) (w72 hw) (w71 hw) (by decide) (argsL := [(.int (2 : Int32))]) (st := []) rfl rfl (lenOf pd10 rfl) rfl (Nat.le_of_eq rfl) (k' := 8) rfl (n' := 28) rfl (by decide) (by decide) rfl ?_
                    intro r1596 h1597 Q1597 O1597
                    obtain ⟨rfl, e1598⟩ := Q1597
                    obtain rfl := e1598.symm
                    refine Ww.aload (pc' := 375) C at_373 rfl rfl rfl ?_
                    refine Ww.iload (pc' := 377) C at_375 rfl rfl ?_
                    refine Ww.iconst (pc' := 378) C at_377 (v := (2 : Int32)) rfl rfl ?_
                    refine Ww.iadd (pc' := 379) C at_378 (v := (3 : Int32)) (by decide) rfl ?_
                    refine Ww.caload (pc' := 380) C at_379 (V35.ext X1586) (by decide) (v := (.int c27)) rfl rfl ?_
                    refine Ww.icmp_ne C at_380 (by decide) (pcT := 387) (by decide) (pc' := 383) rfl (fun q => absurd rfl q) (fun q1599 => ?_)
                    refine Ww.iconst (pc' := 384) C at_383 (v := (1 : Int32)) rfl rfl ?_
                    refine Ww.goto C at_384 (by decide) (pc' := 388) (by decide) ?_
                    refine Ww.istore (pc' := 390) C at_388 (Ls' := #[.val (.int p0), .val (.int p1), .val (.int p2), .val (.int p3), .val (.int p4), .val (.int (4 : Int32)), .val (.int c15), .val (.int c19), .val (.int c23), .val (.int c27), .val (.ref a29), .val (.ref a849), .val (.int (1 : Int32)), .val (.int (4 : Int32)), .val (.int (3 : Int32)), .val (.ref x1570), .val (.int (1 : Int32))]) rfl rfl ?_
                    refine Ww.iload (pc' := 392) C at_390 rfl rfl ?_
                    refine Ww.if_eq C at_392 (by decide) (pcT := 424) (by decide) (pc' := 395) rfl (fun q => absurd q (by decide)) (fun q1600 => ?_)
                    refine Ww.iload (pc' := 397) C at_395 rfl rfl ?_
                    refine Ww.iconst (pc' := 398) C at_397 (v := (3 : Int32)) rfl rfl ?_
                    refine Ww.icmp_le C at_398 (by decide) (pcT := 424) (by decide) (pc' := 401) rfl (fun q1601 => ?_) (fun q => absurd q (by decide))
                    refine Ww.iload (pc' := 426) C at_424 rfl rfl ?_
                    exact Ww.retNar (ty := .boolean) C hE (by simp) at_426 rfl (by decide) (by decide) rfl
                · -- space: False
                  exact absurd q1389 q1553
            · -- space: False
              exact absurd q1535 q1541
          · -- space: False
            refine Ww.if_ne C at_176 (by decide) (pcT := 182) (by decide) (pc' := 179) rfl (fun q => absurd q (by decide)) (fun q1602 => ?_)
            refine Ww.iconst (pc' := 180) C at_179 (v := (0 : Int32)) rfl rfl ?_
            refine Ww.istore (pc' := 182) C at_180 (Ls' := #[.val (.int p0), .val (.int p1), .val (.int p2), .val (.int p3), .val (.int p4), .val (.int (4 : Int32)), .val (.int c15), .val (.int c19), .val (.int c23), .val (.int c27), .val (.ref a29), .val (.ref a849), .val (.int (0 : Int32)), .unset, .unset, .unset, .unset]) rfl rfl ?_
            refine Ww.iload (pc' := 184) C at_182 rfl rfl ?_
            refine Ww.istore (pc' := 186) C at_184 (Ls' := #[.val (.int p0), .val (.int p1), .val (.int p2), .val (.int p3), .val (.int p4), .val (.int (4 : Int32)), .val (.int c15), .val (.int c19), .val (.int c23), .val (.int c27), .val (.ref a29), .val (.ref a849), .val (.int (0 : Int32)), .val (.int (0 : Int32)), .unset, .unset, .unset]) rfl rfl ?_
            refine Ww.iload (pc' := 188) C at_186 rfl rfl ?_
            refine Ww.if_le C at_188 (by decide) (pcT := 202) (by decide) (pc' := 191) rfl (fun q => absurd q (by decide)) (fun q1603 => ?_)
            refine Ww.iload (pc' := 193) C at_191 rfl rfl ?_
            refine Ww.callS (pc' := 196) C at_193 (fun vm0 C => (Wk.Con.pays C (Wn := 0) (own_sp l hw O859 c15) (w58 hw) (w2 hw) (by decide) (by decide))) Wk.cleanC (fun v h' q => Or.inl q.2) (w56 hw) (w57 hw) (w2 hw) (w58 hw) (by decide) (argsL := [(.int c15)]) (st := []) rfl rfl (lenOf pd14 rfl) rfl (Nat.le_of_eq rfl) (k' := 2) rfl (n' := 8) rfl (by decide) (by decide) rfl ?_
            intro r1604 h1605 Q1605 O1605
            obtain ⟨q1607, e1606⟩ := Q1605
            obtain rfl := e1606.symm
            rcases q1607 with ⟨rfl, q1607⟩ | ⟨rfl, q1607⟩
            · -- space: True
              exact absurd q1607 q1535
            · -- space: False
              refine Ww.if_ne C at_196 (by decide) (pcT := 202) (by decide) (pc' := 199) rfl (fun q => absurd q (by decide)) (fun q1608 => ?_)
              refine Ww.iconst (pc' := 200) C at_199 (v := (1 : Int32)) rfl rfl ?_
              refine Ww.istore (pc' := 202) C at_200 (Ls' := #[.val (.int p0), .val (.int p1), .val (.int p2), .val (.int p3), .val (.int p4), .val (.int (4 : Int32)), .val (.int c15), .val (.int c19), .val (.int c23), .val (.int c27), .val (.ref a29), .val (.ref a849), .val (.int (0 : Int32)), .val (.int (1 : Int32)), .unset, .unset, .unset]) rfl rfl ?_
              refine Ww.iload (pc' := 204) C at_202 rfl rfl ?_
              refine Ww.iconst (pc' := 205) C at_204 (v := (1 : Int32)) rfl rfl ?_
              refine Ww.icmp_le C at_205 (by decide) (pcT := 219) (by decide) (pc' := 208) rfl (fun q => absurd q (by decide)) (fun q1609 => ?_)
              refine Ww.iload (pc' := 210) C at_208 rfl rfl ?_
              refine Ww.callS (pc' := 213) C at_210 (fun vm0 C => (Wk.Con.pays C (Wn := 0) (own_sp l hw O859 c19) (w58 hw) (w2 hw) (by decide) (by decide))) Wk.cleanC (fun v h' q => Or.inl q.2) (w56 hw) (w57 hw) (w2 hw) (w58 hw) (by decide) (argsL := [(.int c19)]) (st := []) rfl rfl (lenOf pd14 rfl) rfl (Nat.le_of_eq rfl) (k' := 2) rfl (n' := 8) rfl (by decide) (by decide) rfl ?_
              intro r1610 h1611 Q1611 O1611
              obtain ⟨q1613, e1612⟩ := Q1611
              obtain rfl := e1612.symm
              rcases q1613 with ⟨rfl, q1613⟩ | ⟨rfl, q1613⟩
              · -- space: True
                exact absurd q1613 q1395
              · -- space: False
                refine Ww.if_ne C at_213 (by decide) (pcT := 219) (by decide) (pc' := 216) rfl (fun q => absurd q (by decide)) (fun q1614 => ?_)
                refine Ww.iconst (pc' := 217) C at_216 (v := (2 : Int32)) rfl rfl ?_
                refine Ww.istore (pc' := 219) C at_217 (Ls' := #[.val (.int p0), .val (.int p1), .val (.int p2), .val (.int p3), .val (.int p4), .val (.int (4 : Int32)), .val (.int c15), .val (.int c19), .val (.int c23), .val (.int c27), .val (.ref a29), .val (.ref a849), .val (.int (0 : Int32)), .val (.int (2 : Int32)), .unset, .unset, .unset]) rfl rfl ?_
                refine Ww.iload (pc' := 221) C at_219 rfl rfl ?_
                refine Ww.iconst (pc' := 222) C at_221 (v := (2 : Int32)) rfl rfl ?_
                refine Ww.icmp_le C at_222 (by decide) (pcT := 236) (by decide) (pc' := 225) rfl (fun q => absurd q (by decide)) (fun q1615 => ?_)
                refine Ww.iload (pc' := 227) C at_225 rfl rfl ?_
                refine Ww.callS (pc' := 230) C at_227 (fun vm0 C => (Wk.Con.pays C (Wn := 0) (own_sp l hw O859 c23) (w58 hw) (w2 hw) (by decide) (by decide))) Wk.cleanC (fun v h' q => Or.inl q.2) (w56 hw) (w57 hw) (w2 hw) (w58 hw) (by decide) (argsL := [(.int c23)]) (st := []) rfl rfl (lenOf pd14 rfl) rfl (Nat.le_of_eq rfl) (k' := 2) rfl (n' := 8) rfl (by decide) (by decide) rfl ?_
                intro r1616 h1617 Q1617 O1617
                obtain ⟨q1619, e1618⟩ := Q1617
                obtain rfl := e1618.symm
                rcases q1619 with ⟨rfl, q1619⟩ | ⟨rfl, q1619⟩
                · -- space: True
                  refine Ww.if_ne C at_230 (by decide) (pcT := 236) (by decide) (pc' := 233) rfl (fun q1620 => ?_) (fun q => absurd q (by decide))
                  refine Ww.iload (pc' := 238) C at_236 rfl rfl ?_
                  refine Ww.iconst (pc' := 239) C at_238 (v := (3 : Int32)) rfl rfl ?_
                  refine Ww.icmp_le C at_239 (by decide) (pcT := 253) (by decide) (pc' := 242) rfl (fun q => absurd q (by decide)) (fun q1621 => ?_)
                  refine Ww.iload (pc' := 244) C at_242 rfl rfl ?_
                  refine Ww.callS (pc' := 247) C at_244 (fun vm0 C => (Wk.Con.pays C (Wn := 0) (own_sp l hw O859 c27) (w58 hw) (w2 hw) (by decide) (by decide))) Wk.cleanC (fun v h' q => Or.inl q.2) (w56 hw) (w57 hw) (w2 hw) (w58 hw) (by decide) (argsL := [(.int c27)]) (st := []) rfl rfl (lenOf pd14 rfl) rfl (Nat.le_of_eq rfl) (k' := 2) rfl (n' := 8) rfl (by decide) (by decide) rfl ?_
                  intro r1622 h1623 Q1623 O1623
                  obtain ⟨q1625, e1624⟩ := Q1623
                  obtain rfl := e1624.symm
                  rcases q1625 with ⟨rfl, q1625⟩ | ⟨rfl, q1625⟩
                  · -- space: True
                    exact absurd q1625 q864
                  · -- space: False
                    refine Ww.if_ne C at_247 (by decide) (pcT := 253) (by decide) (pc' := 250) rfl (fun q => absurd q (by decide)) (fun q1626 => ?_)
                    refine Ww.iconst (pc' := 251) C at_250 (v := (4 : Int32)) rfl rfl ?_
                    refine Ww.istore (pc' := 253) C at_251 (Ls' := #[.val (.int p0), .val (.int p1), .val (.int p2), .val (.int p3), .val (.int p4), .val (.int (4 : Int32)), .val (.int c15), .val (.int c19), .val (.int c23), .val (.int c27), .val (.ref a29), .val (.ref a849), .val (.int (0 : Int32)), .val (.int (4 : Int32)), .unset, .unset, .unset]) rfl rfl ?_
                    refine Ww.iload (pc' := 255) C at_253 rfl rfl ?_
                    refine Ww.iload (pc' := 257) C at_255 rfl rfl ?_
                    refine Ww.isub (pc' := 258) C at_257 (v := (4 : Int32)) (by decide) rfl ?_
                    refine Ww.istore (pc' := 260) C at_258 (Ls' := #[.val (.int p0), .val (.int p1), .val (.int p2), .val (.int p3), .val (.int p4), .val (.int (4 : Int32)), .val (.int c15), .val (.int c19), .val (.int c23), .val (.int c27), .val (.ref a29), .val (.ref a849), .val (.int (0 : Int32)), .val (.int (4 : Int32)), .val (.int (4 : Int32)), .unset, .unset]) rfl rfl ?_
                    refine Ww.newO (pc' := 263) C at_260 (w5 hw) (w6 hw) (w7 hw) (k' := 3) rfl (n' := 12) rfl (by decide) (by decide) rfl ?_
                    intro a1627 h1628 ga1627 za1627 E1628 Aa1627 Da1627 Ua1627 O1628
                    have F1629 : Fld Z h1628 a1627 "java/lang/String" "value" "[B" .null := Da1627 (Or.inr (w20 hw)) (ty := (.array .byte)) (by decide)
                    have F1630 : Fld Z h1628 a1627 "java/lang/String" "coder" "B" (.int (0 : Int32)) := Da1627 (Or.inr (w21 hw)) (ty := .byte) (by decide)
                    refine Ww.dup (pc' := 264) C at_263 rfl rfl ?_
                    refine Ww.aload (pc' := 266) C at_264 rfl rfl rfl ?_
                    have hp1631 : ∀ c ∈ ([c15, c19, c23, c27] : List Int32), ¬ c < 0 ∧ ¬ (255 : Int32) < c := (List.forall_mem_cons.mpr ⟨rc15, (List.forall_mem_cons.mpr ⟨rc19, (List.forall_mem_cons.mpr ⟨rc23, (List.forall_mem_cons.mpr ⟨rc27, (fun _ h => nomatch h)⟩)⟩)⟩)⟩)
                    refine Ww.callI (pc' := 269) C at_266 (a := a1627) (fun vm0 C => (strNew C hw hs O1628 (cs := [c15, c19, c23, c27]) (n := 4) (Wn := 1) za1627 Aa1627 F1629 F1630 (V859.ext E1628) rfl (by decide) (by decide) hp1631 (by decide) (by decide))) (strNewC (n := 4) O1628 za1627 rfl (by decide) hp1631) (fun v h' q => Or.inr (Or.inr ⟨a1627, (List.mem_of_getElem? (i := 0) rfl), q.2.1⟩)) rfl (w8 hw) (w9 hw) (w10 hw) (by decide) (argsL := [(.ref a849)]) (st := [(.ref a1627)]) rfl rfl (lenOf pd12 rfl) rfl (Nat.le_of_eq rfl) (k' := 4) rfl (n' := 16) rfl (by decide) (by decide) rfl ?_
                    intro r1632 h1633 Q1633 O1633
                    obtain ⟨rfl, Kh1633, Sh1633⟩ := Q1633
                    refine Ww.callSS (pc' := 272) C at_269 (Ww.Con.pays hE (Wn := 0) (own_wos l hw hE O1633 hs a1627 [c15, c19, c23, c27] Sh1633 (show _ ≤ 4 from Nat.le_of_ble_eq_true rfl)) (w29 hw) (w28 hw) (by decide) (by decide)) Wk.cleanC (w26 hw) (w27 hw) (w28 hw) (w29 hw) (by decide) (argsL := [(.ref a1627)]) (st := []) rfl rfl (lenOf pd13 rfl) rfl (Nat.le_of_eq rfl) (k' := 8) rfl (n' := 28) rfl (by decide) (by decide) rfl ?_
                    intro r1634 h1635 Q1635 O1635
                    obtain ⟨x1636, rfl, E1635, S1635⟩ := Q1635
                    refine Ww.astore (pc' := 274) C at_272 rfl (Ls' := #[.val (.int p0), .val (.int p1), .val (.int p2), .val (.int p3), .val (.int p4), .val (.int (4 : Int32)), .val (.int c15), .val (.int c19), .val (.int c23), .val (.int c27), .val (.ref a29), .val (.ref a849), .val (.int (0 : Int32)), .val (.int (4 : Int32)), .val (.int (4 : Int32)), .val (.ref x1636), .unset]) rfl rfl ?_
                    have hT : trim [c15, c19, c23, c27] = [c15, c19, c23, c27] := by simp [trim, lead, endAt, q1535, q1395, q1389, q864]
                    have G15 : Str Z h1635 x1636 [c15, c19, c23, c27] := hT ▸ S1635
                    refine Ww.aload (pc' := 276) C at_274 rfl rfl rfl ?_
                    refine Ww.callV (pc' := 279) C at_276 (a := x1636) (fun vm0 C => (strLen C hw hs O1635 (Wn := 0) G15 (by decide) (by decide))) (pureC (P := fun v => v = some (.int (Int32.ofNat ([c15, c19, c23, c27] : List Int32).length))) O1635) (fun v h' q => Or.inl q.2) S1635.exa (w55 hw) (w31 hw) (fun vm0 hZ0 => notFace_of_selects (args := #[]) (mvT (s := W.s.setVm vm0) hZ0 (w33 hw))) (w33 hw) (w32 hw) (by decide) (argsL := []) (st := []) rfl rfl (lenOf pd5 rfl) rfl (Nat.le_of_eq rfl) (k' := 8) rfl (n' := 28) rfl (by decide) (by decide) rfl ?_
                    intro r1637 h1638 Q1638 O1638
                    obtain ⟨rfl, e1639⟩ := Q1638
                    obtain rfl := e1639.symm
                    refine Ww.iload (pc' := 281) C at_279 rfl rfl ?_
                    refine Ww.icmp_ne C at_281 (by decide) (pcT := 288) (by decide) (pc' := 284) rfl (fun q => absurd rfl q) (fun q1640 => ?_)
                    refine Ww.iconst (pc' := 285) C at_284 (v := (1 : Int32)) rfl rfl ?_
                    refine Ww.goto C at_285 (by decide) (pc' := 289) (by decide) ?_
                    refine Ww.istore (pc' := 291) C at_289 (Ls' := #[.val (.int p0), .val (.int p1), .val (.int p2), .val (.int p3), .val (.int p4), .val (.int (4 : Int32)), .val (.int c15), .val (.int c19), .val (.int c23), .val (.int c27), .val (.ref a29), .val (.ref a849), .val (.int (0 : Int32)), .val (.int (4 : Int32)), .val (.int (4 : Int32)), .val (.ref x1636), .val (.int (1 : Int32))]) rfl rfl ?_
                    refine Ww.iload (pc' := 293) C at_291 rfl rfl ?_
                    refine Ww.if_eq C at_293 (by decide) (pcT := 322) (by decide) (pc' := 296) rfl (fun q => absurd q (by decide)) (fun q1641 => ?_)
                    refine Ww.iload (pc' := 298) C at_296 rfl rfl ?_
                    refine Ww.if_le C at_298 (by decide) (pcT := 322) (by decide) (pc' := 301) rfl (fun q => absurd q (by decide)) (fun q1642 => ?_)
                    refine Ww.aload (pc' := 303) C at_301 rfl rfl rfl ?_
                    refine Ww.iconst (pc' := 304) C at_303 (v := (0 : Int32)) rfl rfl ?_
                    refine Ww.callV (pc' := 307) C at_304 (a := x1636) (fun vm0 C => (strAt C hw hs O1635 (Wn := 0) (i := 0) G15 (show _ < _ from Nat.le_of_ble_eq_true rfl) rfl (by decide) (by decide))) (pureC (P := fun v => v = some (.int (([c15, c19, c23, c27] : List Int32).getD 0 0))) O1635) (fun v h' q => Or.inl q.2) S1635.exa (w114 hw) (w70 hw) (fun vm0 hZ0 => notFace_of_selects (args := #[]) (mvT (s := W.s.setVm vm0) hZ0 (w72 hw))) (w72 hw) (w71 hw) (by decide) (argsL := [(.int (0 : Int32))]) (st := []) rfl rfl (lenOf pd10 rfl) rfl (Nat.le_of_eq rfl) (k' := 8) rfl (n' := 28) rfl (by decide) (by decide) rfl ?_
                    intro r1643 h1644 Q1644 O1644
                    obtain ⟨rfl, e1645⟩ := Q1644
                    obtain rfl := e1645.symm
                    refine Ww.aload (pc' := 309) C at_307 rfl rfl rfl ?_
                    refine Ww.iload (pc' := 311) C at_309 rfl rfl ?_
                    have X1646 : Ext h35 h853 := Wk.Ext.wr (Z := Z) E850 W853 (Nat.le_of_eq ga849.symm)
                    have X1647 : Ext h35 h855 := Wk.Ext.wr (Z := Z) X1646 W855 (Nat.le_of_eq ga849.symm)
                    have X1648 : Ext h35 h857 := Wk.Ext.wr (Z := Z) X1647 W857 (Nat.le_of_eq ga849.symm)
                    have X1649 : Ext h35 h859 := Wk.Ext.wr (Z := Z) X1648 W859 (Nat.le_of_eq ga849.symm)
                    have X1650 : Ext h35 h1628 := Wk.Ext.trans X1649 E1628
                    have X1651 : Ext h35 h1633 := Wk.Ext.keep1 (Z := Z) X1650 Kh1633 (Nat.le_trans X1649.1 (Nat.le_of_eq ga1627.symm))
                    have X1652 : Ext h35 h1635 := Wk.Ext.trans X1651 E1635
                    refine Ww.caload (pc' := 312) C at_311 (V35.ext X1652) (by decide) (v := (.int c15)) rfl rfl ?_
                    refine Ww.icmp_ne C at_312 (by decide) (pcT := 319) (by decide) (pc' := 315) rfl (fun q => absurd rfl q) (fun q1653 => ?_)
                    refine Ww.iconst (pc' := 316) C at_315 (v := (1 : Int32)) rfl rfl ?_
                    refine Ww.goto C at_316 (by decide) (pc' := 320) (by decide) ?_
                    refine Ww.istore (pc' := 322) C at_320 (Ls' := #[.val (.int p0), .val (.int p1), .val (.int p2), .val (.int p3), .val (.int p4), .val (.int (4 : Int32)), .val (.int c15), .val (.int c19), .val (.int c23), .val (.int c27), .val (.ref a29), .val (.ref a849), .val (.int (0 : Int32)), .val (.int (4 : Int32)), .val (.int (4 : Int32)), .val (.ref x1636), .val (.int (1 : Int32))]) rfl rfl ?_
                    refine Ww.iload (pc' := 324) C at_322 rfl rfl ?_
                    refine Ww.if_eq C at_324 (by decide) (pcT := 356) (by decide) (pc' := 327) rfl (fun q => absurd q (by decide)) (fun q1654 => ?_)
                    refine Ww.iload (pc' := 329) C at_327 rfl rfl ?_
                    refine Ww.iconst (pc' := 330) C at_329 (v := (1 : Int32)) rfl rfl ?_
                    refine Ww.icmp_le C at_330 (by decide) (pcT := 356) (by decide) (pc' := 333) rfl (fun q => absurd q (by decide)) (fun q1655 => ?_)
                    refine Ww.aload (pc' := 335) C at_333 rfl rfl rfl ?_
                    refine Ww.iconst (pc' := 336) C at_335 (v := (1 : Int32)) rfl rfl ?_
                    refine Ww.callV (pc' := 339) C at_336 (a := x1636) (fun vm0 C => (strAt C hw hs O1635 (Wn := 0) (i := 1) G15 (show _ < _ from Nat.le_of_ble_eq_true rfl) rfl (by decide) (by decide))) (pureC (P := fun v => v = some (.int (([c15, c19, c23, c27] : List Int32).getD 1 0))) O1635) (fun v h' q => Or.inl q.2) S1635.exa (w114 hw) (w70 hw) (fun vm0 hZ0 => notFace_of_selects (args := #[]) (mvT (s := W.s.setVm vm0) hZ0 (w72 hw))) (w72 hw) (w71 hw) (by decide) (argsL := [(.int (1 : Int32))]) (st := []) rfl rfl (lenOf pd10 rfl) rfl (Nat.le_of_eq rfl) (k' := 8) rfl (n' := 28) rfl (by decide) (by decide) rfl ?_
                    intro r1656 h1657 Q1657 O1657
                    obtain ⟨rfl, e1658⟩ := Q1657
                    obtain rfl := e1658.symm
                    refine Ww.aload (pc' := 341) C at_339 rfl rfl rfl ?_
                    refine Ww.iload (pc' := 343) C at_341 rfl rfl ?_
                    refine Ww.iconst (pc' := 344) C at_343 (v := (1 : Int32)) rfl rfl ?_
                    refine Ww.iadd (pc' := 345) C at_344 (v := (1 : Int32)) (by decide) rfl ?_
                    refine Ww.caload (pc' := 346) C at_345 (V35.ext X1652) (by decide) (v := (.int c19)) rfl rfl ?_
                    refine Ww.icmp_ne C at_346 (by decide) (pcT := 353) (by decide) (pc' := 349) rfl (fun q => absurd rfl q) (fun q1659 => ?_)
                    refine Ww.iconst (pc' := 350) C at_349 (v := (1 : Int32)) rfl rfl ?_
                    refine Ww.goto C at_350 (by decide) (pc' := 354) (by decide) ?_
                    refine Ww.istore (pc' := 356) C at_354 (Ls' := #[.val (.int p0), .val (.int p1), .val (.int p2), .val (.int p3), .val (.int p4), .val (.int (4 : Int32)), .val (.int c15), .val (.int c19), .val (.int c23), .val (.int c27), .val (.ref a29), .val (.ref a849), .val (.int (0 : Int32)), .val (.int (4 : Int32)), .val (.int (4 : Int32)), .val (.ref x1636), .val (.int (1 : Int32))]) rfl rfl ?_
                    refine Ww.iload (pc' := 358) C at_356 rfl rfl ?_
                    refine Ww.if_eq C at_358 (by decide) (pcT := 390) (by decide) (pc' := 361) rfl (fun q => absurd q (by decide)) (fun q1660 => ?_)
                    refine Ww.iload (pc' := 363) C at_361 rfl rfl ?_
                    refine Ww.iconst (pc' := 364) C at_363 (v := (2 : Int32)) rfl rfl ?_
                    refine Ww.icmp_le C at_364 (by decide) (pcT := 390) (by decide) (pc' := 367) rfl (fun q => absurd q (by decide)) (fun q1661 => ?_)
                    refine Ww.aload (pc' := 369) C at_367 rfl rfl rfl ?_
                    refine Ww.iconst (pc' := 370) C at_369 (v := (2 : Int32)) rfl rfl ?_
                    refine Ww.callV (pc' := 373) C at_370 (a := x1636) (fun vm0 C => (strAt C hw hs O1635 (Wn := 0) (i := 2) G15 (show _ < _ from Nat.le_of_ble_eq_true rfl) rfl (by decide) (by decide))) (pureC (P := fun v => v = some (.int (([c15, c19, c23, c27] : List Int32).getD 2 0))) O1635) (fun v h' q => Or.inl q.2) S1635.exa (w114 hw) (w70 hw) (fun vm0 hZ0 => notFace_of_selects (args := #[]) (mvT (s := W.s.setVm vm0) hZ0 (w72 hw))) (w72 hw) (w71 hw) (by decide) (argsL := [(.int (2 : Int32))]) (st := []) rfl rfl (lenOf pd10 rfl) rfl (Nat.le_of_eq rfl) (k' := 8) rfl (n' := 28) rfl (by decide) (by decide) rfl ?_
                    intro r1662 h1663 Q1663 O1663
                    obtain ⟨rfl, e1664⟩ := Q1663
                    obtain rfl := e1664.symm
                    refine Ww.aload (pc' := 375) C at_373 rfl rfl rfl ?_
                    refine Ww.iload (pc' := 377) C at_375 rfl rfl ?_
                    refine Ww.iconst (pc' := 378) C at_377 (v := (2 : Int32)) rfl rfl ?_
                    refine Ww.iadd (pc' := 379) C at_378 (v := (2 : Int32)) (by decide) rfl ?_
                    refine Ww.caload (pc' := 380) C at_379 (V35.ext X1652) (by decide) (v := (.int c23)) rfl rfl ?_
                    refine Ww.icmp_ne C at_380 (by decide) (pcT := 387) (by decide) (pc' := 383) rfl (fun q => absurd rfl q) (fun q1665 => ?_)
                    refine Ww.iconst (pc' := 384) C at_383 (v := (1 : Int32)) rfl rfl ?_
                    refine Ww.goto C at_384 (by decide) (pc' := 388) (by decide) ?_
                    refine Ww.istore (pc' := 390) C at_388 (Ls' := #[.val (.int p0), .val (.int p1), .val (.int p2), .val (.int p3), .val (.int p4), .val (.int (4 : Int32)), .val (.int c15), .val (.int c19), .val (.int c23), .val (.int c27), .val (.ref a29), .val (.ref a849), .val (.int (0 : Int32)), .val (.int (4 : Int32)), .val (.int (4 : Int32)), .val (.ref x1636), .val (.int (1 : Int32))]) rfl rfl ?_
                    refine Ww.iload (pc' := 392) C at_390 rfl rfl ?_
                    refine Ww.if_eq C at_392 (by decide) (pcT := 424) (by decide) (pc' := 395) rfl (fun q => absurd q (by decide)) (fun q1666 => ?_)
                    refine Ww.iload (pc' := 397) C at_395 rfl rfl ?_
                    refine Ww.iconst (pc' := 398) C at_397 (v := (3 : Int32)) rfl rfl ?_
                    refine Ww.icmp_le C at_398 (by decide) (pcT := 424) (by decide) (pc' := 401) rfl (fun q => absurd q (by decide)) (fun q1667 => ?_)
                    refine Ww.aload (pc' := 403) C at_401 rfl rfl rfl ?_
                    refine Ww.iconst (pc' := 404) C at_403 (v := (3 : Int32)) rfl rfl ?_
                    refine Ww.callV (pc' := 407) C at_404 (a := x1636) (fun vm0 C => (strAt C hw hs O1635 (Wn := 0) (i := 3) G15 (show _ < _ from Nat.le_of_ble_eq_true rfl) rfl (by decide) (by decide))) (pureC (P := fun v => v = some (.int (([c15, c19, c23, c27] : List Int32).getD 3 0))) O1635) (fun v h' q => Or.inl q.2) S1635.exa (w114 hw) (w70 hw) (fun vm0 hZ0 => notFace_of_selects (args := #[]) (mvT (s := W.s.setVm vm0) hZ0 (w72 hw))) (w72 hw) (w71 hw) (by decide) (argsL := [(.int (3 : Int32))]) (st := []) rfl rfl (lenOf pd10 rfl) rfl (Nat.le_of_eq rfl) (k' := 8) rfl (n' := 28) rfl (by decide) (by decide) rfl ?_
                    intro r1668 h1669 Q1669 O1669
                    obtain ⟨rfl, e1670⟩ := Q1669
                    obtain rfl := e1670.symm
                    refine Ww.aload (pc' := 409) C at_407 rfl rfl rfl ?_
                    refine Ww.iload (pc' := 411) C at_409 rfl rfl ?_
                    refine Ww.iconst (pc' := 412) C at_411 (v := (3 : Int32)) rfl rfl ?_
                    refine Ww.iadd (pc' := 413) C at_412 (v := (3 : Int32)) (by decide) rfl ?_
                    refine Ww.caload (pc' := 414) C at_413 (V35.ext X1652) (by decide) (v := (.int c27)) rfl rfl ?_
                    refine Ww.icmp_ne C at_414 (by decide) (pcT := 421) (by decide) (pc' := 417) rfl (fun q => absurd rfl q) (fun q1671 => ?_)
                    refine Ww.iconst (pc' := 418) C at_417 (v := (1 : Int32)) rfl rfl ?_
                    refine Ww.goto C at_418 (by decide) (pc' := 422) (by decide) ?_
                    refine Ww.istore (pc' := 424) C at_422 (Ls' := #[.val (.int p0), .val (.int p1), .val (.int p2), .val (.int p3), .val (.int p4), .val (.int (4 : Int32)), .val (.int c15), .val (.int c19), .val (.int c23), .val (.int c27), .val (.ref a29), .val (.ref a849), .val (.int (0 : Int32)), .val (.int (4 : Int32)), .val (.int (4 : Int32)), .val (.ref x1636), .val (.int (1 : Int32))]) rfl rfl ?_
                    refine Ww.iload (pc' := 426) C at_424 rfl rfl ?_
                    exact Ww.retNar (ty := .boolean) C hE (by simp) at_426 rfl (by decide) (by decide) rfl
                · -- space: False
                  exact absurd q1389 q1619
      · -- space: False
        refine Ww.if_ne C at_143 (by decide) (pcT := 149) (by decide) (pc' := 146) rfl (fun q => absurd q (by decide)) (fun q1672 => ?_)
        refine Ww.iconst (pc' := 147) C at_146 (v := (2 : Int32)) rfl rfl ?_
        refine Ww.istore (pc' := 149) C at_147 (Ls' := #[.val (.int p0), .val (.int p1), .val (.int p2), .val (.int p3), .val (.int p4), .val (.int (4 : Int32)), .val (.int c15), .val (.int c19), .val (.int c23), .val (.int c27), .val (.ref a29), .val (.ref a849), .val (.int (2 : Int32)), .unset, .unset, .unset, .unset]) rfl rfl ?_
        refine Ww.iload (pc' := 151) C at_149 rfl rfl ?_
        refine Ww.iconst (pc' := 152) C at_151 (v := (1 : Int32)) rfl rfl ?_
        refine Ww.icmp_le C at_152 (by decide) (pcT := 166) (by decide) (pc' := 155) rfl (fun q => absurd q (by decide)) (fun q1673 => ?_)
        refine Ww.iload (pc' := 157) C at_155 rfl rfl ?_
        refine Ww.callS (pc' := 160) C at_157 (fun vm0 C => (Wk.Con.pays C (Wn := 0) (own_sp l hw O859 c19) (w58 hw) (w2 hw) (by decide) (by decide))) Wk.cleanC (fun v h' q => Or.inl q.2) (w56 hw) (w57 hw) (w2 hw) (w58 hw) (by decide) (argsL := [(.int c19)]) (st := []) rfl rfl (lenOf pd14 rfl) rfl (Nat.le_of_eq rfl) (k' := 2) rfl (n' := 8) rfl (by decide) (by decide) rfl ?_
        intro r1674 h1675 Q1675 O1675
        obtain ⟨q1677, e1676⟩ := Q1675
        obtain rfl := e1676.symm
        rcases q1677 with ⟨rfl, q1677⟩ | ⟨rfl, q1677⟩
        · -- space: True
          refine Ww.if_ne C at_160 (by decide) (pcT := 166) (by decide) (pc' := 163) rfl (fun q1678 => ?_) (fun q => absurd q (by decide))
          refine Ww.iload (pc' := 168) C at_166 rfl rfl ?_
          refine Ww.if_le C at_168 (by decide) (pcT := 182) (by decide) (pc' := 171) rfl (fun q => absurd q (by decide)) (fun q1679 => ?_)
          refine Ww.iload (pc' := 173) C at_171 rfl rfl ?_
          refine Ww.callS (pc' := 176) C at_173 (fun vm0 C => (Wk.Con.pays C (Wn := 0) (own_sp l hw O859 c15) (w58 hw) (w2 hw) (by decide) (by decide))) Wk.cleanC (fun v h' q => Or.inl q.2) (w56 hw) (w57 hw) (w2 hw) (w58 hw) (by decide) (argsL := [(.int c15)]) (st := []) rfl rfl (lenOf pd14 rfl) rfl (Nat.le_of_eq rfl) (k' := 2) rfl (n' := 8) rfl (by decide) (by decide) rfl ?_
          intro r1680 h1681 Q1681 O1681
          obtain ⟨q1683, e1682⟩ := Q1681
          obtain rfl := e1682.symm
          rcases q1683 with ⟨rfl, q1683⟩ | ⟨rfl, q1683⟩
          · -- space: True
            refine Ww.if_ne C at_176 (by decide) (pcT := 182) (by decide) (pc' := 179) rfl (fun q1684 => ?_) (fun q => absurd q (by decide))
            refine Ww.iload (pc' := 184) C at_182 rfl rfl ?_
            refine Ww.istore (pc' := 186) C at_184 (Ls' := #[.val (.int p0), .val (.int p1), .val (.int p2), .val (.int p3), .val (.int p4), .val (.int (4 : Int32)), .val (.int c15), .val (.int c19), .val (.int c23), .val (.int c27), .val (.ref a29), .val (.ref a849), .val (.int (2 : Int32)), .val (.int (2 : Int32)), .unset, .unset, .unset]) rfl rfl ?_
            refine Ww.iload (pc' := 188) C at_186 rfl rfl ?_
            refine Ww.if_le C at_188 (by decide) (pcT := 202) (by decide) (pc' := 191) rfl (fun q => absurd q (by decide)) (fun q1685 => ?_)
            refine Ww.iload (pc' := 193) C at_191 rfl rfl ?_
            refine Ww.callS (pc' := 196) C at_193 (fun vm0 C => (Wk.Con.pays C (Wn := 0) (own_sp l hw O859 c15) (w58 hw) (w2 hw) (by decide) (by decide))) Wk.cleanC (fun v h' q => Or.inl q.2) (w56 hw) (w57 hw) (w2 hw) (w58 hw) (by decide) (argsL := [(.int c15)]) (st := []) rfl rfl (lenOf pd14 rfl) rfl (Nat.le_of_eq rfl) (k' := 2) rfl (n' := 8) rfl (by decide) (by decide) rfl ?_
            intro r1686 h1687 Q1687 O1687
            obtain ⟨q1689, e1688⟩ := Q1687
            obtain rfl := e1688.symm
            rcases q1689 with ⟨rfl, q1689⟩ | ⟨rfl, q1689⟩
            · -- space: True
              refine Ww.if_ne C at_196 (by decide) (pcT := 202) (by decide) (pc' := 199) rfl (fun q1690 => ?_) (fun q => absurd q (by decide))
              refine Ww.iload (pc' := 204) C at_202 rfl rfl ?_
              refine Ww.iconst (pc' := 205) C at_204 (v := (1 : Int32)) rfl rfl ?_
              refine Ww.icmp_le C at_205 (by decide) (pcT := 219) (by decide) (pc' := 208) rfl (fun q => absurd q (by decide)) (fun q1691 => ?_)
              refine Ww.iload (pc' := 210) C at_208 rfl rfl ?_
              refine Ww.callS (pc' := 213) C at_210 (fun vm0 C => (Wk.Con.pays C (Wn := 0) (own_sp l hw O859 c19) (w58 hw) (w2 hw) (by decide) (by decide))) Wk.cleanC (fun v h' q => Or.inl q.2) (w56 hw) (w57 hw) (w2 hw) (w58 hw) (by decide) (argsL := [(.int c19)]) (st := []) rfl rfl (lenOf pd14 rfl) rfl (Nat.le_of_eq rfl) (k' := 2) rfl (n' := 8) rfl (by decide) (by decide) rfl ?_
              intro r1692 h1693 Q1693 O1693
              obtain ⟨q1695, e1694⟩ := Q1693
              obtain rfl := e1694.symm
              rcases q1695 with ⟨rfl, q1695⟩ | ⟨rfl, q1695⟩
              · -- space: True
                refine Ww.if_ne C at_213 (by decide) (pcT := 219) (by decide) (pc' := 216) rfl (fun q1696 => ?_) (fun q => absurd q (by decide))
                refine Ww.iload (pc' := 221) C at_219 rfl rfl ?_
                refine Ww.iconst (pc' := 222) C at_221 (v := (2 : Int32)) rfl rfl ?_
                refine Ww.icmp_le C at_222 (by decide) (pcT := 236) (by decide) (pc' := 225) rfl (fun q => absurd q (by decide)) (fun q1697 => ?_)
                refine Ww.iload (pc' := 227) C at_225 rfl rfl ?_
                refine Ww.callS (pc' := 230) C at_227 (fun vm0 C => (Wk.Con.pays C (Wn := 0) (own_sp l hw O859 c23) (w58 hw) (w2 hw) (by decide) (by decide))) Wk.cleanC (fun v h' q => Or.inl q.2) (w56 hw) (w57 hw) (w2 hw) (w58 hw) (by decide) (argsL := [(.int c23)]) (st := []) rfl rfl (lenOf pd14 rfl) rfl (Nat.le_of_eq rfl) (k' := 2) rfl (n' := 8) rfl (by decide) (by decide) rfl ?_
                intro r1698 h1699 Q1699 O1699
                obtain ⟨q1701, e1700⟩ := Q1699
                obtain rfl := e1700.symm
                rcases q1701 with ⟨rfl, q1701⟩ | ⟨rfl, q1701⟩
                · -- space: True
                  exact absurd q1701 q1389
                · -- space: False
                  refine Ww.if_ne C at_230 (by decide) (pcT := 236) (by decide) (pc' := 233) rfl (fun q => absurd q (by decide)) (fun q1702 => ?_)
                  refine Ww.iconst (pc' := 234) C at_233 (v := (3 : Int32)) rfl rfl ?_
                  refine Ww.istore (pc' := 236) C at_234 (Ls' := #[.val (.int p0), .val (.int p1), .val (.int p2), .val (.int p3), .val (.int p4), .val (.int (4 : Int32)), .val (.int c15), .val (.int c19), .val (.int c23), .val (.int c27), .val (.ref a29), .val (.ref a849), .val (.int (2 : Int32)), .val (.int (3 : Int32)), .unset, .unset, .unset]) rfl rfl ?_
                  refine Ww.iload (pc' := 238) C at_236 rfl rfl ?_
                  refine Ww.iconst (pc' := 239) C at_238 (v := (3 : Int32)) rfl rfl ?_
                  refine Ww.icmp_le C at_239 (by decide) (pcT := 253) (by decide) (pc' := 242) rfl (fun q => absurd q (by decide)) (fun q1703 => ?_)
                  refine Ww.iload (pc' := 244) C at_242 rfl rfl ?_
                  refine Ww.callS (pc' := 247) C at_244 (fun vm0 C => (Wk.Con.pays C (Wn := 0) (own_sp l hw O859 c27) (w58 hw) (w2 hw) (by decide) (by decide))) Wk.cleanC (fun v h' q => Or.inl q.2) (w56 hw) (w57 hw) (w2 hw) (w58 hw) (by decide) (argsL := [(.int c27)]) (st := []) rfl rfl (lenOf pd14 rfl) rfl (Nat.le_of_eq rfl) (k' := 2) rfl (n' := 8) rfl (by decide) (by decide) rfl ?_
                  intro r1704 h1705 Q1705 O1705
                  obtain ⟨q1707, e1706⟩ := Q1705
                  obtain rfl := e1706.symm
                  rcases q1707 with ⟨rfl, q1707⟩ | ⟨rfl, q1707⟩
                  · -- space: True
                    exact absurd q1707 q864
                  · -- space: False
                    refine Ww.if_ne C at_247 (by decide) (pcT := 253) (by decide) (pc' := 250) rfl (fun q => absurd q (by decide)) (fun q1708 => ?_)
                    refine Ww.iconst (pc' := 251) C at_250 (v := (4 : Int32)) rfl rfl ?_
                    refine Ww.istore (pc' := 253) C at_251 (Ls' := #[.val (.int p0), .val (.int p1), .val (.int p2), .val (.int p3), .val (.int p4), .val (.int (4 : Int32)), .val (.int c15), .val (.int c19), .val (.int c23), .val (.int c27), .val (.ref a29), .val (.ref a849), .val (.int (2 : Int32)), .val (.int (4 : Int32)), .unset, .unset, .unset]) rfl rfl ?_
                    refine Ww.iload (pc' := 255) C at_253 rfl rfl ?_
                    refine Ww.iload (pc' := 257) C at_255 rfl rfl ?_
                    refine Ww.isub (pc' := 258) C at_257 (v := (2 : Int32)) (by decide) rfl ?_
                    refine Ww.istore (pc' := 260) C at_258 (Ls' := #[.val (.int p0), .val (.int p1), .val (.int p2), .val (.int p3), .val (.int p4), .val (.int (4 : Int32)), .val (.int c15), .val (.int c19), .val (.int c23), .val (.int c27), .val (.ref a29), .val (.ref a849), .val (.int (2 : Int32)), .val (.int (4 : Int32)), .val (.int (2 : Int32)), .unset, .unset]) rfl rfl ?_
                    refine Ww.newO (pc' := 263) C at_260 (w5 hw) (w6 hw) (w7 hw) (k' := 3) rfl (n' := 12) rfl (by decide) (by decide) rfl ?_
                    intro a1709 h1710 ga1709 za1709 E1710 Aa1709 Da1709 Ua1709 O1710
                    have F1711 : Fld Z h1710 a1709 "java/lang/String" "value" "[B" .null := Da1709 (Or.inr (w20 hw)) (ty := (.array .byte)) (by decide)
                    have F1712 : Fld Z h1710 a1709 "java/lang/String" "coder" "B" (.int (0 : Int32)) := Da1709 (Or.inr (w21 hw)) (ty := .byte) (by decide)
                    refine Ww.dup (pc' := 264) C at_263 rfl rfl ?_
                    refine Ww.aload (pc' := 266) C at_264 rfl rfl rfl ?_
                    have hp1713 : ∀ c ∈ ([c15, c19, c23, c27] : List Int32), ¬ c < 0 ∧ ¬ (255 : Int32) < c := (List.forall_mem_cons.mpr ⟨rc15, (List.forall_mem_cons.mpr ⟨rc19, (List.forall_mem_cons.mpr ⟨rc23, (List.forall_mem_cons.mpr ⟨rc27, (fun _ h => nomatch h)⟩)⟩)⟩)⟩)
                    refine Ww.callI (pc' := 269) C at_266 (a := a1709) (fun vm0 C => (strNew C hw hs O1710 (cs := [c15, c19, c23, c27]) (n := 4) (Wn := 1) za1709 Aa1709 F1711 F1712 (V859.ext E1710) rfl (by decide) (by decide) hp1713 (by decide) (by decide))) (strNewC (n := 4) O1710 za1709 rfl (by decide) hp1713) (fun v h' q => Or.inr (Or.inr ⟨a1709, (List.mem_of_getElem? (i := 0) rfl), q.2.1⟩)) rfl (w8 hw) (w9 hw) (w10 hw) (by decide) (argsL := [(.ref a849)]) (st := [(.ref a1709)]) rfl rfl (lenOf pd12 rfl) rfl (Nat.le_of_eq rfl) (k' := 4) rfl (n' := 16) rfl (by decide) (by decide) rfl ?_
                    intro r1714 h1715 Q1715 O1715
                    obtain ⟨rfl, Kh1715, Sh1715⟩ := Q1715
                    refine Ww.callSS (pc' := 272) C at_269 (Ww.Con.pays hE (Wn := 0) (own_wos l hw hE O1715 hs a1709 [c15, c19, c23, c27] Sh1715 (show _ ≤ 4 from Nat.le_of_ble_eq_true rfl)) (w29 hw) (w28 hw) (by decide) (by decide)) Wk.cleanC (w26 hw) (w27 hw) (w28 hw) (w29 hw) (by decide) (argsL := [(.ref a1709)]) (st := []) rfl rfl (lenOf pd13 rfl) rfl (Nat.le_of_eq rfl) (k' := 8) rfl (n' := 28) rfl (by decide) (by decide) rfl ?_
                    intro r1716 h1717 Q1717 O1717
                    obtain ⟨x1718, rfl, E1717, S1717⟩ := Q1717
                    refine Ww.astore (pc' := 274) C at_272 rfl (Ls' := #[.val (.int p0), .val (.int p1), .val (.int p2), .val (.int p3), .val (.int p4), .val (.int (4 : Int32)), .val (.int c15), .val (.int c19), .val (.int c23), .val (.int c27), .val (.ref a29), .val (.ref a849), .val (.int (2 : Int32)), .val (.int (4 : Int32)), .val (.int (2 : Int32)), .val (.ref x1718), .unset]) rfl rfl ?_
                    have hT : trim [c15, c19, c23, c27] = [c23, c27] := by simp [trim, lead, endAt, q1683, q1677, q1389, q864]
                    have G15 : Str Z h1717 x1718 [c23, c27] := hT ▸ S1717
                    refine Ww.aload (pc' := 276) C at_274 rfl rfl rfl ?_
                    refine Ww.callV (pc' := 279) C at_276 (a := x1718) (fun vm0 C => (strLen C hw hs O1717 (Wn := 0) G15 (by decide) (by decide))) (pureC (P := fun v => v = some (.int (Int32.ofNat ([c23, c27] : List Int32).length))) O1717) (fun v h' q => Or.inl q.2) S1717.exa (w55 hw) (w31 hw) (fun vm0 hZ0 => notFace_of_selects (args := #[]) (mvT (s := W.s.setVm vm0) hZ0 (w33 hw))) (w33 hw) (w32 hw) (by decide) (argsL := []) (st := []) rfl rfl (lenOf pd5 rfl) rfl (Nat.le_of_eq rfl) (k' := 8) rfl (n' := 28) rfl (by decide) (by decide) rfl ?_
                    intro r1719 h1720 Q1720 O1720
                    obtain ⟨rfl, e1721⟩ := Q1720
                    obtain rfl := e1721.symm
                    refine Ww.iload (pc' := 281) C at_279 rfl rfl ?_
                    refine Ww.icmp_ne C at_281 (by decide) (pcT := 288) (by decide) (pc' := 284) rfl (fun q => absurd rfl q) (fun q1722 => ?_)
                    refine Ww.iconst (pc' := 285) C at_284 (v := (1 : Int32)) rfl rfl ?_
                    refine Ww.goto C at_285 (by decide) (pc' := 289) (by decide) ?_
                    refine Ww.istore (pc' := 291) C at_289 (Ls' := #[.val (.int p0), .val (.int p1), .val (.int p2), .val (.int p3), .val (.int p4), .val (.int (4 : Int32)), .val (.int c15), .val (.int c19), .val (.int c23), .val (.int c27), .val (.ref a29), .val (.ref a849), .val (.int (2 : Int32)), .val (.int (4 : Int32)), .val (.int (2 : Int32)), .val (.ref x1718), .val (.int (1 : Int32))]) rfl rfl ?_
                    refine Ww.iload (pc' := 293) C at_291 rfl rfl ?_
                    refine Ww.if_eq C at_293 (by decide) (pcT := 322) (by decide) (pc' := 296) rfl (fun q => absurd q (by decide)) (fun q1723 => ?_)
                    refine Ww.iload (pc' := 298) C at_296 rfl rfl ?_
                    refine Ww.if_le C at_298 (by decide) (pcT := 322) (by decide) (pc' := 301) rfl (fun q => absurd q (by decide)) (fun q1724 => ?_)
                    refine Ww.aload (pc' := 303) C at_301 rfl rfl rfl ?_
                    refine Ww.iconst (pc' := 304) C at_303 (v := (0 : Int32)) rfl rfl ?_
                    refine Ww.callV (pc' := 307) C at_304 (a := x1718) (fun vm0 C => (strAt C hw hs O1717 (Wn := 0) (i := 0) G15 (show _ < _ from Nat.le_of_ble_eq_true rfl) rfl (by decide) (by decide))) (pureC (P := fun v => v = some (.int (([c23, c27] : List Int32).getD 0 0))) O1717) (fun v h' q => Or.inl q.2) S1717.exa (w114 hw) (w70 hw) (fun vm0 hZ0 => notFace_of_selects (args := #[]) (mvT (s := W.s.setVm vm0) hZ0 (w72 hw))) (w72 hw) (w71 hw) (by decide) (argsL := [(.int (0 : Int32))]) (st := []) rfl rfl (lenOf pd10 rfl) rfl (Nat.le_of_eq rfl) (k' := 8) rfl (n' := 28) rfl (by decide) (by decide) rfl ?_
                    intro r1725 h1726 Q1726 O1726
                    obtain ⟨rfl, e1727⟩ := Q1726
                    obtain rfl := e1727.symm
                    refine Ww.aload (pc' := 309) C at_307 rfl rfl rfl ?_
                    refine Ww.iload (pc' := 311) C at_309 rfl rfl ?_
                    have X1728 : Ext h35 h853 := Wk.Ext.wr (Z := Z) E850 W853 (Nat.le_of_eq ga849.symm)
                    have X1729 : Ext h35 h855 := Wk.Ext.wr (Z := Z) X1728 W855 (Nat.le_of_eq ga849.symm)
                    have X1730 : Ext h35 h857 := Wk.Ext.wr (Z := Z) X1729 W857 (Nat.le_of_eq ga849.symm)
                    have X1731 : Ext h35 h859 := Wk.Ext.wr (Z := Z) X1730 W859 (Nat.le_of_eq ga849.symm)
                    have X1732 : Ext h35 h1710 := Wk.Ext.trans X1731 E1710
                    have X1733 : Ext h35 h1715 := Wk.Ext.keep1 (Z := Z) X1732 Kh1715 (Nat.le_trans X1731.1 (Nat.le_of_eq ga1709.symm))
                    have X1734 : Ext h35 h1717 := Wk.Ext.trans X1733 E1717
                    refine Ww.caload (pc' := 312) C at_311 (V35.ext X1734) (by decide) (v := (.int c23)) rfl rfl ?_
                    refine Ww.icmp_ne C at_312 (by decide) (pcT := 319) (by decide) (pc' := 315) rfl (fun q => absurd rfl q) (fun q1735 => ?_)
                    refine Ww.iconst (pc' := 316) C at_315 (v := (1 : Int32)) rfl rfl ?_
                    refine Ww.goto C at_316 (by decide) (pc' := 320) (by decide) ?_
                    refine Ww.istore (pc' := 322) C at_320 (Ls' := #[.val (.int p0), .val (.int p1), .val (.int p2), .val (.int p3), .val (.int p4), .val (.int (4 : Int32)), .val (.int c15), .val (.int c19), .val (.int c23), .val (.int c27), .val (.ref a29), .val (.ref a849), .val (.int (2 : Int32)), .val (.int (4 : Int32)), .val (.int (2 : Int32)), .val (.ref x1718), .val (.int (1 : Int32))]) rfl rfl ?_
                    refine Ww.iload (pc' := 324) C at_322 rfl rfl ?_
                    refine Ww.if_eq C at_324 (by decide) (pcT := 356) (by decide) (pc' := 327) rfl (fun q => absurd q (by decide)) (fun q1736 => ?_)
                    refine Ww.iload (pc' := 329) C at_327 rfl rfl ?_
                    refine Ww.iconst (pc' := 330) C at_329 (v := (1 : Int32)) rfl rfl ?_
                    refine Ww.icmp_le C at_330 (by decide) (pcT := 356) (by decide) (pc' := 333) rfl (fun q => absurd q (by decide)) (fun q1737 => ?_)
                    refine Ww.aload (pc' := 335) C at_333 rfl rfl rfl ?_
                    refine Ww.iconst (pc' := 336) C at_335 (v := (1 : Int32)) rfl rfl ?_
                    refine Ww.callV (pc' := 339) C at_336 (a := x1718) (fun vm0 C => (strAt C hw hs O1717 (Wn := 0) (i := 1) G15 (show _ < _ from Nat.le_of_ble_eq_true rfl) rfl (by decide) (by decide))) (pureC (P := fun v => v = some (.int (([c23, c27] : List Int32).getD 1 0))) O1717) (fun v h' q => Or.inl q.2) S1717.exa (w114 hw) (w70 hw) (fun vm0 hZ0 => notFace_of_selects (args := #[]) (mvT (s := W.s.setVm vm0) hZ0 (w72 hw))) (w72 hw) (w71 hw) (by decide) (argsL := [(.int (1 : Int32))]) (st := []) rfl rfl (lenOf pd10 rfl) rfl (Nat.le_of_eq rfl) (k' := 8) rfl (n' := 28) rfl (by decide) (by decide) rfl ?_
                    intro r1738 h1739 Q1739 O1739
                    obtain ⟨rfl, e1740⟩ := Q1739
                    obtain rfl := e1740.symm
                    refine Ww.aload (pc' := 341) C at_339 rfl rfl rfl ?_
                    refine Ww.iload (pc' := 343) C at_341 rfl rfl ?_
                    refine Ww.iconst (pc' := 344) C at_343 (v := (1 : Int32)) rfl rfl ?_
                    refine Ww.iadd (pc' := 345) C at_344 (v := (3 : Int32)) (by decide) rfl ?_
                    refine Ww.caload (pc' := 346) C at_345 (V35.ext X1734) (by decide) (v := (.int c27)) rfl rfl ?_
                    refine Ww.icmp_ne C at_346 (by decide) (pcT := 353) (by decide) (pc' := 349) rfl (fun q => absurd rfl q) (fun q1741 => ?_)
                    refine Ww.iconst (pc' := 350) C at_349 (v := (1 : Int32)) rfl rfl ?_
                    refine Ww.goto C at_350 (by decide) (pc' := 354) (by decide) ?_
                    refine Ww.istore (pc' := 356) C at_354 (Ls' := #[.val (.int p0), .val (.int p1), .val (.int p2), .val (.int p3), .val (.int p4), .val (.int (4 : Int32)), .val (.int c15), .val (.int c19), .val (.int c23), .val (.int c27), .val (.ref a29), .val (.ref a849), .val (.int (2 : Int32)), .val (.int (4 : Int32)), .val (.int (2 : Int32)), .val (.ref x1718), .val (.int (1 : Int32))]) rfl rfl ?_
                    refine Ww.iload (pc' := 358) C at_356 rfl rfl ?_
                    refine Ww.if_eq C at_358 (by decide) (pcT := 390) (by decide) (pc' := 361) rfl (fun q => absurd q (by decide)) (fun q1742 => ?_)
                    refine Ww.iload (pc' := 363) C at_361 rfl rfl ?_
                    refine Ww.iconst (pc' := 364) C at_363 (v := (2 : Int32)) rfl rfl ?_
                    refine Ww.icmp_le C at_364 (by decide) (pcT := 390) (by decide) (pc' := 367) rfl (fun q1743 => ?_) (fun q => absurd q (by decide))
                    refine Ww.iload (pc' := 392) C at_390 rfl rfl ?_
                    refine Ww.if_eq C at_392 (by decide) (pcT := 424) (by decide) (pc' := 395) rfl (fun q => absurd q (by decide)) (fun q1744 => ?_)
                    refine Ww.iload (pc' := 397) C at_395 rfl rfl ?_
                    refine Ww.iconst (pc' := 398) C at_397 (v := (3 : Int32)) rfl rfl ?_
                    refine Ww.icmp_le C at_398 (by decide) (pcT := 424) (by decide) (pc' := 401) rfl (fun q1745 => ?_) (fun q => absurd q (by decide))
                    refine Ww.iload (pc' := 426) C at_424 rfl rfl ?_
                    exact Ww.retNar (ty := .boolean) C hE (by simp) at_426 rfl (by decide) (by decide) rfl
              · -- space: False
                exact absurd q1677 q1695
            · -- space: False
              exact absurd q1683 q1689
          · -- space: False
            refine Ww.if_ne C at_176 (by decide) (pcT := 182) (by decide) (pc' := 179) rfl (fun q => absurd q (by decide)) (fun q1746 => ?_)
            refine Ww.iconst (pc' := 180) C at_179 (v := (0 : Int32)) rfl rfl ?_
            refine Ww.istore (pc' := 182) C at_180 (Ls' := #[.val (.int p0), .val (.int p1), .val (.int p2), .val (.int p3), .val (.int p4), .val (.int (4 : Int32)), .val (.int c15), .val (.int c19), .val (.int c23), .val (.int c27), .val (.ref a29), .val (.ref a849), .val (.int (0 : Int32)), .unset, .unset, .unset, .unset]) rfl rfl ?_
            refine Ww.iload (pc' := 184) C at_182 rfl rfl ?_
            refine Ww.istore (pc' := 186) C at_184 (Ls' := #[.val (.int p0), .val (.int p1), .val (.int p2), .val (.int p3), .val (.int p4), .val (.int (4 : Int32)), .val (.int c15), .val (.int c19), .val (.int c23), .val (.int c27), .val (.ref a29), .val (.ref a849), .val (.int (0 : Int32)), .val (.int (0 : Int32)), .unset, .unset, .unset]) rfl rfl ?_
            refine Ww.iload (pc' := 188) C at_186 rfl rfl ?_
            refine Ww.if_le C at_188 (by decide) (pcT := 202) (by decide) (pc' := 191) rfl (fun q => absurd q (by decide)) (fun q1747 => ?_)
            refine Ww.iload (pc' := 193) C at_191 rfl rfl ?_
            refine Ww.callS (pc' := 196) C at_193 (fun vm0 C => (Wk.Con.pays C (Wn := 0) (own_sp l hw O859 c15) (w58 hw) (w2 hw) (by decide) (by decide))) Wk.cleanC (fun v h' q => Or.inl q.2) (w56 hw) (w57 hw) (w2 hw) (w58 hw) (by decide) (argsL := [(.int c15)]) (st := []) rfl rfl (lenOf pd14 rfl) rfl (Nat.le_of_eq rfl) (k' := 2) rfl (n' := 8) rfl (by decide) (by decide) rfl ?_
            intro r1748 h1749 Q1749 O1749
            obtain ⟨q1751, e1750⟩ := Q1749
            obtain rfl := e1750.symm
            rcases q1751 with ⟨rfl, q1751⟩ | ⟨rfl, q1751⟩
            · -- space: True
              exact absurd q1751 q1683
            · -- space: False
              refine Ww.if_ne C at_196 (by decide) (pcT := 202) (by decide) (pc' := 199) rfl (fun q => absurd q (by decide)) (fun q1752 => ?_)
              refine Ww.iconst (pc' := 200) C at_199 (v := (1 : Int32)) rfl rfl ?_
              refine Ww.istore (pc' := 202) C at_200 (Ls' := #[.val (.int p0), .val (.int p1), .val (.int p2), .val (.int p3), .val (.int p4), .val (.int (4 : Int32)), .val (.int c15), .val (.int c19), .val (.int c23), .val (.int c27), .val (.ref a29), .val (.ref a849), .val (.int (0 : Int32)), .val (.int (1 : Int32)), .unset, .unset, .unset]) rfl rfl ?_
              refine Ww.iload (pc' := 204) C at_202 rfl rfl ?_
              refine Ww.iconst (pc' := 205) C at_204 (v := (1 : Int32)) rfl rfl ?_
              refine Ww.icmp_le C at_205 (by decide) (pcT := 219) (by decide) (pc' := 208) rfl (fun q => absurd q (by decide)) (fun q1753 => ?_)
              refine Ww.iload (pc' := 210) C at_208 rfl rfl ?_
              refine Ww.callS (pc' := 213) C at_210 (fun vm0 C => (Wk.Con.pays C (Wn := 0) (own_sp l hw O859 c19) (w58 hw) (w2 hw) (by decide) (by decide))) Wk.cleanC (fun v h' q => Or.inl q.2) (w56 hw) (w57 hw) (w2 hw) (w58 hw) (by decide) (argsL := [(.int c19)]) (st := []) rfl rfl (lenOf pd14 rfl) rfl (Nat.le_of_eq rfl) (k' := 2) rfl (n' := 8) rfl (by decide) (by decide) rfl ?_
              intro r1754 h1755 Q1755 O1755
              obtain ⟨q1757, e1756⟩ := Q1755
              obtain rfl := e1756.symm
              rcases q1757 with ⟨rfl, q1757⟩ | ⟨rfl, q1757⟩
              · -- space: True
                refine Ww.if_ne C at_213 (by decide) (pcT := 219) (by decide) (pc' := 216) rfl (fun q1758 => ?_) (fun q => absurd q (by decide))
                refine Ww.iload (pc' := 221) C at_219 rfl rfl ?_
                refine Ww.iconst (pc' := 222) C at_221 (v := (2 : Int32)) rfl rfl ?_
                refine Ww.icmp_le C at_222 (by decide) (pcT := 236) (by decide) (pc' := 225) rfl (fun q => absurd q (by decide)) (fun q1759 => ?_)
                refine Ww.iload (pc' := 227) C at_225 rfl rfl ?_
                refine Ww.callS (pc' := 230) C at_227 (fun vm0 C => (Wk.Con.pays C (Wn := 0) (own_sp l hw O859 c23) (w58 hw) (w2 hw) (by decide) (by decide))) Wk.cleanC (fun v h' q => Or.inl q.2) (w56 hw) (w57 hw) (w2 hw) (w58 hw) (by decide) (argsL := [(.int c23)]) (st := []) rfl rfl (lenOf pd14 rfl) rfl (Nat.le_of_eq rfl) (k' := 2) rfl (n' := 8) rfl (by decide) (by decide) rfl ?_
                intro r1760 h1761 Q1761 O1761
                obtain ⟨q1763, e1762⟩ := Q1761
                obtain rfl := e1762.symm
                rcases q1763 with ⟨rfl, q1763⟩ | ⟨rfl, q1763⟩
                · -- space: True
                  exact absurd q1763 q1389
                · -- space: False
                  refine Ww.if_ne C at_230 (by decide) (pcT := 236) (by decide) (pc' := 233) rfl (fun q => absurd q (by decide)) (fun q1764 => ?_)
                  refine Ww.iconst (pc' := 234) C at_233 (v := (3 : Int32)) rfl rfl ?_
                  refine Ww.istore (pc' := 236) C at_234 (Ls' := #[.val (.int p0), .val (.int p1), .val (.int p2), .val (.int p3), .val (.int p4), .val (.int (4 : Int32)), .val (.int c15), .val (.int c19), .val (.int c23), .val (.int c27), .val (.ref a29), .val (.ref a849), .val (.int (0 : Int32)), .val (.int (3 : Int32)), .unset, .unset, .unset]) rfl rfl ?_
                  refine Ww.iload (pc' := 238) C at_236 rfl rfl ?_
                  refine Ww.iconst (pc' := 239) C at_238 (v := (3 : Int32)) rfl rfl ?_
                  refine Ww.icmp_le C at_239 (by decide) (pcT := 253) (by decide) (pc' := 242) rfl (fun q => absurd q (by decide)) (fun q1765 => ?_)
                  refine Ww.iload (pc' := 244) C at_242 rfl rfl ?_
                  refine Ww.callS (pc' := 247) C at_244 (fun vm0 C => (Wk.Con.pays C (Wn := 0) (own_sp l hw O859 c27) (w58 hw) (w2 hw) (by decide) (by decide))) Wk.cleanC (fun v h' q => Or.inl q.2) (w56 hw) (w57 hw) (w2 hw) (w58 hw) (by decide) (argsL := [(.int c27)]) (st := []) rfl rfl (lenOf pd14 rfl) rfl (Nat.le_of_eq rfl) (k' := 2) rfl (n' := 8) rfl (by decide) (by decide) rfl ?_
                  intro r1766 h1767 Q1767 O1767
                  obtain ⟨q1769, e1768⟩ := Q1767
                  obtain rfl := e1768.symm
                  rcases q1769 with ⟨rfl, q1769⟩ | ⟨rfl, q1769⟩
                  · -- space: True
                    exact absurd q1769 q864
                  · -- space: False
                    refine Ww.if_ne C at_247 (by decide) (pcT := 253) (by decide) (pc' := 250) rfl (fun q => absurd q (by decide)) (fun q1770 => ?_)
                    refine Ww.iconst (pc' := 251) C at_250 (v := (4 : Int32)) rfl rfl ?_
                    refine Ww.istore (pc' := 253) C at_251 (Ls' := #[.val (.int p0), .val (.int p1), .val (.int p2), .val (.int p3), .val (.int p4), .val (.int (4 : Int32)), .val (.int c15), .val (.int c19), .val (.int c23), .val (.int c27), .val (.ref a29), .val (.ref a849), .val (.int (0 : Int32)), .val (.int (4 : Int32)), .unset, .unset, .unset]) rfl rfl ?_
                    refine Ww.iload (pc' := 255) C at_253 rfl rfl ?_
                    refine Ww.iload (pc' := 257) C at_255 rfl rfl ?_
                    refine Ww.isub (pc' := 258) C at_257 (v := (4 : Int32)) (by decide) rfl ?_
                    refine Ww.istore (pc' := 260) C at_258 (Ls' := #[.val (.int p0), .val (.int p1), .val (.int p2), .val (.int p3), .val (.int p4), .val (.int (4 : Int32)), .val (.int c15), .val (.int c19), .val (.int c23), .val (.int c27), .val (.ref a29), .val (.ref a849), .val (.int (0 : Int32)), .val (.int (4 : Int32)), .val (.int (4 : Int32)), .unset, .unset]) rfl rfl ?_
                    refine Ww.newO (pc' := 263) C at_260 (w5 hw) (w6 hw) (w7 hw) (k' := 3) rfl (n' := 12) rfl (by decide) (by decide) rfl ?_
                    intro a1771 h1772 ga1771 za1771 E1772 Aa1771 Da1771 Ua1771 O1772
                    have F1773 : Fld Z h1772 a1771 "java/lang/String" "value" "[B" .null := Da1771 (Or.inr (w20 hw)) (ty := (.array .byte)) (by decide)
                    have F1774 : Fld Z h1772 a1771 "java/lang/String" "coder" "B" (.int (0 : Int32)) := Da1771 (Or.inr (w21 hw)) (ty := .byte) (by decide)
                    refine Ww.dup (pc' := 264) C at_263 rfl rfl ?_
                    refine Ww.aload (pc' := 266) C at_264 rfl rfl rfl ?_
                    have hp1775 : ∀ c ∈ ([c15, c19, c23, c27] : List Int32), ¬ c < 0 ∧ ¬ (255 : Int32) < c := (List.forall_mem_cons.mpr ⟨rc15, (List.forall_mem_cons.mpr ⟨rc19, (List.forall_mem_cons.mpr ⟨rc23, (List.forall_mem_cons.mpr ⟨rc27, (fun _ h => nomatch h)⟩)⟩)⟩)⟩)
                    refine Ww.callI (pc' := 269) C at_266 (a := a1771) (fun vm0 C => (strNew C hw hs O1772 (cs := [c15, c19, c23, c27]) (n := 4) (Wn := 1) za1771 Aa1771 F1773 F1774 (V859.ext E1772) rfl (by decide) (by decide) hp1775 (by decide) (by decide))) (strNewC (n := 4) O1772 za1771 rfl (by decide) hp1775) (fun v h' q => Or.inr (Or.inr ⟨a1771, (List.mem_of_getElem? (i := 0) rfl), q.2.1⟩)) rfl (w8 hw) (w9 hw) (w10 hw) (by decide) (argsL := [(.ref a849)]) (st := [(.ref a1771)]) rfl rfl (lenOf pd12 rfl) rfl (Nat.le_of_eq rfl) (k' := 4) rfl (n' := 16) rfl (by decide) (by decide) rfl ?_
                    intro r1776 h1777 Q1777 O1777
                    obtain ⟨rfl, Kh1777, Sh1777⟩ := Q1777
                    refine Ww.callSS (pc' := 272) C at_269 (Ww.Con.pays hE (Wn := 0) (own_wos l hw hE O1777 hs a1771 [c15, c19, c23, c27] Sh1777 (show _ ≤ 4 from Nat.le_of_ble_eq_true rfl)) (w29 hw) (w28 hw) (by decide) (by decide)) Wk.cleanC (w26 hw) (w27 hw) (w28 hw) (w29 hw) (by decide) (argsL := [(.ref a1771)]) (st := []) rfl rfl (lenOf pd13 rfl) rfl (Nat.le_of_eq rfl) (k' := 8) rfl (n' := 28) rfl (by decide) (by decide) rfl ?_
                    intro r1778 h1779 Q1779 O1779
                    obtain ⟨x1780, rfl, E1779, S1779⟩ := Q1779
                    refine Ww.astore (pc' := 274) C at_272 rfl (Ls' := #[.val (.int p0), .val (.int p1), .val (.int p2), .val (.int p3), .val (.int p4), .val (.int (4 : Int32)), .val (.int c15), .val (.int c19), .val (.int c23), .val (.int c27), .val (.ref a29), .val (.ref a849), .val (.int (0 : Int32)), .val (.int (4 : Int32)), .val (.int (4 : Int32)), .val (.ref x1780), .unset]) rfl rfl ?_
                    have hT : trim [c15, c19, c23, c27] = [c15, c19, c23, c27] := by simp [trim, lead, endAt, q1683, q1677, q1389, q864]
                    have G15 : Str Z h1779 x1780 [c15, c19, c23, c27] := hT ▸ S1779
                    refine Ww.aload (pc' := 276) C at_274 rfl rfl rfl ?_
                    refine Ww.callV (pc' := 279) C at_276 (a := x1780) (fun vm0 C => (strLen C hw hs O1779 (Wn := 0) G15 (by decide) (by decide))) (pureC (P := fun v => v = some (.int (Int32.ofNat ([c15, c19, c23, c27] : List Int32).length))) O1779) (fun v h' q => Or.inl q.2) S1779.exa (w55 hw) (w31 hw) (fun vm0 hZ0 => notFace_of_selects (args := #[]) (mvT (s := W.s.setVm vm0) hZ0 (w33 hw))) (w33 hw) (w32 hw) (by decide) (argsL := []) (st := []) rfl rfl (lenOf pd5 rfl) rfl (Nat.le_of_eq rfl) (k' := 8) rfl (n' := 28) rfl (by decide) (by decide) rfl ?_
                    intro r1781 h1782 Q1782 O1782
                    obtain ⟨rfl, e1783⟩ := Q1782
                    obtain rfl := e1783.symm
                    refine Ww.iload (pc' := 281) C at_279 rfl rfl ?_
                    refine Ww.icmp_ne C at_281 (by decide) (pcT := 288) (by decide) (pc' := 284) rfl (fun q => absurd rfl q) (fun q1784 => ?_)
                    refine Ww.iconst (pc' := 285) C at_284 (v := (1 : Int32)) rfl rfl ?_
                    refine Ww.goto C at_285 (by decide) (pc' := 289) (by decide) ?_
                    refine Ww.istore (pc' := 291) C at_289 (Ls' := #[.val (.int p0), .val (.int p1), .val (.int p2), .val (.int p3), .val (.int p4), .val (.int (4 : Int32)), .val (.int c15), .val (.int c19), .val (.int c23), .val (.int c27), .val (.ref a29), .val (.ref a849), .val (.int (0 : Int32)), .val (.int (4 : Int32)), .val (.int (4 : Int32)), .val (.ref x1780), .val (.int (1 : Int32))]) rfl rfl ?_
                    refine Ww.iload (pc' := 293) C at_291 rfl rfl ?_
                    refine Ww.if_eq C at_293 (by decide) (pcT := 322) (by decide) (pc' := 296) rfl (fun q => absurd q (by decide)) (fun q1785 => ?_)
                    refine Ww.iload (pc' := 298) C at_296 rfl rfl ?_
                    refine Ww.if_le C at_298 (by decide) (pcT := 322) (by decide) (pc' := 301) rfl (fun q => absurd q (by decide)) (fun q1786 => ?_)
                    refine Ww.aload (pc' := 303) C at_301 rfl rfl rfl ?_
                    refine Ww.iconst (pc' := 304) C at_303 (v := (0 : Int32)) rfl rfl ?_
                    refine Ww.callV (pc' := 307) C at_304 (a := x1780) (fun vm0 C => (strAt C hw hs O1779 (Wn := 0) (i := 0) G15 (show _ < _ from Nat.le_of_ble_eq_true rfl) rfl (by decide) (by decide))) (pureC (P := fun v => v = some (.int (([c15, c19, c23, c27] : List Int32).getD 0 0))) O1779) (fun v h' q => Or.inl q.2) S1779.exa (w114 hw) (w70 hw) (fun vm0 hZ0 => notFace_of_selects (args := #[]) (mvT (s := W.s.setVm vm0) hZ0 (w72 hw))) (w72 hw) (w71 hw) (by decide) (argsL := [(.int (0 : Int32))]) (st := []) rfl rfl (lenOf pd10 rfl) rfl (Nat.le_of_eq rfl) (k' := 8) rfl (n' := 28) rfl (by decide) (by decide) rfl ?_
                    intro r1787 h1788 Q1788 O1788
                    obtain ⟨rfl, e1789⟩ := Q1788
                    obtain rfl := e1789.symm
                    refine Ww.aload (pc' := 309) C at_307 rfl rfl rfl ?_
                    refine Ww.iload (pc' := 311) C at_309 rfl rfl ?_
                    have X1790 : Ext h35 h853 := Wk.Ext.wr (Z := Z) E850 W853 (Nat.le_of_eq ga849.symm)
                    have X1791 : Ext h35 h855 := Wk.Ext.wr (Z := Z) X1790 W855 (Nat.le_of_eq ga849.symm)
                    have X1792 : Ext h35 h857 := Wk.Ext.wr (Z := Z) X1791 W857 (Nat.le_of_eq ga849.symm)
                    have X1793 : Ext h35 h859 := Wk.Ext.wr (Z := Z) X1792 W859 (Nat.le_of_eq ga849.symm)
                    have X1794 : Ext h35 h1772 := Wk.Ext.trans X1793 E1772
                    have X1795 : Ext h35 h1777 := Wk.Ext.keep1 (Z := Z) X1794 Kh1777 (Nat.le_trans X1793.1 (Nat.le_of_eq ga1771.symm))
                    have X1796 : Ext h35 h1779 := Wk.Ext.trans X1795 E1779
                    refine Ww.caload (pc' := 312) C at_311 (V35.ext X1796) (by decide) (v := (.int c15)) rfl rfl ?_
                    refine Ww.icmp_ne C at_312 (by decide) (pcT := 319) (by decide) (pc' := 315) rfl (fun q => absurd rfl q) (fun q1797 => ?_)
                    refine Ww.iconst (pc' := 316) C at_315 (v := (1 : Int32)) rfl rfl ?_
                    refine Ww.goto C at_316 (by decide) (pc' := 320) (by decide) ?_
                    refine Ww.istore (pc' := 322) C at_320 (Ls' := #[.val (.int p0), .val (.int p1), .val (.int p2), .val (.int p3), .val (.int p4), .val (.int (4 : Int32)), .val (.int c15), .val (.int c19), .val (.int c23), .val (.int c27), .val (.ref a29), .val (.ref a849), .val (.int (0 : Int32)), .val (.int (4 : Int32)), .val (.int (4 : Int32)), .val (.ref x1780), .val (.int (1 : Int32))]) rfl rfl ?_
                    refine Ww.iload (pc' := 324) C at_322 rfl rfl ?_
                    refine Ww.if_eq C at_324 (by decide) (pcT := 356) (by decide) (pc' := 327) rfl (fun q => absurd q (by decide)) (fun q1798 => ?_)
                    refine Ww.iload (pc' := 329) C at_327 rfl rfl ?_
                    refine Ww.iconst (pc' := 330) C at_329 (v := (1 : Int32)) rfl rfl ?_
                    refine Ww.icmp_le C at_330 (by decide) (pcT := 356) (by decide) (pc' := 333) rfl (fun q => absurd q (by decide)) (fun q1799 => ?_)
                    refine Ww.aload (pc' := 335) C at_333 rfl rfl rfl ?_
                    refine Ww.iconst (pc' := 336) C at_335 (v := (1 : Int32)) rfl rfl ?_
                    refine Ww.callV (pc' := 339) C at_336 (a := x1780) (fun vm0 C => (strAt C hw hs O1779 (Wn := 0) (i := 1) G15 (show _ < _ from Nat.le_of_ble_eq_true rfl) rfl (by decide) (by decide))) (pureC (P := fun v => v = some (.int (([c15, c19, c23, c27] : List Int32).getD 1 0))) O1779) (fun v h' q => Or.inl q.2) S1779.exa (w114 hw) (w70 hw) (fun vm0 hZ0 => notFace_of_selects (args := #[]) (mvT (s := W.s.setVm vm0) hZ0 (w72 hw))) (w72 hw) (w71 hw) (by decide) (argsL := [(.int (1 : Int32))]) (st := []) rfl rfl (lenOf pd10 rfl) rfl (Nat.le_of_eq rfl) (k' := 8) rfl (n' := 28) rfl (by decide) (by decide) rfl ?_
                    intro r1800 h1801 Q1801 O1801
                    obtain ⟨rfl, e1802⟩ := Q1801
                    obtain rfl := e1802.symm
                    refine Ww.aload (pc' := 341) C at_339 rfl rfl rfl ?_
                    refine Ww.iload (pc' := 343) C at_341 rfl rfl ?_
                    refine Ww.iconst (pc' := 344) C at_343 (v := (1 : Int32)) rfl rfl ?_
                    refine Ww.iadd (pc' := 345) C at_344 (v := (1 : Int32)) (by decide) rfl ?_
                    refine Ww.caload (pc' := 346) C at_345 (V35.ext X1796) (by decide) (v := (.int c19)) rfl rfl ?_
                    refine Ww.icmp_ne C at_346 (by decide) (pcT := 353) (by decide) (pc' := 349) rfl (fun q => absurd rfl q) (fun q1803 => ?_)
                    refine Ww.iconst (pc' := 350) C at_349 (v := (1 : Int32)) rfl rfl ?_
                    refine Ww.goto C at_350 (by decide) (pc' := 354) (by decide) ?_
                    refine Ww.istore (pc' := 356) C at_354 (Ls' := #[.val (.int p0), .val (.int p1), .val (.int p2), .val (.int p3), .val (.int p4), .val (.int (4 : Int32)), .val (.int c15), .val (.int c19), .val (.int c23), .val (.int c27), .val (.ref a29), .val (.ref a849), .val (.int (0 : Int32)), .val (.int (4 : Int32)), .val (.int (4 : Int32)), .val (.ref x1780), .val (.int (1 : Int32))]) rfl rfl ?_
                    refine Ww.iload (pc' := 358) C at_356 rfl rfl ?_
                    refine Ww.if_eq C at_358 (by decide) (pcT := 390) (by decide) (pc' := 361) rfl (fun q => absurd q (by decide)) (fun q1804 => ?_)
                    refine Ww.iload (pc' := 363) C at_361 rfl rfl ?_
                    refine Ww.iconst (pc' := 364) C at_363 (v := (2 : Int32)) rfl rfl ?_
                    refine Ww.icmp_le C at_364 (by decide) (pcT := 390) (by decide) (pc' := 367) rfl (fun q => absurd q (by decide)) (fun q1805 => ?_)
                    refine Ww.aload (pc' := 369) C at_367 rfl rfl rfl ?_
                    refine Ww.iconst (pc' := 370) C at_369 (v := (2 : Int32)) rfl rfl ?_
                    refine Ww.callV (pc' := 373) C at_370 (a := x1780) (fun vm0 C => (strAt C hw hs O1779 (Wn := 0) (i := 2) G15 (show _ < _ from Nat.le_of_ble_eq_true rfl) rfl (by decide) (by decide))) (pureC (P := fun v => v = some (.int (([c15, c19, c23, c27] : List Int32).getD 2 0))) O1779) (fun v h' q => Or.inl q.2) S1779.exa (w114 hw) (w70 hw) (fun vm0 hZ0 => notFace_of_selects (args := #[]) (mvT (s := W.s.setVm vm0) hZ0 (w72 hw))) (w72 hw) (w71 hw) (by decide) (argsL := [(.int (2 : Int32))]) (st := []) rfl rfl (lenOf pd10 rfl) rfl (Nat.le_of_eq rfl) (k' := 8) rfl (n' := 28) rfl (by decide) (by decide) rfl ?_
                    intro r1806 h1807 Q1807 O1807
                    obtain ⟨rfl, e1808⟩ := Q1807
                    obtain rfl := e1808.symm
                    refine Ww.aload (pc' := 375) C at_373 rfl rfl rfl ?_
                    refine Ww.iload (pc' := 377) C at_375 rfl rfl ?_
                    refine Ww.iconst (pc' := 378) C at_377 (v := (2 : Int32)) rfl rfl ?_
                    refine Ww.iadd (pc' := 379) C at_378 (v := (2 : Int32)) (by decide) rfl ?_
                    refine Ww.caload (pc' := 380) C at_379 (V35.ext X1796) (by decide) (v := (.int c23)) rfl rfl ?_
                    refine Ww.icmp_ne C at_380 (by decide) (pcT := 387) (by decide) (pc' := 383) rfl (fun q => absurd rfl q) (fun q1809 => ?_)
                    refine Ww.iconst (pc' := 384) C at_383 (v := (1 : Int32)) rfl rfl ?_
                    refine Ww.goto C at_384 (by decide) (pc' := 388) (by decide) ?_
                    refine Ww.istore (pc' := 390) C at_388 (Ls' := #[.val (.int p0), .val (.int p1), .val (.int p2), .val (.int p3), .val (.int p4), .val (.int (4 : Int32)), .val (.int c15), .val (.int c19), .val (.int c23), .val (.int c27), .val (.ref a29), .val (.ref a849), .val (.int (0 : Int32)), .val (.int (4 : Int32)), .val (.int (4 : Int32)), .val (.ref x1780), .val (.int (1 : Int32))]) rfl rfl ?_
                    refine Ww.iload (pc' := 392) C at_390 rfl rfl ?_
                    refine Ww.if_eq C at_392 (by decide) (pcT := 424) (by decide) (pc' := 395) rfl (fun q => absurd q (by decide)) (fun q1810 => ?_)
                    refine Ww.iload (pc' := 397) C at_395 rfl rfl ?_
                    refine Ww.iconst (pc' := 398) C at_397 (v := (3 : Int32)) rfl rfl ?_
                    refine Ww.icmp_le C at_398 (by decide) (pcT := 424) (by decide) (pc' := 401) rfl (fun q => absurd q (by decide)) (fun q1811 => ?_)
                    refine Ww.aload (pc' := 403) C at_401 rfl rfl rfl ?_
                    refine Ww.iconst (pc' := 404) C at_403 (v := (3 : Int32)) rfl rfl ?_
                    refine Ww.callV (pc' := 407) C at_404 (a := x1780) (fun vm0 C => (strAt C hw hs O1779 (Wn := 0) (i := 3) G15 (show _ < _ from Nat.le_of_ble_eq_true rfl) rfl (by decide) (by decide))) (pureC (P := fun v => v = some (.int (([c15, c19, c23, c27] : List Int32).getD 3 0))) O1779) (fun v h' q => Or.inl q.2) S1779.exa (w114 hw) (w70 hw) (fun vm0 hZ0 => notFace_of_selects (args := #[]) (mvT (s := W.s.setVm vm0) hZ0 (w72 hw))) (w72 hw) (w71 hw) (by decide) (argsL := [(.int (3 : Int32))]) (st := []) rfl rfl (lenOf pd10 rfl) rfl (Nat.le_of_eq rfl) (k' := 8) rfl (n' := 28) rfl (by decide) (by decide) rfl ?_
                    intro r1812 h1813 Q1813 O1813
                    obtain ⟨rfl, e1814⟩ := Q1813
                    obtain rfl := e1814.symm
                    refine Ww.aload (pc' := 409) C at_407 rfl rfl rfl ?_
                    refine Ww.iload (pc' := 411) C at_409 rfl rfl ?_
                    refine Ww.iconst (pc' := 412) C at_411 (v := (3 : Int32)) rfl rfl ?_
                    refine Ww.iadd (pc' := 413) C at_412 (v := (3 : Int32)) (by decide) rfl ?_
                    refine Ww.caload (pc' := 414) C at_413 (V35.ext X1796) (by decide) (v := (.int c27)) rfl rfl ?_
                    refine Ww.icmp_ne C at_414 (by decide) (pcT := 421) (by decide) (pc' := 417) rfl (fun q => absurd rfl q) (fun q1815 => ?_)
                    refine Ww.iconst (pc' := 418) C at_417 (v := (1 : Int32)) rfl rfl ?_
                    refine Ww.goto C at_418 (by decide) (pc' := 422) (by decide) ?_
                    refine Ww.istore (pc' := 424) C at_422 (Ls' := #[.val (.int p0), .val (.int p1), .val (.int p2), .val (.int p3), .val (.int p4), .val (.int (4 : Int32)), .val (.int c15), .val (.int c19), .val (.int c23), .val (.int c27), .val (.ref a29), .val (.ref a849), .val (.int (0 : Int32)), .val (.int (4 : Int32)), .val (.int (4 : Int32)), .val (.ref x1780), .val (.int (1 : Int32))]) rfl rfl ?_
                    refine Ww.iload (pc' := 426) C at_424 rfl rfl ?_
                    exact Ww.retNar (ty := .boolean) C hE (by simp) at_426 rfl (by decide) (by decide) rfl
              · -- space: False
                exact absurd q1677 q1757
        · -- space: False
          refine Ww.if_ne C at_160 (by decide) (pcT := 166) (by decide) (pc' := 163) rfl (fun q => absurd q (by decide)) (fun q1816 => ?_)
          refine Ww.iconst (pc' := 164) C at_163 (v := (1 : Int32)) rfl rfl ?_
          refine Ww.istore (pc' := 166) C at_164 (Ls' := #[.val (.int p0), .val (.int p1), .val (.int p2), .val (.int p3), .val (.int p4), .val (.int (4 : Int32)), .val (.int c15), .val (.int c19), .val (.int c23), .val (.int c27), .val (.ref a29), .val (.ref a849), .val (.int (1 : Int32)), .unset, .unset, .unset, .unset]) rfl rfl ?_
          refine Ww.iload (pc' := 168) C at_166 rfl rfl ?_
          refine Ww.if_le C at_168 (by decide) (pcT := 182) (by decide) (pc' := 171) rfl (fun q => absurd q (by decide)) (fun q1817 => ?_)
          refine Ww.iload (pc' := 173) C at_171 rfl rfl ?_
          refine Ww.callS (pc' := 176) C at_173 (fun vm0 C => (Wk.Con.pays C (Wn := 0) (own_sp l hw O859 c15) (w58 hw) (w2 hw) (by decide) (by decide))) Wk.cleanC (fun v h' q => Or.inl q.2) (w56 hw) (w57 hw) (w2 hw) (w58 hw) (by decide) (argsL := [(.int c15)]) (st := []) rfl rfl (lenOf pd14 rfl) rfl (Nat.le_of_eq rfl) (k' := 2) rfl (n' := 8) rfl (by decide) (by decide) rfl ?_
          intro r1818 h1819 Q1819 O1819
          obtain ⟨q1821, e1820⟩ := Q1819
          obtain rfl := e1820.symm
          rcases q1821 with ⟨rfl, q1821⟩ | ⟨rfl, q1821⟩
          · -- space: True
            refine Ww.if_ne C at_176 (by decide) (pcT := 182) (by decide) (pc' := 179) rfl (fun q1822 => ?_) (fun q => absurd q (by decide))
            refine Ww.iload (pc' := 184) C at_182 rfl rfl ?_
            refine Ww.istore (pc' := 186) C at_184 (Ls' := #[.val (.int p0), .val (.int p1), .val (.int p2), .val (.int p3), .val (.int p4), .val (.int (4 : Int32)), .val (.int c15), .val (.int c19), .val (.int c23), .val (.int c27), .val (.ref a29), .val (.ref a849), .val (.int (1 : Int32)), .val (.int (1 : Int32)), .unset, .unset, .unset]) rfl rfl ?_
            refine Ww.iload (pc' := 188) C at_186 rfl rfl ?_
            refine Ww.if_le C at_188 (by decide) (pcT := 202) (by decide) (pc' := 191) rfl (fun q => absurd q (by decide)) (fun q1823 => ?_)
            refine Ww.iload (pc' := 193) C at_191 rfl rfl ?_
            refine Ww.callS (pc' := 196) C at_193 (fun vm0 C => (Wk.Con.pays C (Wn := 0) (own_sp l hw O859 c15) (w58 hw) (w2 hw) (by decide) (by decide))) Wk.cleanC (fun v h' q => Or.inl q.2) (w56 hw) (w57 hw) (w2 hw) (w58 hw) (by decide) (argsL := [(.int c15)]) (st := []) rfl rfl (lenOf pd14 rfl) rfl (Nat.le_of_eq rfl) (k' := 2) rfl (n' := 8) rfl (by decide) (by decide) rfl ?_
            intro r1824 h1825 Q1825 O1825
            obtain ⟨q1827, e1826⟩ := Q1825
            obtain rfl := e1826.symm
            rcases q1827 with ⟨rfl, q1827⟩ | ⟨rfl, q1827⟩
            · -- space: True
              refine Ww.if_ne C at_196 (by decide) (pcT := 202) (by decide) (pc' := 199) rfl (fun q1828 => ?_) (fun q => absurd q (by decide))
              refine Ww.iload (pc' := 204) C at_202 rfl rfl ?_
              refine Ww.iconst (pc' := 205) C at_204 (v := (1 : Int32)) rfl rfl ?_
              refine Ww.icmp_le C at_205 (by decide) (pcT := 219) (by decide) (pc' := 208) rfl (fun q => absurd q (by decide)) (fun q1829 => ?_)
              refine Ww.iload (pc' := 210) C at_208 rfl rfl ?_
              refine Ww.callS (pc' := 213) C at_210 (fun vm0 C => (Wk.Con.pays C (Wn := 0) (own_sp l hw O859 c19) (w58 hw) (w2 hw) (by decide) (by decide))) Wk.cleanC (fun v h' q => Or.inl q.2) (w56 hw) (w57 hw) (w2 hw) (w58 hw) (by decide) (argsL := [(.int c19)]) (st := []) rfl rfl (lenOf pd14 rfl) rfl (Nat.le_of_eq rfl) (k' := 2) rfl (n' := 8) rfl (by decide) (by decide) rfl ?_
              intro r1830 h1831 Q1831 O1831
              obtain ⟨q1833, e1832⟩ := Q1831
              obtain rfl := e1832.symm
              rcases q1833 with ⟨rfl, q1833⟩ | ⟨rfl, q1833⟩
              · -- space: True
                exact absurd q1833 q1677
              · -- space: False
                refine Ww.if_ne C at_213 (by decide) (pcT := 219) (by decide) (pc' := 216) rfl (fun q => absurd q (by decide)) (fun q1834 => ?_)
                refine Ww.iconst (pc' := 217) C at_216 (v := (2 : Int32)) rfl rfl ?_
                refine Ww.istore (pc' := 219) C at_217 (Ls' := #[.val (.int p0), .val (.int p1), .val (.int p2), .val (.int p3), .val (.int p4), .val (.int (4 : Int32)), .val (.int c15), .val (.int c19), .val (.int c23), .val (.int c27), .val (.ref a29), .val (.ref a849), .val (.int (1 : Int32)), .val (.int (2 : Int32)), .unset, .unset, .unset]) rfl rfl ?_
                refine Ww.iload (pc' := 221) C at_219 rfl rfl ?_
                refine Ww.iconst (pc' := 222) C at_221 (v := (2 : Int32)) rfl rfl ?_
                refine Ww.icmp_le C at_222 (by decide) (pcT := 236) (by decide) (pc' := 225) rfl (fun q => absurd q (by decide)) (fun q1835 => ?_)
                refine Ww.iload (pc' := 227) C at_225 rfl rfl ?_
                refine Ww.callS (pc' := 230) C at_227 (fun vm0 C => (Wk.Con.pays C (Wn := 0) (own_sp l hw O859 c23) (w58 hw) (w2 hw) (by decide) (by decide))) Wk.cleanC (fun v h' q => Or.inl q.2) (w56 hw) (w57 hw) (w2 hw) (w58 hw) (by decide) (argsL := [(.int c23)]) (st := []) rfl rfl (lenOf pd14 rfl) rfl (Nat.le_of_eq rfl) (k' := 2) rfl (n' := 8) rfl (by decide) (by decide) rfl ?_
                intro r1836 h1837 Q1837 O1837
                obtain ⟨q1839, e1838⟩ := Q1837
                obtain rfl := e1838.symm
                rcases q1839 with ⟨rfl, q1839⟩ | ⟨rfl, q1839⟩
                · -- space: True
                  exact absurd q1839 q1389
                · -- space: False
                  refine Ww.if_ne C at_230 (by decide) (pcT := 236) (by decide) (pc' := 233) rfl (fun q => absurd q (by decide)) (fun q1840 => ?_)
                  refine Ww.iconst (pc' := 234) C at_233 (v := (3 : Int32)) rfl rfl ?_
                  refine Ww.istore (pc' := 236) C at_234 (Ls' := #[.val (.int p0), .val (.int p1), .val (.int p2), .val (.int p3), .val (.int p4), .val (.int (4 : Int32)), .val (.int c15), .val (.int c19), .val (.int c23), .val (.int c27), .val (.ref a29), .val (.ref a849), .val (.int (1 : Int32)), .val (.int (3 : Int32)), .unset, .unset, .unset]) rfl rfl ?_
                  refine Ww.iload (pc' := 238) C at_236 rfl rfl ?_
                  refine Ww.iconst (pc' := 239) C at_238 (v := (3 : Int32)) rfl rfl ?_
                  refine Ww.icmp_le C at_239 (by decide) (pcT := 253) (by decide) (pc' := 242) rfl (fun q => absurd q (by decide)) (fun q1841 => ?_)
                  refine Ww.iload (pc' := 244) C at_242 rfl rfl ?_
                  refine Ww.callS (pc' := 247) C at_244 (fun vm0 C => (Wk.Con.pays C (Wn := 0) (own_sp l hw O859 c27) (w58 hw) (w2 hw) (by decide) (by decide))) Wk.cleanC (fun v h' q => Or.inl q.2) (w56 hw) (w57 hw) (w2 hw) (w58 hw) (by decide) (argsL := [(.int c27)]) (st := []) rfl rfl (lenOf pd14 rfl) rfl (Nat.le_of_eq rfl) (k' := 2) rfl (n' := 8) rfl (by decide) (by decide) rfl ?_
                  intro r1842 h1843 Q1843 O1843
                  obtain ⟨q1845, e1844⟩ := Q1843
                  obtain rfl := e1844.symm
                  rcases q1845 with ⟨rfl, q1845⟩ | ⟨rfl, q1845⟩
                  · -- space: True
                    exact absurd q1845 q864
                  · -- space: False
                    refine Ww.if_ne C at_247 (by decide) (pcT := 253) (by decide) (pc' := 250) rfl (fun q => absurd q (by decide)) (fun q1846 => ?_)
                    refine Ww.iconst (pc' := 251) C at_250 (v := (4 : Int32)) rfl rfl ?_
                    refine Ww.istore (pc' := 253) C at_251 (Ls' := #[.val (.int p0), .val (.int p1), .val (.int p2), .val (.int p3), .val (.int p4), .val (.int (4 : Int32)), .val (.int c15), .val (.int c19), .val (.int c23), .val (.int c27), .val (.ref a29), .val (.ref a849), .val (.int (1 : Int32)), .val (.int (4 : Int32)), .unset, .unset, .unset]) rfl rfl ?_
                    refine Ww.iload (pc' := 255) C at_253 rfl rfl ?_
                    refine Ww.iload (pc' := 257) C at_255 rfl rfl ?_
                    refine Ww.isub (pc' := 258) C at_257 (v := (3 : Int32)) (by decide) rfl ?_
                    refine Ww.istore (pc' := 260) C at_258 (Ls' := #[.val (.int p0), .val (.int p1), .val (.int p2), .val (.int p3), .val (.int p4), .val (.int (4 : Int32)), .val (.int c15), .val (.int c19), .val (.int c23), .val (.int c27), .val (.ref a29), .val (.ref a849), .val (.int (1 : Int32)), .val (.int (4 : Int32)), .val (.int (3 : Int32)), .unset, .unset]) rfl rfl ?_
                    refine Ww.newO (pc' := 263) C at_260 (w5 hw) (w6 hw) (w7 hw) (k' := 3) rfl (n' := 12) rfl (by decide) (by decide) rfl ?_
                    intro a1847 h1848 ga1847 za1847 E1848 Aa1847 Da1847 Ua1847 O1848
                    have F1849 : Fld Z h1848 a1847 "java/lang/String" "value" "[B" .null := Da1847 (Or.inr (w20 hw)) (ty := (.array .byte)) (by decide)
                    have F1850 : Fld Z h1848 a1847 "java/lang/String" "coder" "B" (.int (0 : Int32)) := Da1847 (Or.inr (w21 hw)) (ty := .byte) (by decide)
                    refine Ww.dup (pc' := 264) C at_263 rfl rfl ?_
                    refine Ww.aload (pc' := 266) C at_264 rfl rfl rfl ?_
                    have hp1851 : ∀ c ∈ ([c15, c19, c23, c27] : List Int32), ¬ c < 0 ∧ ¬ (255 : Int32) < c := (List.forall_mem_cons.mpr ⟨rc15, (List.forall_mem_cons.mpr ⟨rc19, (List.forall_mem_cons.mpr ⟨rc23, (List.forall_mem_cons.mpr ⟨rc27, (fun _ h => nomatch h)⟩)⟩)⟩)⟩)
                    refine Ww.callI (pc' := 269) C at_266 (a := a1847) (fun vm0 C => (strNew C hw hs O1848 (cs := [c15, c19, c23, c27]) (n := 4) (Wn := 1) za1847 Aa1847 F1849 F1850 (V859.ext E1848) rfl (by decide) (by decide) hp1851 (by decide) (by decide))) (strNewC (n := 4) O1848 za1847 rfl (by decide) hp1851) (fun v h' q => Or.inr (Or.inr ⟨a1847, (List.mem_of_getElem? (i := 0) rfl), q.2.1⟩)) rfl (w8 hw) (w9 hw) (w10 hw) (by decide) (argsL := [(.ref a849)]) (st := [(.ref a1847)]) rfl rfl (lenOf pd12 rfl) rfl (Nat.le_of_eq rfl) (k' := 4) rfl (n' := 16) rfl (by decide) (by decide) rfl ?_
                    intro r1852 h1853 Q1853 O1853
                    obtain ⟨rfl, Kh1853, Sh1853⟩ := Q1853
                    refine Ww.callSS (pc' := 272) C at_269 (Ww.Con.pays hE (Wn := 0) (own_wos l hw hE O1853 hs a1847 [c15, c19, c23, c27] Sh1853 (show _ ≤ 4 from Nat.le_of_ble_eq_true rfl)) (w29 hw) (w28 hw) (by decide) (by decide)) Wk.cleanC (w26 hw) (w27 hw) (w28 hw) (w29 hw) (by decide) (argsL := [(.ref a1847)]) (st := []) rfl rfl (lenOf pd13 rfl) rfl (Nat.le_of_eq rfl) (k' := 8) rfl (n' := 28) rfl (by decide) (by decide) rfl ?_
                    intro r1854 h1855 Q1855 O1855
                    obtain ⟨x1856, rfl, E1855, S1855⟩ := Q1855
                    refine Ww.astore (pc' := 274) C at_272 rfl (Ls' := #[.val (.int p0), .val (.int p1), .val (.int p2), .val (.int p3), .val (.int p4), .val (.int (4 : Int32)), .val (.int c15), .val (.int c19), .val (.int c23), .val (.int c27), .val (.ref a29), .val (.ref a849), .val (.int (1 : Int32)), .val (.int (4 : Int32)), .val (.int (3 : Int32)), .val (.ref x1856), .unset]) rfl rfl ?_
                    have hT : trim [c15, c19, c23, c27] = [c19, c23, c27] := by simp [trim, lead, endAt, q1821, q1677, q1389, q864]
                    have G15 : Str Z h1855 x1856 [c19, c23, c27] := hT ▸ S1855
                    refine Ww.aload (pc' := 276) C at_274 rfl rfl rfl ?_
                    refine Ww.callV (pc' := 279) C at_276 (a := x1856) (fun vm0 C => (strLen C hw hs O1855 (Wn := 0) G15 (by decide) (by decide))) (pureC (P := fun v => v = some (.int (Int32.ofNat ([c19, c23, c27] : List Int32).length))) O1855) (fun v h' q => Or.inl q.2) S1855.exa (w55 hw) (w31 hw) (fun vm0 hZ0 => notFace_of_selects (args := #[]) (mvT (s := W.s.setVm vm0) hZ0 (w33 hw))) (w33 hw) (w32 hw) (by decide) (argsL := []) (st := []) rfl rfl (lenOf pd5 rfl) rfl (Nat.le_of_eq rfl) (k' := 8) rfl (n' := 28) rfl (by decide) (by decide) rfl ?_
                    intro r1857 h1858 Q1858 O1858
                    obtain ⟨rfl, e1859⟩ := Q1858
                    obtain rfl := e1859.symm
                    refine Ww.iload (pc' := 281) C at_279 rfl rfl ?_
                    refine Ww.icmp_ne C at_281 (by decide) (pcT := 288) (by decide) (pc' := 284) rfl (fun q => absurd rfl q) (fun q1860 => ?_)
                    refine Ww.iconst (pc' := 285) C at_284 (v := (1 : Int32)) rfl rfl ?_
                    refine Ww.goto C at_285 (by decide) (pc' := 289) (by decide) ?_
                    refine Ww.istore (pc' := 291) C at_289 (Ls' := #[.val (.int p0), .val (.int p1), .val (.int p2), .val (.int p3), .val (.int p4), .val (.int (4 : Int32)), .val (.int c15), .val (.int c19), .val (.int c23), .val (.int c27), .val (.ref a29), .val (.ref a849), .val (.int (1 : Int32)), .val (.int (4 : Int32)), .val (.int (3 : Int32)), .val (.ref x1856), .val (.int (1 : Int32))]) rfl rfl ?_
                    refine Ww.iload (pc' := 293) C at_291 rfl rfl ?_
                    refine Ww.if_eq C at_293 (by decide) (pcT := 322) (by decide) (pc' := 296) rfl (fun q => absurd q (by decide)) (fun q1861 => ?_)
                    refine Ww.iload (pc' := 298) C at_296 rfl rfl ?_
                    refine Ww.if_le C at_298 (by decide) (pcT := 322) (by decide) (pc' := 301) rfl (fun q => absurd q (by decide)) (fun q1862 => ?_)
                    refine Ww.aload (pc' := 303) C at_301 rfl rfl rfl ?_
                    refine Ww.iconst (pc' := 304) C at_303 (v := (0 : Int32)) rfl rfl ?_
                    refine Ww.callV (pc' := 307) C at_304 (a := x1856) (fun vm0 C => (strAt C hw hs O1855 (Wn := 0) (i := 0) G15 (show _ < _ from Nat.le_of_ble_eq_true rfl) rfl (by decide) (by decide))) (pureC (P := fun v => v = some (.int (([c19, c23, c27] : List Int32).getD 0 0))) O1855) (fun v h' q => Or.inl q.2) S1855.exa (w114 hw) (w70 hw) (fun vm0 hZ0 => notFace_of_selects (args := #[]) (mvT (s := W.s.setVm vm0) hZ0 (w72 hw))) (w72 hw) (w71 hw) (by decide) (argsL := [(.int (0 : Int32))]) (st := []) rfl rfl (lenOf pd10 rfl) rfl (Nat.le_of_eq rfl) (k' := 8) rfl (n' := 28) rfl (by decide) (by decide) rfl ?_
                    intro r1863 h1864 Q1864 O1864
                    obtain ⟨rfl, e1865⟩ := Q1864
                    obtain rfl := e1865.symm
                    refine Ww.aload (pc' := 309) C at_307 rfl rfl rfl ?_
                    refine Ww.iload (pc' := 311) C at_309 rfl rfl ?_
                    have X1866 : Ext h35 h853 := Wk.Ext.wr (Z := Z) E850 W853 (Nat.le_of_eq ga849.symm)
                    have X1867 : Ext h35 h855 := Wk.Ext.wr (Z := Z) X1866 W855 (Nat.le_of_eq ga849.symm)
                    have X1868 : Ext h35 h857 := Wk.Ext.wr (Z := Z) X1867 W857 (Nat.le_of_eq ga849.symm)
                    have X1869 : Ext h35 h859 := Wk.Ext.wr (Z := Z) X1868 W859 (Nat.le_of_eq ga849.symm)
                    have X1870 : Ext h35 h1848 := Wk.Ext.trans X1869 E1848
                    have X1871 : Ext h35 h1853 := Wk.Ext.keep1 (Z := Z) X1870 Kh1853 (Nat.le_trans X1869.1 (Nat.le_of_eq ga1847.symm))
                    have X1872 : Ext h35 h1855 := Wk.Ext.trans X1871 E1855
                    refine Ww.caload (pc' := 312) C at_311 (V35.ext X1872) (by decide) (v := (.int c19)) rfl rfl ?_
                    refine Ww.icmp_ne C at_312 (by decide) (pcT := 319) (by decide) (pc' := 315) rfl (fun q => absurd rfl q) (fun q1873 => ?_)
                    refine Ww.iconst (pc' := 316) C at_315 (v := (1 : Int32)) rfl rfl ?_
                    refine Ww.goto C at_316 (by decide) (pc' := 320) (by decide) ?_
                    refine Ww.istore (pc' := 322) C at_320 (Ls' := #[.val (.int p0), .val (.int p1), .val (.int p2), .val (.int p3), .val (.int p4), .val (.int (4 : Int32)), .val (.int c15), .val (.int c19), .val (.int c23), .val (.int c27), .val (.ref a29), .val (.ref a849), .val (.int (1 : Int32)), .val (.int (4 : Int32)), .val (.int (3 : Int32)), .val (.ref x1856), .val (.int (1 : Int32))]) rfl rfl ?_
                    refine Ww.iload (pc' := 324) C at_322 rfl rfl ?_
                    refine Ww.if_eq C at_324 (by decide) (pcT := 356) (by decide) (pc' := 327) rfl (fun q => absurd q (by decide)) (fun q1874 => ?_)
                    refine Ww.iload (pc' := 329) C at_327 rfl rfl ?_
                    refine Ww.iconst (pc' := 330) C at_329 (v := (1 : Int32)) rfl rfl ?_
                    refine Ww.icmp_le C at_330 (by decide) (pcT := 356) (by decide) (pc' := 333) rfl (fun q => absurd q (by decide)) (fun q1875 => ?_)
                    refine Ww.aload (pc' := 335) C at_333 rfl rfl rfl ?_
                    refine Ww.iconst (pc' := 336) C at_335 (v := (1 : Int32)) rfl rfl ?_
                    refine Ww.callV (pc' := 339) C at_336 (a := x1856) (fun vm0 C => (strAt C hw hs O1855 (Wn := 0) (i := 1) G15 (show _ < _ from Nat.le_of_ble_eq_true rfl) rfl (by decide) (by decide))) (pureC (P := fun v => v = some (.int (([c19, c23, c27] : List Int32).getD 1 0))) O1855) (fun v h' q => Or.inl q.2) S1855.exa (w114 hw) (w70 hw) (fun vm0 hZ0 => notFace_of_selects (args := #[]) (mvT (s := W.s.setVm vm0) hZ0 (w72 hw))) (w72 hw) (w71 hw) (by decide) (argsL := [(.int (1 : Int32))]) (st := []) rfl rfl (lenOf pd10 rfl) rfl (Nat.le_of_eq rfl) (k' := 8) rfl (n' := 28) rfl (by decide) (by decide) rfl ?_
                    intro r1876 h1877 Q1877 O1877
                    obtain ⟨rfl, e1878⟩ := Q1877
                    obtain rfl := e1878.symm
                    refine Ww.aload (pc' := 341) C at_339 rfl rfl rfl ?_
                    refine Ww.iload (pc' := 343) C at_341 rfl rfl ?_
                    refine Ww.iconst (pc' := 344) C at_343 (v := (1 : Int32)) rfl rfl ?_
                    refine Ww.iadd (pc' := 345) C at_344 (v := (2 : Int32)) (by decide) rfl ?_
                    refine Ww.caload (pc' := 346) C at_345 (V35.ext X1872) (by decide) (v := (.int c23)) rfl rfl ?_
                    refine Ww.icmp_ne C at_346 (by decide) (pcT := 353) (by decide) (pc' := 349) rfl (fun q => absurd rfl q) (fun q1879 => ?_)
                    refine Ww.iconst (pc' := 350) C at_349 (v := (1 : Int32)) rfl rfl ?_
                    refine Ww.goto C at_350 (by decide) (pc' := 354) (by decide) ?_
                    refine Ww.istore (pc' := 356) C at_354 (Ls' := #[.val (.int p0), .val (.int p1), .val (.int p2), .val (.int p3), .val (.int p4), .val (.int (4 : Int32)), .val (.int c15), .val (.int c19), .val (.int c23), .val (.int c27), .val (.ref a29), .val (.ref a849), .val (.int (1 : Int32)), .val (.int (4 : Int32)), .val (.int (3 : Int32)), .val (.ref x1856), .val (.int (1 : Int32))]) rfl rfl ?_
                    refine Ww.iload (pc' := 358) C at_356 rfl rfl ?_
                    refine Ww.if_eq C at_358 (by decide) (pcT := 390) (by decide) (pc' := 361) rfl (fun q => absurd q (by decide)) (fun q1880 => ?_)
                    refine Ww.iload (pc' := 363) C at_361 rfl rfl ?_
                    refine Ww.iconst (pc' := 364) C at_363 (v := (2 : Int32)) rfl rfl ?_
                    refine Ww.icmp_le C at_364 (by decide) (pcT := 390) (by decide) (pc' := 367) rfl (fun q => absurd q (by decide)) (fun q1881 => ?_)
                    refine Ww.aload (pc' := 369) C at_367 rfl rfl rfl ?_
                    refine Ww.iconst (pc' := 370) C at_369 (v := (2 : Int32)) rfl rfl ?_
                    refine Ww.callV (pc' := 373) C at_370 (a := x1856) (fun vm0 C => (strAt C hw hs O1855 (Wn := 0) (i := 2) G15 (show _ < _ from Nat.le_of_ble_eq_true rfl) rfl (by decide) (by decide))) (pureC (P := fun v => v = some (.int (([c19, c23, c27] : List Int32).getD 2 0))) O1855) (fun v h' q => Or.inl q.2) S1855.exa (w114 hw) (w70 hw) (fun vm0 hZ0 => notFace_of_selects (args := #[]) (mvT (s := W.s.setVm vm0) hZ0 (w72 hw))) (w72 hw) (w71 hw) (by decide) (argsL := [(.int (2 : Int32))]) (st := []) rfl rfl (lenOf pd10 rfl) rfl (Nat.le_of_eq rfl) (k' := 8) rfl (n' := 28) rfl (by decide) (by decide) rfl ?_
                    intro r1882 h1883 Q1883 O1883
                    obtain ⟨rfl, e1884⟩ := Q1883
                    obtain rfl := e1884.symm
                    refine Ww.aload (pc' := 375) C at_373 rfl rfl rfl ?_
                    refine Ww.iload (pc' := 377) C at_375 rfl rfl ?_
                    refine Ww.iconst (pc' := 378) C at_377 (v := (2 : Int32)) rfl rfl ?_
                    refine Ww.iadd (pc' := 379) C at_378 (v := (3 : Int32)) (by decide) rfl ?_
                    refine Ww.caload (pc' := 380) C at_379 (V35.ext X1872) (by decide) (v := (.int c27)) rfl rfl ?_
                    refine Ww.icmp_ne C at_380 (by decide) (pcT := 387) (by decide) (pc' := 383) rfl (fun q => absurd rfl q) (fun q1885 => ?_)
                    refine Ww.iconst (pc' := 384) C at_383 (v := (1 : Int32)) rfl rfl ?_
                    refine Ww.goto C at_384 (by decide) (pc' := 388) (by decide) ?_
                    refine Ww.istore (pc' := 390) C at_388 (Ls' := #[.val (.int p0), .val (.int p1), .val (.int p2), .val (.int p3), .val (.int p4), .val (.int (4 : Int32)), .val (.int c15), .val (.int c19), .val (.int c23), .val (.int c27), .val (.ref a29), .val (.ref a849), .val (.int (1 : Int32)), .val (.int (4 : Int32)), .val (.int (3 : Int32)), .val (.ref x1856), .val (.int (1 : Int32))]) rfl rfl ?_
                    refine Ww.iload (pc' := 392) C at_390 rfl rfl ?_
                    refine Ww.if_eq C at_392 (by decide) (pcT := 424) (by decide) (pc' := 395) rfl (fun q => absurd q (by decide)) (fun q1886 => ?_)
                    refine Ww.iload (pc' := 397) C at_395 rfl rfl ?_
                    refine Ww.iconst (pc' := 398) C at_397 (v := (3 : Int32)) rfl rfl ?_
                    refine Ww.icmp_le C at_398 (by decide) (pcT := 424) (by decide) (pc' := 401) rfl (fun q1887 => ?_) (fun q => absurd q (by decide))
                    refine Ww.iload (pc' := 426) C at_424 rfl rfl ?_
                    exact Ww.retNar (ty := .boolean) C hE (by simp) at_426 rfl (by decide) (by decide) rfl
            · -- space: False
              exact absurd q1821 q1827
          · -- space: False
            refine Ww.if_ne C at_176 (by decide) (pcT := 182) (by decide) (pc' := 179) rfl (fun q => absurd q (by decide)) (fun q1888 => ?_)
            refine Ww.iconst (pc' := 180) C at_179 (v := (0 : Int32)) rfl rfl ?_
            refine Ww.istore (pc' := 182) C at_180 (Ls' := #[.val (.int p0), .val (.int p1), .val (.int p2), .val (.int p3), .val (.int p4), .val (.int (4 : Int32)), .val (.int c15), .val (.int c19), .val (.int c23), .val (.int c27), .val (.ref a29), .val (.ref a849), .val (.int (0 : Int32)), .unset, .unset, .unset, .unset]) rfl rfl ?_
            refine Ww.iload (pc' := 184) C at_182 rfl rfl ?_
            refine Ww.istore (pc' := 186) C at_184 (Ls' := #[.val (.int p0), .val (.int p1), .val (.int p2), .val (.int p3), .val (.int p4), .val (.int (4 : Int32)), .val (.int c15), .val (.int c19), .val (.int c23), .val (.int c27), .val (.ref a29), .val (.ref a849), .val (.int (0 : Int32)), .val (.int (0 : Int32)), .unset, .unset, .unset]) rfl rfl ?_
            refine Ww.iload (pc' := 188) C at_186 rfl rfl ?_
            refine Ww.if_le C at_188 (by decide) (pcT := 202) (by decide) (pc' := 191) rfl (fun q => absurd q (by decide)) (fun q1889 => ?_)
            refine Ww.iload (pc' := 193) C at_191 rfl rfl ?_
            refine Ww.callS (pc' := 196) C at_193 (fun vm0 C => (Wk.Con.pays C (Wn := 0) (own_sp l hw O859 c15) (w58 hw) (w2 hw) (by decide) (by decide))) Wk.cleanC (fun v h' q => Or.inl q.2) (w56 hw) (w57 hw) (w2 hw) (w58 hw) (by decide) (argsL := [(.int c15)]) (st := []) rfl rfl (lenOf pd14 rfl) rfl (Nat.le_of_eq rfl) (k' := 2) rfl (n' := 8) rfl (by decide) (by decide) rfl ?_
            intro r1890 h1891 Q1891 O1891
            obtain ⟨q1893, e1892⟩ := Q1891
            obtain rfl := e1892.symm
            rcases q1893 with ⟨rfl, q1893⟩ | ⟨rfl, q1893⟩
            · -- space: True
              exact absurd q1893 q1821
            · -- space: False
              refine Ww.if_ne C at_196 (by decide) (pcT := 202) (by decide) (pc' := 199) rfl (fun q => absurd q (by decide)) (fun q1894 => ?_)
              refine Ww.iconst (pc' := 200) C at_199 (v := (1 : Int32)) rfl rfl ?_
              refine Ww.istore (pc' := 202) C at_200 (Ls' := #[.val (.int p0), .val (.int p1), .val (.int p2), .val (.int p3), .val (.int p4), .val (.int (4 : Int32)), .val (.int c15), .val (.int c19), .val (.int c23), .val (.int c27), .val (.ref a29), .val (.ref a849), .val (.int (0 : Int32)), .val (.int (1 : Int32)), .unset, .unset, .unset]) rfl rfl ?_
              refine Ww.iload (pc' := 204) C at_202 rfl rfl ?_
              refine Ww.iconst (pc' := 205) C at_204 (v := (1 : Int32)) rfl rfl ?_
              refine Ww.icmp_le C at_205 (by decide) (pcT := 219) (by decide) (pc' := 208) rfl (fun q => absurd q (by decide)) (fun q1895 => ?_)
              refine Ww.iload (pc' := 210) C at_208 rfl rfl ?_
              refine Ww.callS (pc' := 213) C at_210 (fun vm0 C => (Wk.Con.pays C (Wn := 0) (own_sp l hw O859 c19) (w58 hw) (w2 hw) (by decide) (by decide))) Wk.cleanC (fun v h' q => Or.inl q.2) (w56 hw) (w57 hw) (w2 hw) (w58 hw) (by decide) (argsL := [(.int c19)]) (st := []) rfl rfl (lenOf pd14 rfl) rfl (Nat.le_of_eq rfl) (k' := 2) rfl (n' := 8) rfl (by decide) (by decide) rfl ?_
              intro r1896 h1897 Q1897 O1897
              obtain ⟨q1899, e1898⟩ := Q1897
              obtain rfl := e1898.symm
              rcases q1899 with ⟨rfl, q1899⟩ | ⟨rfl, q1899⟩
              · -- space: True
                exact absurd q1899 q1677
              · -- space: False
                refine Ww.if_ne C at_213 (by decide) (pcT := 219) (by decide) (pc' := 216) rfl (fun q => absurd q (by decide)) (fun q1900 => ?_)
                refine Ww.iconst (pc' := 217) C at_216 (v := (2 : Int32)) rfl rfl ?_
                refine Ww.istore (pc' := 219) C at_217 (Ls' := #[.val (.int p0), .val (.int p1), .val (.int p2), .val (.int p3), .val (.int p4), .val (.int (4 : Int32)), .val (.int c15), .val (.int c19), .val (.int c23), .val (.int c27), .val (.ref a29), .val (.ref a849), .val (.int (0 : Int32)), .val (.int (2 : Int32)), .unset, .unset, .unset]) rfl rfl ?_
                refine Ww.iload (pc' := 221) C at_219 rfl rfl ?_
                refine Ww.iconst (pc' := 222) C at_221 (v := (2 : Int32)) rfl rfl ?_
                refine Ww.icmp_le C at_222 (by decide) (pcT := 236) (by decide) (pc' := 225) rfl (fun q => absurd q (by decide)) (fun q1901 => ?_)
                refine Ww.iload (pc' := 227) C at_225 rfl rfl ?_
                refine Ww.callS (pc' := 230) C at_227 (fun vm0 C => (Wk.Con.pays C (Wn := 0) (own_sp l hw O859 c23) (w58 hw) (w2 hw) (by decide) (by decide))) Wk.cleanC (fun v h' q => Or.inl q.2) (w56 hw) (w57 hw) (w2 hw) (w58 hw) (by decide) (argsL := [(.int c23)]) (st := []) rfl rfl (lenOf pd14 rfl) rfl (Nat.le_of_eq rfl) (k' := 2) rfl (n' := 8) rfl (by decide) (by decide) rfl ?_
                intro r1902 h1903 Q1903 O1903
                obtain ⟨q1905, e1904⟩ := Q1903
                obtain rfl := e1904.symm
                rcases q1905 with ⟨rfl, q1905⟩ | ⟨rfl, q1905⟩
                · -- space: True
                  exact absurd q1905 q1389
                · -- space: False
                  refine Ww.if_ne C at_230 (by decide) (pcT := 236) (by decide) (pc' := 233) rfl (fun q => absurd q (by decide)) (fun q1906 => ?_)
                  refine Ww.iconst (pc' := 234) C at_233 (v := (3 : Int32)) rfl rfl ?_
                  refine Ww.istore (pc' := 236) C at_234 (Ls' := #[.val (.int p0), .val (.int p1), .val (.int p2), .val (.int p3), .val (.int p4), .val (.int (4 : Int32)), .val (.int c15), .val (.int c19), .val (.int c23), .val (.int c27), .val (.ref a29), .val (.ref a849), .val (.int (0 : Int32)), .val (.int (3 : Int32)), .unset, .unset, .unset]) rfl rfl ?_
                  refine Ww.iload (pc' := 238) C at_236 rfl rfl ?_
                  refine Ww.iconst (pc' := 239) C at_238 (v := (3 : Int32)) rfl rfl ?_
                  refine Ww.icmp_le C at_239 (by decide) (pcT := 253) (by decide) (pc' := 242) rfl (fun q => absurd q (by decide)) (fun q1907 => ?_)
                  refine Ww.iload (pc' := 244) C at_242 rfl rfl ?_
                  refine Ww.callS (pc' := 247) C at_244 (fun vm0 C => (Wk.Con.pays C (Wn := 0) (own_sp l hw O859 c27) (w58 hw) (w2 hw) (by decide) (by decide))) Wk.cleanC (fun v h' q => Or.inl q.2) (w56 hw) (w57 hw) (w2 hw) (w58 hw) (by decide) (argsL := [(.int c27)]) (st := []) rfl rfl (lenOf pd14 rfl) rfl (Nat.le_of_eq rfl) (k' := 2) rfl (n' := 8) rfl (by decide) (by decide) rfl ?_
                  intro r1908 h1909 Q1909 O1909
                  obtain ⟨q1911, e1910⟩ := Q1909
                  obtain rfl := e1910.symm
                  rcases q1911 with ⟨rfl, q1911⟩ | ⟨rfl, q1911⟩
                  · -- space: True
                    exact absurd q1911 q864
                  · -- space: False
                    refine Ww.if_ne C at_247 (by decide) (pcT := 253) (by decide) (pc' := 250) rfl (fun q => absurd q (by decide)) (fun q1912 => ?_)
                    refine Ww.iconst (pc' := 251) C at_250 (v := (4 : Int32)) rfl rfl ?_
                    refine Ww.istore (pc' := 253) C at_251 (Ls' := #[.val (.int p0), .val (.int p1), .val (.int p2), .val (.int p3), .val (.int p4), .val (.int (4 : Int32)), .val (.int c15), .val (.int c19), .val (.int c23), .val (.int c27), .val (.ref a29), .val (.ref a849), .val (.int (0 : Int32)), .val (.int (4 : Int32)), .unset, .unset, .unset]) rfl rfl ?_
                    refine Ww.iload (pc' := 255) C at_253 rfl rfl ?_
                    refine Ww.iload (pc' := 257) C at_255 rfl rfl ?_
                    refine Ww.isub (pc' := 258) C at_257 (v := (4 : Int32)) (by decide) rfl ?_
                    refine Ww.istore (pc' := 260) C at_258 (Ls' := #[.val (.int p0), .val (.int p1), .val (.int p2), .val (.int p3), .val (.int p4), .val (.int (4 : Int32)), .val (.int c15), .val (.int c19), .val (.int c23), .val (.int c27), .val (.ref a29), .val (.ref a849), .val (.int (0 : Int32)), .val (.int (4 : Int32)), .val (.int (4 : Int32)), .unset, .unset]) rfl rfl ?_
                    refine Ww.newO (pc' := 263) C at_260 (w5 hw) (w6 hw) (w7 hw) (k' := 3) rfl (n' := 12) rfl (by decide) (by decide) rfl ?_
                    intro a1913 h1914 ga1913 za1913 E1914 Aa1913 Da1913 Ua1913 O1914
                    have F1915 : Fld Z h1914 a1913 "java/lang/String" "value" "[B" .null := Da1913 (Or.inr (w20 hw)) (ty := (.array .byte)) (by decide)
                    have F1916 : Fld Z h1914 a1913 "java/lang/String" "coder" "B" (.int (0 : Int32)) := Da1913 (Or.inr (w21 hw)) (ty := .byte) (by decide)
                    refine Ww.dup (pc' := 264) C at_263 rfl rfl ?_
                    refine Ww.aload (pc' := 266) C at_264 rfl rfl rfl ?_
                    have hp1917 : ∀ c ∈ ([c15, c19, c23, c27] : List Int32), ¬ c < 0 ∧ ¬ (255 : Int32) < c := (List.forall_mem_cons.mpr ⟨rc15, (List.forall_mem_cons.mpr ⟨rc19, (List.forall_mem_cons.mpr ⟨rc23, (List.forall_mem_cons.mpr ⟨rc27, (fun _ h => nomatch h)⟩)⟩)⟩)⟩)
                    refine Ww.callI (pc' := 269) C at_266 (a := a1913) (fun vm0 C => (strNew C hw hs O1914 (cs := [c15, c19, c23, c27]) (n := 4) (Wn := 1) za1913 Aa1913 F1915 F1916 (V859.ext E1914) rfl (by decide) (by decide) hp1917 (by decide) (by decide))) (strNewC (n := 4) O1914 za1913 rfl (by decide) hp1917) (fun v h' q => Or.inr (Or.inr ⟨a1913, (List.mem_of_getElem? (i := 0) rfl), q.2.1⟩)) rfl (w8 hw) (w9 hw) (w10 hw) (by decide) (argsL := [(.ref a849)]) (st := [(.ref a1913)]) rfl rfl (lenOf pd12 rfl) rfl (Nat.le_of_eq rfl) (k' := 4) rfl (n' := 16) rfl (by decide) (by decide) rfl ?_
                    intro r1918 h1919 Q1919 O1919
                    obtain ⟨rfl, Kh1919, Sh1919⟩ := Q1919
                    refine Ww.callSS (pc' := 272) C at_269 (Ww.Con.pays hE (Wn := 0) (own_wos l hw hE O1919 hs a1913 [c15, c19, c23, c27] Sh1919 (show _ ≤ 4 from Nat.le_of_ble_eq_true rfl)) (w29 hw) (w28 hw) (by decide) (by decide)) Wk.cleanC (w26 hw) (w27 hw) (w28 hw) (w29 hw) (by decide) (argsL := [(.ref a1913)]) (st := []) rfl rfl (lenOf pd13 rfl) rfl (Nat.le_of_eq rfl) (k' := 8) rfl (n' := 28) rfl (by decide) (by decide) rfl ?_
                    intro r1920 h1921 Q1921 O1921
                    obtain ⟨x1922, rfl, E1921, S1921⟩ := Q1921
                    refine Ww.astore (pc' := 274) C at_272 rfl (Ls' := #[.val (.int p0), .val (.int p1), .val (.int p2), .val (.int p3), .val (.int p4), .val (.int (4 : Int32)), .val (.int c15), .val (.int c19), .val (.int c23), .val (.int c27), .val (.ref a29), .val (.ref a849), .val (.int (0 : Int32)), .val (.int (4 : Int32)), .val (.int (4 : Int32)), .val (.ref x1922), .unset]) rfl rfl ?_
                    have hT : trim [c15, c19, c23, c27] = [c15, c19, c23, c27] := by simp [trim, lead, endAt, q1821, q1677, q1389, q864]
                    have G15 : Str Z h1921 x1922 [c15, c19, c23, c27] := hT ▸ S1921
                    refine Ww.aload (pc' := 276) C at_274 rfl rfl rfl ?_
                    refine Ww.callV (pc' := 279) C at_276 (a := x1922) (fun vm0 C => (strLen C hw hs O1921 (Wn := 0) G15 (by decide) (by decide))) (pureC (P := fun v => v = some (.int (Int32.ofNat ([c15, c19, c23, c27] : List Int32).length))) O1921) (fun v h' q => Or.inl q.2) S1921.exa (w55 hw) (w31 hw) (fun vm0 hZ0 => notFace_of_selects (args := #[]) (mvT (s := W.s.setVm vm0) hZ0 (w33 hw))) (w33 hw) (w32 hw) (by decide) (argsL := []) (st := []) rfl rfl (lenOf pd5 rfl) rfl (Nat.le_of_eq rfl) (k' := 8) rfl (n' := 28) rfl (by decide) (by decide) rfl ?_
                    intro r1923 h1924 Q1924 O1924
                    obtain ⟨rfl, e1925⟩ := Q1924
                    obtain rfl := e1925.symm
                    refine Ww.iload (pc' := 281) C at_279 rfl rfl ?_
                    refine Ww.icmp_ne C at_281 (by decide) (pcT := 288) (by decide) (pc' := 284) rfl (fun q => absurd rfl q) (fun q1926 => ?_)
                    refine Ww.iconst (pc' := 285) C at_284 (v := (1 : Int32)) rfl rfl ?_
                    refine Ww.goto C at_285 (by decide) (pc' := 289) (by decide) ?_
                    refine Ww.istore (pc' := 291) C at_289 (Ls' := #[.val (.int p0), .val (.int p1), .val (.int p2), .val (.int p3), .val (.int p4), .val (.int (4 : Int32)), .val (.int c15), .val (.int c19), .val (.int c23), .val (.int c27), .val (.ref a29), .val (.ref a849), .val (.int (0 : Int32)), .val (.int (4 : Int32)), .val (.int (4 : Int32)), .val (.ref x1922), .val (.int (1 : Int32))]) rfl rfl ?_
                    refine Ww.iload (pc' := 293) C at_291 rfl rfl ?_
                    refine Ww.if_eq C at_293 (by decide) (pcT := 322) (by decide) (pc' := 296) rfl (fun q => absurd q (by decide)) (fun q1927 => ?_)
                    refine Ww.iload (pc' := 298) C at_296 rfl rfl ?_
                    refine Ww.if_le C at_298 (by decide) (pcT := 322) (by decide) (pc' := 301) rfl (fun q => absurd q (by decide)) (fun q1928 => ?_)
                    refine Ww.aload (pc' := 303) C at_301 rfl rfl rfl ?_
                    refine Ww.iconst (pc' := 304) C at_303 (v := (0 : Int32)) rfl rfl ?_
                    refine Ww.callV (pc' := 307) C at_304 (a := x1922) (fun vm0 C => (strAt C hw hs O1921 (Wn := 0) (i := 0) G15 (show _ < _ from Nat.le_of_ble_eq_true rfl) rfl (by decide) (by decide))) (pureC (P := fun v => v = some (.int (([c15, c19, c23, c27] : List Int32).getD 0 0))) O1921) (fun v h' q => Or.inl q.2) S1921.exa (w114 hw) (w70 hw) (fun vm0 hZ0 => notFace_of_selects (args := #[]) (mvT (s := W.s.setVm vm0) hZ0 (w72 hw))) (w72 hw) (w71 hw) (by decide) (argsL := [(.int (0 : Int32))]) (st := []) rfl rfl (lenOf pd10 rfl) rfl (Nat.le_of_eq rfl) (k' := 8) rfl (n' := 28) rfl (by decide) (by decide) rfl ?_
                    intro r1929 h1930 Q1930 O1930
                    obtain ⟨rfl, e1931⟩ := Q1930
                    obtain rfl := e1931.symm
                    refine Ww.aload (pc' := 309) C at_307 rfl rfl rfl ?_
                    refine Ww.iload (pc' := 311) C at_309 rfl rfl ?_
                    have X1932 : Ext h35 h853 := Wk.Ext.wr (Z := Z) E850 W853 (Nat.le_of_eq ga849.symm)
                    have X1933 : Ext h35 h855 := Wk.Ext.wr (Z := Z) X1932 W855 (Nat.le_of_eq ga849.symm)
                    have X1934 : Ext h35 h857 := Wk.Ext.wr (Z := Z) X1933 W857 (Nat.le_of_eq ga849.symm)
                    have X1935 : Ext h35 h859 := Wk.Ext.wr (Z := Z) X1934 W859 (Nat.le_of_eq ga849.symm)
                    have X1936 : Ext h35 h1914 := Wk.Ext.trans X1935 E1914
                    have X1937 : Ext h35 h1919 := Wk.Ext.keep1 (Z := Z) X1936 Kh1919 (Nat.le_trans X1935.1 (Nat.le_of_eq ga1913.symm))
                    have X1938 : Ext h35 h1921 := Wk.Ext.trans X1937 E1921
                    refine Ww.caload (pc' := 312) C at_311 (V35.ext X1938) (by decide) (v := (.int c15)) rfl rfl ?_
                    refine Ww.icmp_ne C at_312 (by decide) (pcT := 319) (by decide) (pc' := 315) rfl (fun q => absurd rfl q) (fun q1939 => ?_)
                    refine Ww.iconst (pc' := 316) C at_315 (v := (1 : Int32)) rfl rfl ?_
                    refine Ww.goto C at_316 (by decide) (pc' := 320) (by decide) ?_
                    refine Ww.istore (pc' := 322) C at_320 (Ls' := #[.val (.int p0), .val (.int p1), .val (.int p2), .val (.int p3), .val (.int p4), .val (.int (4 : Int32)), .val (.int c15), .val (.int c19), .val (.int c23), .val (.int c27), .val (.ref a29), .val (.ref a849), .val (.int (0 : Int32)), .val (.int (4 : Int32)), .val (.int (4 : Int32)), .val (.ref x1922), .val (.int (1 : Int32))]) rfl rfl ?_
                    refine Ww.iload (pc' := 324) C at_322 rfl rfl ?_
                    refine Ww.if_eq C at_324 (by decide) (pcT := 356) (by decide) (pc' := 327) rfl (fun q => absurd q (by decide)) (fun q1940 => ?_)
                    refine Ww.iload (pc' := 329) C at_327 rfl rfl ?_
                    refine Ww.iconst (pc' := 330) C at_329 (v := (1 : Int32)) rfl rfl ?_
                    refine Ww.icmp_le C at_330 (by decide) (pcT := 356) (by decide) (pc' := 333) rfl (fun q => absurd q (by decide)) (fun q1941 => ?_)
                    refine Ww.aload (pc' := 335) C at_333 rfl rfl rfl ?_
                    refine Ww.iconst (pc' := 336) C at_335 (v := (1 : Int32)) rfl rfl ?_
                    refine Ww.callV (pc' := 339) C at_336 (a := x1922) (fun vm0 C => (strAt C hw hs O1921 (Wn := 0) (i := 1) G15 (show _ < _ from Nat.le_of_ble_eq_true rfl) rfl (by decide) (by decide))) (pureC (P := fun v => v = some (.int (([c15, c19, c23, c27] : List Int32).getD 1 0))) O1921) (fun v h' q => Or.inl q.2) S1921.exa (w114 hw) (w70 hw) (fun vm0 hZ0 => notFace_of_selects (args := #[]) (mvT (s := W.s.setVm vm0) hZ0 (w72 hw))) (w72 hw) (w71 hw) (by decide) (argsL := [(.int (1 : Int32))]) (st := []) rfl rfl (lenOf pd10 rfl) rfl (Nat.le_of_eq rfl) (k' := 8) rfl (n' := 28) rfl (by decide) (by decide) rfl ?_
                    intro r1942 h1943 Q1943 O1943
                    obtain ⟨rfl, e1944⟩ := Q1943
                    obtain rfl := e1944.symm
                    refine Ww.aload (pc' := 341) C at_339 rfl rfl rfl ?_
                    refine Ww.iload (pc' := 343) C at_341 rfl rfl ?_
                    refine Ww.iconst (pc' := 344) C at_343 (v := (1 : Int32)) rfl rfl ?_
                    refine Ww.iadd (pc' := 345) C at_344 (v := (1 : Int32)) (by decide) rfl ?_
                    refine Ww.caload (pc' := 346) C at_345 (V35.ext X1938) (by decide) (v := (.int c19)) rfl rfl ?_
                    refine Ww.icmp_ne C at_346 (by decide) (pcT := 353) (by decide) (pc' := 349) rfl (fun q => absurd rfl q) (fun q1945 => ?_)
                    refine Ww.iconst (pc' := 350) C at_349 (v := (1 : Int32)) rfl rfl ?_
                    refine Ww.goto C at_350 (by decide) (pc' := 354) (by decide) ?_
                    refine Ww.istore (pc' := 356) C at_354 (Ls' := #[.val (.int p0), .val (.int p1), .val (.int p2), .val (.int p3), .val (.int p4), .val (.int (4 : Int32)), .val (.int c15), .val (.int c19), .val (.int c23), .val (.int c27), .val (.ref a29), .val (.ref a849), .val (.int (0 : Int32)), .val (.int (4 : Int32)), .val (.int (4 : Int32)), .val (.ref x1922), .val (.int (1 : Int32))]) rfl rfl ?_
                    refine Ww.iload (pc' := 358) C at_356 rfl rfl ?_
                    refine Ww.if_eq C at_358 (by decide) (pcT := 390) (by decide) (pc' := 361) rfl (fun q => absurd q (by decide)) (fun q1946 => ?_)
                    refine Ww.iload (pc' := 363) C at_361 rfl rfl ?_
                    refine Ww.iconst (pc' := 364) C at_363 (v := (2 : Int32)) rfl rfl ?_
                    refine Ww.icmp_le C at_364 (by decide) (pcT := 390) (by decide) (pc' := 367) rfl (fun q => absurd q (by decide)) (fun q1947 => ?_)
                    refine Ww.aload (pc' := 369) C at_367 rfl rfl rfl ?_
                    refine Ww.iconst (pc' := 370) C at_369 (v := (2 : Int32)) rfl rfl ?_
                    refine Ww.callV (pc' := 373) C at_370 (a := x1922) (fun vm0 C => (strAt C hw hs O1921 (Wn := 0) (i := 2) G15 (show _ < _ from Nat.le_of_ble_eq_true rfl) rfl (by decide) (by decide))) (pureC (P := fun v => v = some (.int (([c15, c19, c23, c27] : List Int32).getD 2 0))) O1921) (fun v h' q => Or.inl q.2) S1921.exa (w114 hw) (w70 hw) (fun vm0 hZ0 => notFace_of_selects (args := #[]) (mvT (s := W.s.setVm vm0) hZ0 (w72 hw))) (w72 hw) (w71 hw) (by decide) (argsL := [(.int (2 : Int32))]) (st := []) rfl rfl (lenOf pd10 rfl) rfl (Nat.le_of_eq rfl) (k' := 8) rfl (n' := 28) rfl (by decide) (by decide) rfl ?_
                    intro r1948 h1949 Q1949 O1949
                    obtain ⟨rfl, e1950⟩ := Q1949
                    obtain rfl := e1950.symm
                    refine Ww.aload (pc' := 375) C at_373 rfl rfl rfl ?_
                    refine Ww.iload (pc' := 377) C at_375 rfl rfl ?_
                    refine Ww.iconst (pc' := 378) C at_377 (v := (2 : Int32)) rfl rfl ?_
                    refine Ww.iadd (pc' := 379) C at_378 (v := (2 : Int32)) (by decide) rfl ?_
                    refine Ww.caload (pc' := 380) C at_379 (V35.ext X1938) (by decide) (v := (.int c23)) rfl rfl ?_
                    refine Ww.icmp_ne C at_380 (by decide) (pcT := 387) (by decide) (pc' := 383) rfl (fun q => absurd rfl q) (fun q1951 => ?_)
                    refine Ww.iconst (pc' := 384) C at_383 (v := (1 : Int32)) rfl rfl ?_
                    refine Ww.goto C at_384 (by decide) (pc' := 388) (by decide) ?_
                    refine Ww.istore (pc' := 390) C at_388 (Ls' := #[.val (.int p0), .val (.int p1), .val (.int p2), .val (.int p3), .val (.int p4), .val (.int (4 : Int32)), .val (.int c15), .val (.int c19), .val (.int c23), .val (.int c27), .val (.ref a29), .val (.ref a849), .val (.int (0 : Int32)), .val (.int (4 : Int32)), .val (.int (4 : Int32)), .val (.ref x1922), .val (.int (1 : Int32))]) rfl rfl ?_
                    refine Ww.iload (pc' := 392) C at_390 rfl rfl ?_
                    refine Ww.if_eq C at_392 (by decide) (pcT := 424) (by decide) (pc' := 395) rfl (fun q => absurd q (by decide)) (fun q1952 => ?_)
                    refine Ww.iload (pc' := 397) C at_395 rfl rfl ?_
                    refine Ww.iconst (pc' := 398) C at_397 (v := (3 : Int32)) rfl rfl ?_
                    refine Ww.icmp_le C at_398 (by decide) (pcT := 424) (by decide) (pc' := 401) rfl (fun q => absurd q (by decide)) (fun q1953 => ?_)
                    refine Ww.aload (pc' := 403) C at_401 rfl rfl rfl ?_
                    refine Ww.iconst (pc' := 404) C at_403 (v := (3 : Int32)) rfl rfl ?_
                    refine Ww.callV (pc' := 407) C at_404 (a := x1922) (fun vm0 C => (strAt C hw hs O1921 (Wn := 0) (i := 3) G15 (show _ < _ from Nat.le_of_ble_eq_true rfl) rfl (by decide) (by decide))) (pureC (P := fun v => v = some (.int (([c15, c19, c23, c27] : List Int32).getD 3 0))) O1921) (fun v h' q => Or.inl q.2) S1921.exa (w114 hw) (w70 hw) (fun vm0 hZ0 => notFace_of_selects (args := #[]) (mvT (s := W.s.setVm vm0) hZ0 (w72 hw))) (w72 hw) (w71 hw) (by decide) (argsL := [(.int (3 : Int32))]) (st := []) rfl rfl (lenOf pd10 rfl) rfl (Nat.le_of_eq rfl) (k' := 8) rfl (n' := 28) rfl (by decide) (by decide) rfl ?_
                    intro r1954 h1955 Q1955 O1955
                    obtain ⟨rfl, e1956⟩ := Q1955
                    obtain rfl := e1956.symm
                    refine Ww.aload (pc' := 409) C at_407 rfl rfl rfl ?_
                    refine Ww.iload (pc' := 411) C at_409 rfl rfl ?_
                    refine Ww.iconst (pc' := 412) C at_411 (v := (3 : Int32)) rfl rfl ?_
                    refine Ww.iadd (pc' := 413) C at_412 (v := (3 : Int32)) (by decide) rfl ?_
                    refine Ww.caload (pc' := 414) C at_413 (V35.ext X1938) (by decide) (v := (.int c27)) rfl rfl ?_
                    refine Ww.icmp_ne C at_414 (by decide) (pcT := 421) (by decide) (pc' := 417) rfl (fun q => absurd rfl q) (fun q1957 => ?_)
                    refine Ww.iconst (pc' := 418) C at_417 (v := (1 : Int32)) rfl rfl ?_
                    refine Ww.goto C at_418 (by decide) (pc' := 422) (by decide) ?_
                    refine Ww.istore (pc' := 424) C at_422 (Ls' := #[.val (.int p0), .val (.int p1), .val (.int p2), .val (.int p3), .val (.int p4), .val (.int (4 : Int32)), .val (.int c15), .val (.int c19), .val (.int c23), .val (.int c27), .val (.ref a29), .val (.ref a849), .val (.int (0 : Int32)), .val (.int (4 : Int32)), .val (.int (4 : Int32)), .val (.ref x1922), .val (.int (1 : Int32))]) rfl rfl ?_
                    refine Ww.iload (pc' := 426) C at_424 rfl rfl ?_
                    exact Ww.retNar (ty := .boolean) C hE (by simp) at_426 rfl (by decide) (by decide) rfl
set_option maxRecDepth 65536 in
set_option maxHeartbeats 40000000 in
theorem comes_1 {Post : Tables → Env → Array Value → State → Outcome → State → Prop} (hpost : ∀ tb e args s v u, (limb_1_1.after args s (.returned v) u = true ∧ limb_1_2.after args s (.returned v) u = true ∧ True) → ReturnedEndW s (.returned v) u (Jvm.fieldLocs frame_1_writes args s ++ Jvm.arrayLocs frame_1_arrays args s ++ Jvm.staticLocs frame_1_statics s) 24 2176 → Post tb e args s (.returned v) u) :
    ArmFor flags0 classFile x code maxLocals ret World_1 tables_1 room_1 Calls_1 rest_1 Pre_1 Post := by
  intro l hfl _ _ p e ha hc hk s m args below hf hA hF happ hP
  obtain ⟨hcalls, hrest, hpre⟩ := hP
  obtain ⟨-, -, -, hnamed, -, -, -, hat⟩ := (Spec.applies_iff hf).mp happ
  obtain ⟨hg, hn⟩ := and_e (Cond.before_iff.mp (show (Jvm.Cond.and given_1 narrow_1).before args s = true from hpre))
  obtain ⟨gc0, gr0⟩ := and_e hg
  obtain ⟨gc1, gr1⟩ := and_e gr0
  obtain ⟨gc2, gr2⟩ := and_e gr1
  obtain ⟨gc3, gr3⟩ := and_e gr2
  obtain ⟨gc4, gr4⟩ := and_e gr3
  obtain ⟨w0, w1, w2, w3, w4, rfl⟩ : ∃ w0 w1 w2 w3 w4 : Value, args = #[w0, w1, w2, w3, w4] := by
    have hs : args.size = 5 := by simpa [Cond.value, given_1] using gc0
    obtain ⟨L⟩ := args
    match L, hs with
    | [w0, w1, w2, w3, w4], _ => exact ⟨w0, w1, w2, w3, w4, rfl⟩
  have hw : Ws _ s := fun d (hd : d ∈ tables_1) => atoms_spec (ws := Jvm.Cond.code x code maxLocals ret :: tables_1) hat d (List.mem_cons_of_mem _ hd)
  have hfit : Fit s := fun {y c} hc i hi => by
    obtain ⟨ha, rfl⟩ := Array.getElem?_eq_some_iff.mp hc
    have q := List.all_eq_true.mp ((Array.all_eq_true_iff_forall_mem.mp hF) _ (Array.getElem_mem ha)) i (List.mem_range.mpr hi)
    simpa [Array.getElem?_eq_getElem hi] using q
  obtain ⟨i0, ei0⟩ := is_v gc1
  obtain rfl : w0 = (.int i0) := Option.some.inj ei0
  obtain ⟨i1, ei1⟩ := is_v gc2
  obtain rfl : w1 = (.int i1) := Option.some.inj ei1
  obtain ⟨i2, ei2⟩ := is_v gc3
  obtain rfl : w2 = (.int i2) := Option.some.inj ei2
  obtain ⟨i3, ei3⟩ := is_v gc4
  obtain rfl : w3 = (.int i3) := Option.some.inj ei3
  obtain ⟨i4, ei4⟩ := is_v gr4
  obtain rfl : w4 = (.int i4) := Option.some.inj ei4
  obtain ⟨hsets, hown0⟩ := atoms_of _ (rest_1_c_eq ▸ (show rest_1_c.before _ s = true from hrest))
  have hS : Sets s := by
    have n5 := not_v (Cond.before_iff.mp (hsets _ (List.mem_of_getElem? (i := 2) rfl)))
    obtain ⟨zc, ez⟩ := is_v (Cond.before_iff.mp (hsets _ (List.mem_of_getElem? (i := 1) rfl)))
    obtain ⟨fm, ef, rf⟩ := isR_v (Cond.before_iff.mp (hsets _ (List.mem_of_getElem? (i := 8) rfl)))
    exact ⟨zc, fm, Sta.start ez (Or.inl (hsets _ (List.mem_of_getElem? (i := 0) rfl))), gotF (Cond.eq_ints ez (Term.int_eval (0))) n5, Sta.start ef (Or.inl (hsets _ (List.mem_of_getElem? (i := 7) rfl))), rf⟩
  have hE := own_EW hw
  have hCH : CHv s EL s.vm s.heap := CHv.start hE hcalls.1 (hsets _ (List.mem_of_getElem? (i := 2) rfl)) (w19 hw) (w6 hw)
  obtain ⟨n, o, h1, h2, h3, _, L, rfl, ⟨rfl, -, N⟩, -, hq⟩ := own_law l hw hE i0 i1 i2 i3 i4 hS tables_1 p e ha hc hk s m _ below hf ((Spec.applies_iff_loose hf).mp happ).1 ⟨rfl, State.Warmed39.refl s, rfl, hCH⟩ trivial
  refine ⟨n, _, h1, h2, h3, hpost _ _ _ _ _ _ ⟨Cond.after_iff.mpr rfl, Cond.after_iff.mpr (eq_i res_at (Term.int_eval (1)) rfl), trivial⟩ ⟨hq.1, hq.2.1, hq.2.2.1, (hq.2.2.2.sift fun y hy => Or.inr (N y hy)).mono (by decide) (by decide)⟩⟩
theorem main_1_1 : Claimed_1_1 := comes_1 fun _ _ _ _ _ _ h hF => ⟨h.1, hF⟩
theorem main_1_2 : Claimed_1_2 := comes_1 fun _ _ _ _ _ _ h hF => ⟨h.2.1, hF⟩
end Jvm.Pilot.@@N@@
namespace Jvm.Pilot.@@N@@
open Jvm Jvm.ClassFile Sem Op Lib Jvm.Free Jvm.Stand Jvm.Pilot.@@N@@.Jvm.D
/-! MADE BY PROGRAM (witnessworld.py) out of the Statement's table words and the real class files: 23 classes; the members and pool entries that the words name. The judged class is class 1, her method 3. -/
namespace start1
open Jvm.ClassFile
def u (s : String) : CpInfo := .utf8 (stringToUtf16 s)
/-- a pool by its gaps: so many unusable entries, then the entry; so many at the end -/
def gap : Nat → List CpInfo → List CpInfo
  | 0, r => r
  | n + 1, r => .unusable :: gap n r
def poolList (es : List (Nat × CpInfo)) (last : Nat) : List CpInfo := es.foldr (fun e r => gap e.1 (e.2 :: r)) (gap last [])
def pool (es : List (Nat × CpInfo)) (last : Nat) : Array CpInfo := ⟨poolList es last⟩
def fileOf (pool : Array CpInfo) (this : Nat) (attrs : Array Attribute := #[]) (ms : Array MethodInfo := #[]) (fl : Nat := 33) (sup : Nat := 0) (ifs : Array Nat := #[]) (fds : Array FieldInfo := #[]) : ClassFile where
  minorVersion := 0
  majorVersion := 65
  constantPool := pool
  accessFlags := fl
  thisClass := this
  superClass := sup
  interfaces := ifs
  fields := fds
  methods := ms
  attributes := attrs
def plain (name : String) (sup : Option ClassId) : Class where
  name := name
  kind := .ordinary
  loader := none
  accessFlags := 33
  super := sup
  interfaces := #[]
  cf := none
  fields := #[]
  methods := #[]
  instanceTypes := #[]
  staticTypes := #[]
  resolved := #[]
  callSites := []
  init := .initialized
  statics := none
  mirror := none

def pool0 : Array CpInfo := pool [(5, u "<init>"), (0, u "()V"), (1, .class_ 10), (1, u "java/lang/Object")] 113

def k0c0 : Code := { maxStack := 0, maxLocals := 1, code := object_method_1_code, exceptionTable := #[], attributes := #[] }
def k0m0 : Method := { name := "<init>", desc := "()V", sig := { parameters := [], returnType := none }, accessFlags := 1, code := some k0c0 }
/-- java/lang/Object -/
def k0 : Class := { plain "java/lang/Object" none with
  accessFlags := 33
  interfaces := #[]
  cf := some (fileOf pool0 8 #[] #[{ accessFlags := 1, nameIndex := 5, descriptorIndex := 6, attributes := #[] }] 33 0 #[] #[])
  fields := #[]
  methods := #[k0m0]
  instanceTypes := #[]
  staticTypes := #[]
  resolved := Array.replicate 124 none
  statics := none }

def pool1 : Array CpInfo := pool [(2, .class_ 4), (1, u "java/lang/Object"), (0, u "<init>"), (0, u "()V"), (0, .methodref 8 9), (0, .class_ 10), (0, .nameAndType 11 12), (0, u "com/example/shelfmark/shelfmark/model/MarcRecordWithoutOuterSpacesPinLaw"), (0, u "draw"), (0, u "(I)C"), (0, .methodref 8 14), (0, .nameAndType 15 16), (0, u "sp"), (0, u "(C)Z"), (0, .class_ 18), (0, u "java/lang/String"), (0, .methodref 17 20), (0, .nameAndType 5 21), (0, u "([C)V"), (0, .methodref 23 24), (0, .class_ 25), (0, .nameAndType 26 27), (0, u "com/example/shelfmark/shelfmark/model/MarcRecord"), (0, u "withoutOuterSpaces"), (0, u "(Ljava/lang/String;)Ljava/lang/String;"), (0, .methodref 17 29), (0, .nameAndType 30 31), (0, u "length"), (0, u "()I"), (0, .methodref 17 33), (0, .nameAndType 34 12), (0, u "charAt"), (3, u "law"), (0, u "(IIIII)Z")] 4

def k1m0 : Method := { name := "<init>", desc := "()V", sig := { parameters := [], returnType := none }, accessFlags := 1, code := none }
def k1c1 : Code := { maxStack := 2, maxLocals := 1, code := method_2_code, exceptionTable := #[], attributes := #[] }
def k1m1 : Method := { name := "draw", desc := "(I)C", sig := { parameters := [.int], returnType := some .char }, accessFlags := 10, code := some k1c1 }
def k1c2 : Code := { maxStack := 2, maxLocals := 1, code := method_3_code, exceptionTable := #[], attributes := #[] }
def k1m2 : Method := { name := "sp", desc := "(C)Z", sig := { parameters := [.char], returnType := some .boolean }, accessFlags := 10, code := some k1c2 }
def k1c3 : Code := { maxStack := 4, maxLocals := 17, code := code, exceptionTable := #[], attributes := #[] }
def k1m3 : Method := { name := "law", desc := "(IIIII)Z", sig := { parameters := [.int, .int, .int, .int, .int], returnType := some .boolean }, accessFlags := 9, code := some k1c3 }
/-- com/example/shelfmark/shelfmark/model/MarcRecordWithoutOuterSpacesPinLaw -/
def k1 : Class := { plain "com/example/shelfmark/shelfmark/model/MarcRecordWithoutOuterSpacesPinLaw" (some 0) with
  accessFlags := 49
  interfaces := #[]
  cf := some (fileOf pool1 8 #[] #[{ accessFlags := 1, nameIndex := 5, descriptorIndex := 6, attributes := #[] }, { accessFlags := 10, nameIndex := 11, descriptorIndex := 12, attributes := #[] }, { accessFlags := 10, nameIndex := 15, descriptorIndex := 16, attributes := #[] }, { accessFlags := 9, nameIndex := 38, descriptorIndex := 39, attributes := #[] }] 49 2 #[] #[])
  fields := #[]
  methods := #[k1m0, k1m1, k1m2, k1m3]
  instanceTypes := #[]
  staticTypes := #[]
  resolved := Array.replicate 44 none
  statics := none }

def pool2 : Array CpInfo := pool [(1, .class_ 2), (0, u "java/io/Serializable"), (0, .class_ 4), (0, u "java/lang/Object")] 2

/-- java/io/Serializable -/
def k2 : Class := { plain "java/io/Serializable" (some 0) with
  accessFlags := 1537
  interfaces := #[]
  cf := some (fileOf pool2 1 #[] #[] 1537 3 #[] #[])
  fields := #[]
  methods := #[]
  instanceTypes := #[]
  staticTypes := #[]
  resolved := Array.replicate 7 none
  statics := none }

def pool3 : Array CpInfo := pool [(1, .class_ 2), (0, u "java/lang/Comparable"), (0, .class_ 4), (0, u "java/lang/Object")] 7

/-- java/lang/Comparable -/
def k3 : Class := { plain "java/lang/Comparable" (some 0) with
  accessFlags := 1537
  interfaces := #[]
  cf := some (fileOf pool3 1 #[] #[] 1537 3 #[] #[])
  fields := #[]
  methods := #[]
  instanceTypes := #[]
  staticTypes := #[]
  resolved := Array.replicate 12 none
  statics := none }

def pool4 : Array CpInfo := pool [(2, .class_ 4), (1, u "java/lang/CharSequence"), (42, .class_ 48), (0, u "java/lang/CharSequence$1CodePointIterator"), (10, .class_ 60), (0, u "java/lang/CharSequence$1CharIterator"), (5, .class_ 67), (0, u "java/lang/Object")] 63

/-- java/lang/CharSequence -/
def k4 : Class := { plain "java/lang/CharSequence" (some 0) with
  accessFlags := 1537
  interfaces := #[]
  cf := some (fileOf pool4 2 #[.nestMembers #[47, 59]] #[] 1537 66 #[] #[])
  fields := #[]
  methods := #[]
  instanceTypes := #[]
  staticTypes := #[]
  resolved := Array.replicate 131 none
  statics := none }

def pool5 : Array CpInfo := pool [(1, .class_ 2), (0, u "java/lang/constant/Constable"), (0, .class_ 4), (0, u "java/lang/Object")] 6

/-- java/lang/constant/Constable -/
def k5 : Class := { plain "java/lang/constant/Constable" (some 0) with
  accessFlags := 1537
  interfaces := #[]
  cf := some (fileOf pool5 1 #[] #[] 1537 3 #[] #[])
  fields := #[]
  methods := #[]
  instanceTypes := #[]
  staticTypes := #[]
  resolved := Array.replicate 11 none
  statics := none }

def pool6 : Array CpInfo := pool [(1, .class_ 2), (0, u "java/lang/constant/ConstantDesc"), (0, .class_ 4), (0, u "java/lang/Object")] 32

/-- java/lang/constant/ConstantDesc -/
def k6 : Class := { plain "java/lang/constant/ConstantDesc" (some 0) with
  accessFlags := 1537
  interfaces := #[]
  cf := some (fileOf pool6 1 #[] #[] 1537 3 #[] #[])
  fields := #[]
  methods := #[]
  instanceTypes := #[]
  staticTypes := #[]
  resolved := Array.replicate 37 none
  statics := none }

def pool7 : Array CpInfo := pool [(1, .methodref 2 3), (0, .class_ 4), (0, .nameAndType 5 6), (0, u "java/lang/Object"), (0, u "<init>"), (0, u "()V"), (0, .string 8), (0, u ""), (0, .fieldref 10 11), (0, .class_ 12), (0, .nameAndType 13 14), (0, u "java/lang/String"), (0, u "value"), (0, u "[B"), (0, .fieldref 10 16), (0, .nameAndType 17 18), (0, u "coder"), (0, u "B"), (2, u "hash"), (0, u "I"), (2, u "hashIsZero"), (0, u "Z"), (0, .methodref 10 28), (0, .nameAndType 5 29), (0, u "([CIILjava/lang/Void;)V"), (8, .fieldref 10 39), (0, .nameAndType 40 26), (0, u "COMPACT_STRINGS"), (1, .class_ 44), (1, u "java/lang/StringUTF16"), (0, u "compress"), (1, .methodref 42 48), (0, .nameAndType 49 50), (0, u "coderFromArrayLen"), (0, u "([BI)B"), (56, .class_ 109), (1, u "java/lang/StringLatin1"), (32, u "()Z"), (34, .methodref 42 178), (0, .nameAndType 45 179), (0, u "([CII)[B"), (31, u "([BB)V"), (122, u "()I"), (0, .methodref 10 336), (0, .nameAndType 17 337), (0, u "()B"), (25, u "([BI)C"), (27, u "(II)V"), (35, u "(I)C"), (64, .methodref 10 493), (0, .nameAndType 494 142), (0, u "isLatin1"), (0, .methodref 107 496), (0, .nameAndType 497 363), (0, u "charAt"), (3, u "checkIndex"), (3, .methodref 10 506), (0, .nameAndType 507 334), (0, u "length"), (5, u "checkFromToIndex"), (7, .methodref 10 522), (0, .nameAndType 523 524), (0, u "checkBoundsBeginEnd"), (0, u "(III)V"), (50, .class_ 576), (0, u "java/lang/CharSequence"), (22, u "CASE_INSENSITIVE_ORDER"), (0, u "Ljava/util/Comparator;"), (82, u "substring"), (0, u "(II)Ljava/lang/String;"), (0, .methodref 107 686), (0, .nameAndType 687 688), (0, u "newString"), (0, u "([BII)Ljava/lang/String;"), (321, u "([C)V"), (42, .fieldref 1054 1055), (0, .class_ 1056), (0, .nameAndType 1057 1058), (0, u "jdk/internal/util/Preconditions"), (0, u "SIOOBE_FORMATTER"), (0, u "Ljava/util/function/BiFunction;"), (0, .methodref 1054 1060), (0, .nameAndType 501 1061), (0, u "(IILjava/util/function/BiFunction;)I"), (0, .methodref 1054 1063), (0, .nameAndType 513 1064), (0, u "(IIILjava/util/function/BiFunction;)I"), (36, u "serialPersistentFields"), (0, u "[Ljava/io/ObjectStreamField;"), (0, .class_ 1104), (0, u "java/lang/String$CaseInsensitiveComparator"), (1, .class_ 1107), (0, u "java/io/Serializable"), (0, .class_ 1109), (0, u "java/lang/Comparable"), (0, .class_ 1111), (0, u "java/lang/constant/Constable"), (0, .class_ 1113), (0, u "java/lang/constant/ConstantDesc"), (2, u "serialVersionUID"), (0, u "J"), (3, u "REPL"), (0, u "C"), (2, u "LATIN1"), (1, u "UTF16")] 323

def k7m0 : Method := { name := "<init>", desc := "()V", sig := { parameters := [], returnType := none }, accessFlags := 1, code := none }
def k7c1 : Code := { maxStack := 5, maxLocals := 2, code := jdk_42_method_3_code, exceptionTable := #[], attributes := #[] }
def k7m1 : Method := { name := "<init>", desc := "([C)V", sig := { parameters := [(.array .char)], returnType := none }, accessFlags := 1, code := some k7c1 }
def k7c2 : Code := { maxStack := 2, maxLocals := 1, code := jdk_42_method_54_code, exceptionTable := #[], attributes := #[] }
def k7m2 : Method := { name := "length", desc := "()I", sig := { parameters := [], returnType := some .int }, accessFlags := 1, code := some k7c2 }
def k7c3 : Code := { maxStack := 2, maxLocals := 2, code := jdk_42_method_56_code, exceptionTable := #[], attributes := #[] }
def k7m3 : Method := { name := "charAt", desc := "(I)C", sig := { parameters := [.int], returnType := some .char }, accessFlags := 1, code := some k7c3 }
def k7c4 : Code := { maxStack := 3, maxLocals := 5, code := jdk_42_method_92_code, exceptionTable := #[], attributes := #[] }
def k7m4 : Method := { name := "substring", desc := "(II)Ljava/lang/String;", sig := { parameters := [.int, .int], returnType := some (.object "java/lang/String") }, accessFlags := 1, code := some k7c4 }
def k7c5 : Code := { maxStack := 4, maxLocals := 6, code := jdk_42_method_149_code, exceptionTable := #[], attributes := #[] }
def k7m5 : Method := { name := "<init>", desc := "([CIILjava/lang/Void;)V", sig := { parameters := [(.array .char), .int, .int, (.object "java/lang/Void")], returnType := none }, accessFlags := 2, code := some k7c5 }
def k7c6 : Code := { maxStack := 2, maxLocals := 3, code := jdk_42_method_151_code, exceptionTable := #[], attributes := #[] }
def k7m6 : Method := { name := "<init>", desc := "([BB)V", sig := { parameters := [(.array .byte), .byte], returnType := none }, accessFlags := 0, code := some k7c6 }
def k7c7 : Code := { maxStack := 1, maxLocals := 1, code := jdk_42_method_152_code, exceptionTable := #[], attributes := #[] }
def k7m7 : Method := { name := "coder", desc := "()B", sig := { parameters := [], returnType := some .byte }, accessFlags := 0, code := some k7c7 }
def k7c8 : Code := { maxStack := 1, maxLocals := 1, code := jdk_42_method_154_code, exceptionTable := #[], attributes := #[] }
def k7m8 : Method := { name := "isLatin1", desc := "()Z", sig := { parameters := [], returnType := some .boolean }, accessFlags := 0, code := some k7c8 }
def k7c9 : Code := { maxStack := 3, maxLocals := 2, code := jdk_42_method_155_code, exceptionTable := #[], attributes := #[] }
def k7m9 : Method := { name := "checkIndex", desc := "(II)V", sig := { parameters := [.int, .int], returnType := none }, accessFlags := 8, code := some k7c9 }
def k7c10 : Code := { maxStack := 4, maxLocals := 3, code := jdk_42_method_158_code, exceptionTable := #[], attributes := #[] }
def k7m10 : Method := { name := "checkBoundsBeginEnd", desc := "(III)V", sig := { parameters := [.int, .int, .int], returnType := none }, accessFlags := 8, code := some k7c10 }
/-- java/lang/String -/
def k7 : Class := { plain "java/lang/String" (some 0) with
  accessFlags := 49
  interfaces := #[2, 3, 4, 5, 6]
  cf := some (fileOf pool7 10 #[.nestMembers #[1103]] #[{ accessFlags := 1, nameIndex := 5, descriptorIndex := 6, attributes := #[] }, { accessFlags := 1, nameIndex := 5, descriptorIndex := 1010, attributes := #[] }, { accessFlags := 1, nameIndex := 507, descriptorIndex := 334, attributes := #[] }, { accessFlags := 1, nameIndex := 497, descriptorIndex := 427, attributes := #[] }, { accessFlags := 1, nameIndex := 683, descriptorIndex := 684, attributes := #[] }, { accessFlags := 2, nameIndex := 5, descriptorIndex := 29, attributes := #[] }, { accessFlags := 0, nameIndex := 5, descriptorIndex := 211, attributes := #[] }, { accessFlags := 0, nameIndex := 17, descriptorIndex := 337, attributes := #[] }, { accessFlags := 0, nameIndex := 494, descriptorIndex := 142, attributes := #[] }, { accessFlags := 8, nameIndex := 501, descriptorIndex := 391, attributes := #[] }, { accessFlags := 8, nameIndex := 523, descriptorIndex := 524, attributes := #[] }] 49 2 #[1106, 1108, 575, 1110, 1112] #[{ accessFlags := 18, nameIndex := 13, descriptorIndex := 14, attributes := #[] }, { accessFlags := 18, nameIndex := 17, descriptorIndex := 18, attributes := #[] }, { accessFlags := 2, nameIndex := 21, descriptorIndex := 22, attributes := #[] }, { accessFlags := 2, nameIndex := 25, descriptorIndex := 26, attributes := #[] }, { accessFlags := 26, nameIndex := 1116, descriptorIndex := 1117, attributes := #[] }, { accessFlags := 24, nameIndex := 40, descriptorIndex := 26, attributes := #[] }, { accessFlags := 26, nameIndex := 1101, descriptorIndex := 1102, attributes := #[] }, { accessFlags := 26, nameIndex := 1121, descriptorIndex := 1122, attributes := #[] }, { accessFlags := 25, nameIndex := 599, descriptorIndex := 600, attributes := #[] }, { accessFlags := 24, nameIndex := 1125, descriptorIndex := 18, attributes := #[] }, { accessFlags := 24, nameIndex := 1127, descriptorIndex := 18, attributes := #[] }])
  fields := #[{ name := "value", type := (.array .byte), accessFlags := 18, slot := 0, constantValue := 0 }, { name := "coder", type := .byte, accessFlags := 18, slot := 1, constantValue := 0 }, { name := "hash", type := .int, accessFlags := 2, slot := 2, constantValue := 0 }, { name := "hashIsZero", type := .boolean, accessFlags := 2, slot := 3, constantValue := 0 }, { name := "serialVersionUID", type := .long, accessFlags := 26, slot := 0, constantValue := 0 }, { name := "COMPACT_STRINGS", type := .boolean, accessFlags := 24, slot := 1, constantValue := 0 }, { name := "serialPersistentFields", type := (.array (.object "java/io/ObjectStreamField")), accessFlags := 26, slot := 2, constantValue := 0 }, { name := "REPL", type := .char, accessFlags := 26, slot := 3, constantValue := 0 }, { name := "CASE_INSENSITIVE_ORDER", type := (.object "java/util/Comparator"), accessFlags := 25, slot := 4, constantValue := 0 }, { name := "LATIN1", type := .byte, accessFlags := 24, slot := 5, constantValue := 0 }, { name := "UTF16", type := .byte, accessFlags := 24, slot := 6, constantValue := 0 }]
  methods := #[k7m0, k7m1, k7m2, k7m3, k7m4, k7m5, k7m6, k7m7, k7m8, k7m9, k7m10]
  instanceTypes := #[(.array .byte), .byte, .int, .boolean]
  staticTypes := #[.long, .boolean, (.array (.object "java/io/ObjectStreamField")), .char, (.object "java/util/Comparator"), .byte, .byte]
  resolved := Array.replicate 1451 none
  statics := some 0 }

def pool8 : Array CpInfo := pool [(2, .class_ 4), (1, u "java/lang/Object"), (3, .class_ 10), (1, u "com/example/shelfmark/shelfmark/model/MarcRecord"), (0, u "iso2709"), (0, u "[B"), (2, u "leader"), (0, u "Ljava/lang/String;"), (8, u "controlFields"), (0, u "Ljava/util/List;"), (2, u "dataFields"), (6, u "dataFieldsByDigit"), (6, u "identity"), (38, .class_ 84), (1, u "java/lang/String"), (16, .methodref 82 102), (0, .nameAndType 103 104), (0, u "length"), (0, u "()I"), (0, .methodref 82 106), (0, .nameAndType 107 108), (0, u "charAt"), (0, u "(I)C"), (6, .methodref 82 116), (0, .nameAndType 117 118), (0, u "substring"), (0, u "(II)Ljava/lang/String;"), (20, .class_ 140), (0, u "com/example/shelfmark/shelfmark/model/MarcRecord$DataField"), (25, .class_ 167), (0, u "com/example/shelfmark/shelfmark/model/MarcRecord$ControlField"), (0, u "IDENTITY_TAG"), (20, u "withoutOuterSpaces"), (0, u "(Ljava/lang/String;)Ljava/lang/String;"), (6, .class_ 198), (0, u "com/example/shelfmark/shelfmark/model/MarcRecord$Subfield")] 42

def k8c0 : Code := { maxStack := 3, maxLocals := 3, code := prog_36_method_11_code, exceptionTable := #[], attributes := #[] }
def k8m0 : Method := { name := "withoutOuterSpaces", desc := "(Ljava/lang/String;)Ljava/lang/String;", sig := { parameters := [(.object "java/lang/String")], returnType := some (.object "java/lang/String") }, accessFlags := 9, code := some k8c0 }
/-- com/example/shelfmark/shelfmark/model/MarcRecord -/
def k8 : Class := { plain "com/example/shelfmark/shelfmark/model/MarcRecord" (some 0) with
  accessFlags := 49
  interfaces := #[]
  cf := some (fileOf pool8 8 #[.nestMembers #[197, 139, 166]] #[{ accessFlags := 9, nameIndex := 189, descriptorIndex := 190, attributes := #[] }] 49 2 #[] #[{ accessFlags := 25, nameIndex := 168, descriptorIndex := 16, attributes := #[] }, { accessFlags := 18, nameIndex := 11, descriptorIndex := 12, attributes := #[] }, { accessFlags := 18, nameIndex := 15, descriptorIndex := 16, attributes := #[] }, { accessFlags := 18, nameIndex := 25, descriptorIndex := 26, attributes := #[] }, { accessFlags := 18, nameIndex := 29, descriptorIndex := 26, attributes := #[] }, { accessFlags := 18, nameIndex := 36, descriptorIndex := 26, attributes := #[] }, { accessFlags := 18, nameIndex := 43, descriptorIndex := 16, attributes := #[] }])
  fields := #[{ name := "IDENTITY_TAG", type := (.object "java/lang/String"), accessFlags := 25, slot := 0, constantValue := 0 }, { name := "iso2709", type := (.array .byte), accessFlags := 18, slot := 0, constantValue := 0 }, { name := "leader", type := (.object "java/lang/String"), accessFlags := 18, slot := 1, constantValue := 0 }, { name := "controlFields", type := (.object "java/util/List"), accessFlags := 18, slot := 2, constantValue := 0 }, { name := "dataFields", type := (.object "java/util/List"), accessFlags := 18, slot := 3, constantValue := 0 }, { name := "dataFieldsByDigit", type := (.object "java/util/List"), accessFlags := 18, slot := 4, constantValue := 0 }, { name := "identity", type := (.object "java/lang/String"), accessFlags := 18, slot := 5, constantValue := 0 }]
  methods := #[k8m0]
  instanceTypes := #[(.array .byte), (.object "java/lang/String"), (.object "java/util/List"), (.object "java/util/List"), (.object "java/util/List"), (.object "java/lang/String")]
  staticTypes := #[(.object "java/lang/String")]
  resolved := Array.replicate 241 none
  statics := none }

def pool9 : Array CpInfo := pool [(2, .class_ 4), (1, u "java/lang/Object"), (0, u "<init>"), (0, u "()V"), (17, .class_ 26), (1, u "jdk/internal/util/Preconditions"), (6, u "checkIndex"), (13, u "checkFromToIndex"), (7, .class_ 56), (0, u "jdk/internal/util/Preconditions$4"), (57, .class_ 115), (0, u "jdk/internal/util/Preconditions$1"), (7, u "SIOOBE_FORMATTER"), (0, u "Ljava/util/function/BiFunction;"), (0, .class_ 126), (0, u "jdk/internal/util/Preconditions$2"), (3, u "AIOOBE_FORMATTER"), (0, .class_ 132), (0, u "jdk/internal/util/Preconditions$3"), (3, u "IOOBE_FORMATTER"), (41, u "(IILjava/util/function/BiFunction;)I"), (4, u "(IIILjava/util/function/BiFunction;)I")] 10

def k9m0 : Method := { name := "<init>", desc := "()V", sig := { parameters := [], returnType := none }, accessFlags := 1, code := none }
def k9c1 : Code := { maxStack := 3, maxLocals := 3, code := jdk_41_method_11_code, exceptionTable := #[], attributes := #[] }
def k9m1 : Method := { name := "checkIndex", desc := "(IILjava/util/function/BiFunction;)I", sig := { parameters := [.int, .int, (.object "java/util/function/BiFunction")], returnType := some .int }, accessFlags := 9, code := some k9c1 }
def k9c2 : Code := { maxStack := 4, maxLocals := 4, code := jdk_41_method_12_code, exceptionTable := #[], attributes := #[] }
def k9m2 : Method := { name := "checkFromToIndex", desc := "(IIILjava/util/function/BiFunction;)I", sig := { parameters := [.int, .int, .int, (.object "java/util/function/BiFunction")], returnType := some .int }, accessFlags := 9, code := some k9c2 }
/-- jdk/internal/util/Preconditions -/
def k9 : Class := { plain "jdk/internal/util/Preconditions" (some 0) with
  accessFlags := 33
  interfaces := #[]
  cf := some (fileOf pool9 24 #[.nestMembers #[55, 131, 125, 114]] #[{ accessFlags := 1, nameIndex := 5, descriptorIndex := 6, attributes := #[] }, { accessFlags := 9, nameIndex := 33, descriptorIndex := 178, attributes := #[] }, { accessFlags := 9, nameIndex := 47, descriptorIndex := 183, attributes := #[] }] 33 2 #[] #[{ accessFlags := 25, nameIndex := 123, descriptorIndex := 124, attributes := #[] }, { accessFlags := 25, nameIndex := 130, descriptorIndex := 124, attributes := #[] }, { accessFlags := 25, nameIndex := 136, descriptorIndex := 124, attributes := #[] }])
  fields := #[{ name := "SIOOBE_FORMATTER", type := (.object "java/util/function/BiFunction"), accessFlags := 25, slot := 0, constantValue := 0 }, { name := "AIOOBE_FORMATTER", type := (.object "java/util/function/BiFunction"), accessFlags := 25, slot := 1, constantValue := 0 }, { name := "IOOBE_FORMATTER", type := (.object "java/util/function/BiFunction"), accessFlags := 25, slot := 2, constantValue := 0 }]
  methods := #[k9m0, k9m1, k9m2]
  instanceTypes := #[]
  staticTypes := #[(.object "java/util/function/BiFunction"), (.object "java/util/function/BiFunction"), (.object "java/util/function/BiFunction")]
  resolved := Array.replicate 194 none
  statics := some 1 }

def pool10 : Array CpInfo := pool [(6, .class_ 8), (1, u "java/lang/Object"), (0, u "<init>"), (0, u "()V"), (1, .class_ 14), (1, u "java/lang/StringUTF16"), (31, u "$assertionsDisabled"), (0, u "Z"), (13, u "HI_BYTE_SHIFT"), (0, u "I"), (2, u "LO_BYTE_SHIFT"), (49, .methodref 12 116), (0, .nameAndType 117 118), (0, u "compress"), (0, u "([CI[BII)I"), (3, u "([CII)[B"), (138, u "coderFromArrayLen"), (0, u "([BI)B"), (106, .class_ 371), (1, u "java/lang/StringUTF16$LinesSpliterator"), (58, u "MAX_LENGTH"), (196, .class_ 628), (0, u "java/lang/StringUTF16$CodePointsSpliterator"), (0, .class_ 630), (0, u "java/lang/StringUTF16$CharsSpliterator")] 4

def k10m0 : Method := { name := "<init>", desc := "()V", sig := { parameters := [], returnType := none }, accessFlags := 0, code := none }
def k10c1 : Code := { maxStack := 2, maxLocals := 2, code := jdk_52_method_15_code, exceptionTable := #[], attributes := #[] }
def k10m1 : Method := { name := "coderFromArrayLen", desc := "([BI)B", sig := { parameters := [(.array .byte), .int], returnType := some .byte }, accessFlags := 8, code := some k10c1 }
def k10c2 : Code := { maxStack := 5, maxLocals := 6, code := jdk_52_method_16_code, exceptionTable := #[], attributes := #[] }
def k10m2 : Method := { name := "compress", desc := "([CII)[B", sig := { parameters := [(.array .char), .int, .int], returnType := some (.array .byte) }, accessFlags := 9, code := some k10c2 }
def k10c3 : Code := { maxStack := 3, maxLocals := 7, code := jdk_52_method_21_code, exceptionTable := #[], attributes := #[] }
def k10m3 : Method := { name := "compress", desc := "([CI[BII)I", sig := { parameters := [(.array .char), .int, (.array .byte), .int, .int], returnType := some .int }, accessFlags := 9, code := some k10c3 }
/-- java/lang/StringUTF16 -/
def k10 : Class := { plain "java/lang/StringUTF16" (some 0) with
  accessFlags := 48
  interfaces := #[]
  cf := some (fileOf pool10 12 #[.nestMembers #[627, 629, 369]] #[{ accessFlags := 0, nameIndex := 9, descriptorIndex := 10, attributes := #[] }, { accessFlags := 8, nameIndex := 261, descriptorIndex := 262, attributes := #[] }, { accessFlags := 9, nameIndex := 117, descriptorIndex := 122, attributes := #[] }, { accessFlags := 9, nameIndex := 117, descriptorIndex := 118, attributes := #[] }] 48 6 #[] #[{ accessFlags := 26, nameIndex := 61, descriptorIndex := 62, attributes := #[] }, { accessFlags := 26, nameIndex := 65, descriptorIndex := 62, attributes := #[] }, { accessFlags := 24, nameIndex := 430, descriptorIndex := 62, attributes := #[] }, { accessFlags := 4120, nameIndex := 46, descriptorIndex := 47, attributes := #[] }])
  fields := #[{ name := "HI_BYTE_SHIFT", type := .int, accessFlags := 26, slot := 0, constantValue := 0 }, { name := "LO_BYTE_SHIFT", type := .int, accessFlags := 26, slot := 1, constantValue := 0 }, { name := "MAX_LENGTH", type := .int, accessFlags := 24, slot := 2, constantValue := 0 }, { name := "$assertionsDisabled", type := .boolean, accessFlags := 4120, slot := 3, constantValue := 0 }]
  methods := #[k10m0, k10m1, k10m2, k10m3]
  instanceTypes := #[]
  staticTypes := #[.int, .int, .int, .boolean]
  resolved := Array.replicate 635 none
  statics := none }

def pool11 : Array CpInfo := pool [(1, .class_ 2), (0, u "java/lang/String"), (1, .class_ 6), (1, u "java/lang/Object"), (0, u "<init>"), (0, u "()V"), (0, .methodref 1 10), (0, .nameAndType 11 12), (0, u "checkIndex"), (0, u "(II)V"), (1, .class_ 16), (1, u "java/lang/StringLatin1"), (36, u "([BI)C"), (58, .methodref 1 113), (0, .nameAndType 7 114), (0, u "([BB)V"), (6, u "$assertionsDisabled"), (0, u "Z"), (8, .class_ 133), (1, u "java/util/Arrays"), (17, .string 152), (0, u ""), (43, u "newString"), (0, u "([BII)Ljava/lang/String;"), (23, .class_ 223), (1, u "java/lang/StringLatin1$LinesSpliterator"), (8, .methodref 131 233), (0, .nameAndType 234 235), (0, u "copyOfRange"), (0, u "([BII)[B"), (16, u "charAt"), (137, .class_ 391), (0, u "java/lang/StringLatin1$CharsSpliterator")] 3

def k11m0 : Method := { name := "<init>", desc := "()V", sig := { parameters := [], returnType := none }, accessFlags := 0, code := none }
def k11c1 : Code := { maxStack := 2, maxLocals := 2, code := jdk_43_method_2_code, exceptionTable := #[], attributes := #[] }
def k11m1 : Method := { name := "charAt", desc := "([BI)C", sig := { parameters := [(.array .byte), .int], returnType := some .char }, accessFlags := 9, code := some k11c1 }
def k11c2 : Code := { maxStack := 6, maxLocals := 3, code := jdk_43_method_47_code, exceptionTable := #[], attributes := #[] }
def k11m2 : Method := { name := "newString", desc := "([BII)Ljava/lang/String;", sig := { parameters := [(.array .byte), .int, .int], returnType := some (.object "java/lang/String") }, accessFlags := 9, code := some k11c2 }
/-- java/lang/StringLatin1 -/
def k11 : Class := { plain "java/lang/StringLatin1" (some 0) with
  accessFlags := 48
  interfaces := #[]
  cf := some (fileOf pool11 14 #[.nestMembers #[390, 221]] #[{ accessFlags := 0, nameIndex := 7, descriptorIndex := 8, attributes := #[] }, { accessFlags := 9, nameIndex := 252, descriptorIndex := 53, attributes := #[] }, { accessFlags := 9, nameIndex := 196, descriptorIndex := 197, attributes := #[] }] 48 4 #[] #[{ accessFlags := 4120, nameIndex := 121, descriptorIndex := 122, attributes := #[] }])
  fields := #[{ name := "$assertionsDisabled", type := .boolean, accessFlags := 4120, slot := 0, constantValue := 0 }]
  methods := #[k11m0, k11m1, k11m2]
  instanceTypes := #[]
  staticTypes := #[.boolean]
  resolved := Array.replicate 395 none
  statics := none }

def pool12 : Array CpInfo := pool [(2, .class_ 4), (1, u "java/lang/Object"), (0, u "<init>"), (0, u "()V"), (7, .class_ 16), (1, u "java/util/Arrays"), (57, .class_ 76), (1, u "java/util/Arrays$NaturalOrder"), (36, .class_ 115), (1, u "java/util/Arrays$LegacyMergeSort"), (1, u "Z"), (21, u "copyOfRange"), (10, .methodref 151 152), (0, .class_ 153), (0, .nameAndType 154 155), (0, u "java/lang/System"), (0, u "arraycopy"), (0, u "(Ljava/lang/Object;ILjava/lang/Object;II)V"), (148, .methodref 305 306), (0, .class_ 307), (0, .nameAndType 308 309), (0, u "java/lang/Math"), (0, u "min"), (0, u "(II)I"), (29, .methodref 14 340), (0, .nameAndType 341 342), (0, u "copyOfRangeByte"), (0, u "([BII)[B"), (0, .methodref 14 344), (0, .nameAndType 345 346), (0, u "checkLength"), (0, u "(II)V"), (28, .class_ 376), (0, u "java/util/Arrays$ArrayList"), (68, u "$assertionsDisabled"), (269, u "MIN_ARRAY_SORT_GRAN"), (0, u "I"), (2, u "INSERTIONSORT_THRESHOLD"), (255, .class_ 976), (0, u "java/util/Arrays$ArrayItr")] 52

def k12m0 : Method := { name := "<init>", desc := "()V", sig := { parameters := [], returnType := none }, accessFlags := 2, code := none }
def k12c1 : Code := { maxStack := 4, maxLocals := 2, code := jdk_65_method_131_code, exceptionTable := #[], attributes := #[] }
def k12m1 : Method := { name := "checkLength", desc := "(II)V", sig := { parameters := [.int, .int], returnType := none }, accessFlags := 10, code := some k12c1 }
def k12c2 : Code := { maxStack := 3, maxLocals := 3, code := jdk_65_method_132_code, exceptionTable := #[], attributes := #[] }
def k12m2 : Method := { name := "copyOfRange", desc := "([BII)[B", sig := { parameters := [(.array .byte), .int, .int], returnType := some (.array .byte) }, accessFlags := 9, code := some k12c2 }
def k12c3 : Code := { maxStack := 6, maxLocals := 5, code := jdk_65_method_133_code, exceptionTable := #[], attributes := #[] }
def k12m3 : Method := { name := "copyOfRangeByte", desc := "([BII)[B", sig := { parameters := [(.array .byte), .int, .int], returnType := some (.array .byte) }, accessFlags := 10, code := some k12c3 }
/-- java/util/Arrays -/
def k12 : Class := { plain "java/util/Arrays" (some 0) with
  accessFlags := 49
  interfaces := #[]
  cf := some (fileOf pool12 14 #[.nestMembers #[975, 375, 113, 74]] #[{ accessFlags := 2, nameIndex := 5, descriptorIndex := 6, attributes := #[] }, { accessFlags := 10, nameIndex := 345, descriptorIndex := 346, attributes := #[] }, { accessFlags := 9, nameIndex := 139, descriptorIndex := 342, attributes := #[] }, { accessFlags := 10, nameIndex := 341, descriptorIndex := 342, attributes := #[] }] 49 2 #[] #[{ accessFlags := 26, nameIndex := 715, descriptorIndex := 716, attributes := #[] }, { accessFlags := 26, nameIndex := 719, descriptorIndex := 716, attributes := #[] }, { accessFlags := 4120, nameIndex := 445, descriptorIndex := 117, attributes := #[] }])
  fields := #[{ name := "MIN_ARRAY_SORT_GRAN", type := .int, accessFlags := 26, slot := 0, constantValue := 0 }, { name := "INSERTIONSORT_THRESHOLD", type := .int, accessFlags := 26, slot := 1, constantValue := 0 }, { name := "$assertionsDisabled", type := .boolean, accessFlags := 4120, slot := 2, constantValue := 0 }]
  methods := #[k12m0, k12m1, k12m2, k12m3]
  instanceTypes := #[]
  staticTypes := #[.int, .int, .boolean]
  resolved := Array.replicate 1029 none
  statics := none }

def pool13 : Array CpInfo := pool [(1, .class_ 2), (0, u "java/lang/Math"), (1, .class_ 6), (1, u "java/lang/Object"), (0, u "<init>"), (0, u "()V"), (89, .class_ 100), (1, u "java/lang/Math$RandomNumberGeneratorHolder"), (71, u "negativeZeroFloatBits"), (0, u "J"), (2, u "negativeZeroDoubleBits"), (24, u "min"), (43, u "$assertionsDisabled"), (0, u "Z"), (88, u "(II)I"), (2, u "twoToTheDoubleScaleDown"), (0, u "D"), (4, u "twoToTheDoubleScaleUp"), (9, u "E"), (3, u "PI"), (2, u "TAU"), (2, u "DEGREES_TO_RADIANS"), (0, u "RADIANS_TO_DEGREES")] 94

def k13m0 : Method := { name := "<init>", desc := "()V", sig := { parameters := [], returnType := none }, accessFlags := 2, code := none }
def k13c1 : Code := { maxStack := 2, maxLocals := 2, code := jdk_29_method_69_code, exceptionTable := #[], attributes := #[] }
def k13m1 : Method := { name := "min", desc := "(II)I", sig := { parameters := [.int, .int], returnType := some .int }, accessFlags := 9, code := some k13c1 }
/-- java/lang/Math -/
def k13 : Class := { plain "java/lang/Math" (some 0) with
  accessFlags := 49
  interfaces := #[]
  cf := some (fileOf pool13 1 #[.nestMembers #[98]] #[{ accessFlags := 2, nameIndex := 7, descriptorIndex := 8, attributes := #[] }, { accessFlags := 9, nameIndex := 201, descriptorIndex := 335, attributes := #[] }] 49 4 #[] #[{ accessFlags := 25, nameIndex := 354, descriptorIndex := 339, attributes := #[] }, { accessFlags := 25, nameIndex := 358, descriptorIndex := 339, attributes := #[] }, { accessFlags := 25, nameIndex := 361, descriptorIndex := 339, attributes := #[] }, { accessFlags := 26, nameIndex := 364, descriptorIndex := 339, attributes := #[] }, { accessFlags := 26, nameIndex := 365, descriptorIndex := 339, attributes := #[] }, { accessFlags := 26, nameIndex := 172, descriptorIndex := 173, attributes := #[] }, { accessFlags := 26, nameIndex := 176, descriptorIndex := 173, attributes := #[] }, { accessFlags := 8, nameIndex := 344, descriptorIndex := 339, attributes := #[] }, { accessFlags := 8, nameIndex := 338, descriptorIndex := 339, attributes := #[] }, { accessFlags := 4120, nameIndex := 245, descriptorIndex := 246, attributes := #[] }])
  fields := #[{ name := "E", type := .double, accessFlags := 25, slot := 0, constantValue := 0 }, { name := "PI", type := .double, accessFlags := 25, slot := 1, constantValue := 0 }, { name := "TAU", type := .double, accessFlags := 25, slot := 2, constantValue := 0 }, { name := "DEGREES_TO_RADIANS", type := .double, accessFlags := 26, slot := 3, constantValue := 0 }, { name := "RADIANS_TO_DEGREES", type := .double, accessFlags := 26, slot := 4, constantValue := 0 }, { name := "negativeZeroFloatBits", type := .long, accessFlags := 26, slot := 5, constantValue := 0 }, { name := "negativeZeroDoubleBits", type := .long, accessFlags := 26, slot := 6, constantValue := 0 }, { name := "twoToTheDoubleScaleUp", type := .double, accessFlags := 8, slot := 7, constantValue := 0 }, { name := "twoToTheDoubleScaleDown", type := .double, accessFlags := 8, slot := 8, constantValue := 0 }, { name := "$assertionsDisabled", type := .boolean, accessFlags := 4120, slot := 9, constantValue := 0 }]
  methods := #[k13m0, k13m1]
  instanceTypes := #[]
  staticTypes := #[.double, .double, .double, .double, .double, .long, .long, .double, .double, .boolean]
  resolved := Array.replicate 460 none
  statics := none }

def pool14 : Array CpInfo := pool [(2, .class_ 4), (1, u "java/lang/Object"), (0, u "<init>"), (0, u "()V"), (1, .class_ 10), (1, u "java/lang/System"), (0, u "allowSecurityManager"), (0, u "I"), (16, u "cons"), (0, u "Ljava/io/Console;"), (77, .class_ 110), (1, u "java/lang/System$CallersHolder"), (43, u "initialErrStream"), (0, u "Ljava/io/PrintStream;"), (19, u "security"), (0, u "Ljava/lang/SecurityManager;"), (31, .class_ 209), (0, u "java/lang/System$1"), (7, u "props"), (0, u "Ljava/util/Properties;"), (2, u "lineSeparator"), (0, u "Ljava/lang/String;"), (96, .class_ 321), (1, u "java/lang/System$LoggerFinder"), (5, .class_ 328), (0, u "java/lang/System$Logger"), (67, u "err"), (2, u "out"), (91, u "notSupportedJnuEncoding"), (15, u "in"), (17, u "initialIn"), (0, u "Ljava/io/InputStream;"), (35, u "bootLayer"), (0, u "Ljava/lang/ModuleLayer;"), (99, .class_ 664), (0, u "java/lang/System$2"), (9, u "NEVER"), (2, u "MAYBE"), (49, u "arraycopy"), (0, u "(Ljava/lang/Object;ILjava/lang/Object;II)V"), (72, .class_ 802), (0, u "java/lang/System$Logger$Level")] 31

def k14m0 : Method := { name := "<init>", desc := "()V", sig := { parameters := [], returnType := none }, accessFlags := 2, code := none }
def k14m1 : Method := { name := "arraycopy", desc := "(Ljava/lang/Object;ILjava/lang/Object;II)V", sig := { parameters := [(.object "java/lang/Object"), .int, (.object "java/lang/Object"), .int, .int], returnType := none }, accessFlags := 265, code := none }
/-- java/lang/System -/
def k14 : Class := { plain "java/lang/System" (some 0) with
  accessFlags := 49
  interfaces := #[]
  cf := some (fileOf pool14 8 #[.nestMembers #[319, 327, 801, 108, 663, 208]] #[{ accessFlags := 2, nameIndex := 5, descriptorIndex := 6, attributes := #[] }, { accessFlags := 265, nameIndex := 727, descriptorIndex := 728, attributes := #[] }] 49 2 #[] #[{ accessFlags := 25, nameIndex := 507, descriptorIndex := 526, attributes := #[] }, { accessFlags := 25, nameIndex := 399, descriptorIndex := 155, attributes := #[] }, { accessFlags := 25, nameIndex := 396, descriptorIndex := 155, attributes := #[] }, { accessFlags := 10, nameIndex := 525, descriptorIndex := 526, attributes := #[] }, { accessFlags := 26, nameIndex := 674, descriptorIndex := 12, attributes := #[] }, { accessFlags := 26, nameIndex := 677, descriptorIndex := 12, attributes := #[] }, { accessFlags := 10, nameIndex := 11, descriptorIndex := 12, attributes := #[] }, { accessFlags := 74, nameIndex := 175, descriptorIndex := 176, attributes := #[] }, { accessFlags := 10, nameIndex := 491, descriptorIndex := 222, attributes := #[] }, { accessFlags := 74, nameIndex := 29, descriptorIndex := 30, attributes := #[] }, { accessFlags := 74, nameIndex := 154, descriptorIndex := 155, attributes := #[] }, { accessFlags := 10, nameIndex := 217, descriptorIndex := 218, attributes := #[] }, { accessFlags := 10, nameIndex := 221, descriptorIndex := 222, attributes := #[] }, { accessFlags := 8, nameIndex := 562, descriptorIndex := 563, attributes := #[] }])
  fields := #[{ name := "in", type := (.object "java/io/InputStream"), accessFlags := 25, slot := 0, constantValue := 0 }, { name := "out", type := (.object "java/io/PrintStream"), accessFlags := 25, slot := 1, constantValue := 0 }, { name := "err", type := (.object "java/io/PrintStream"), accessFlags := 25, slot := 2, constantValue := 0 }, { name := "initialIn", type := (.object "java/io/InputStream"), accessFlags := 10, slot := 3, constantValue := 0 }, { name := "NEVER", type := .int, accessFlags := 26, slot := 4, constantValue := 0 }, { name := "MAYBE", type := .int, accessFlags := 26, slot := 5, constantValue := 0 }, { name := "allowSecurityManager", type := .int, accessFlags := 10, slot := 6, constantValue := 0 }, { name := "security", type := (.object "java/lang/SecurityManager"), accessFlags := 74, slot := 7, constantValue := 0 }, { name := "notSupportedJnuEncoding", type := (.object "java/lang/String"), accessFlags := 10, slot := 8, constantValue := 0 }, { name := "cons", type := (.object "java/io/Console"), accessFlags := 74, slot := 9, constantValue := 0 }, { name := "initialErrStream", type := (.object "java/io/PrintStream"), accessFlags := 74, slot := 10, constantValue := 0 }, { name := "props", type := (.object "java/util/Properties"), accessFlags := 10, slot := 11, constantValue := 0 }, { name := "lineSeparator", type := (.object "java/lang/String"), accessFlags := 10, slot := 12, constantValue := 0 }, { name := "bootLayer", type := (.object "java/lang/ModuleLayer"), accessFlags := 8, slot := 13, constantValue := 0 }]
  methods := #[k14m0, k14m1]
  instanceTypes := #[]
  staticTypes := #[(.object "java/io/InputStream"), (.object "java/io/PrintStream"), (.object "java/io/PrintStream"), (.object "java/io/InputStream"), .int, .int, .int, (.object "java/lang/SecurityManager"), (.object "java/lang/String"), (.object "java/io/Console"), (.object "java/io/PrintStream"), (.object "java/util/Properties"), (.object "java/lang/String"), (.object "java/lang/ModuleLayer")]
  resolved := Array.replicate 834 none
  statics := none }

def pool15 : Array CpInfo := pool [(9, u "<init>"), (6, .class_ 18), (1, u "java/lang/Object"), (0, u "()V"), (1, .class_ 23), (1, u "jdk/internal/util/ArraysSupport"), (0, u "LOG2_ARRAY_LONG_INDEX_SCALE"), (0, u "I"), (2, u "U"), (0, u "Ljdk/internal/misc/Unsafe;"), (8, u "BIG_ENDIAN"), (0, u "Z"), (8, u "LOG2_BYTE_BIT_SIZE"), (4, u "LOG2_ARRAY_INT_INDEX_SCALE"), (54, u "JLA"), (0, u "Ljdk/internal/access/JavaLangAccess;"), (11, u "LOG2_ARRAY_BOOLEAN_INDEX_SCALE"), (9, u "LOG2_ARRAY_BYTE_INDEX_SCALE"), (5, u "LOG2_ARRAY_CHAR_INDEX_SCALE"), (5, u "LOG2_ARRAY_SHORT_INDEX_SCALE"), (18, u "LOG2_ARRAY_FLOAT_INDEX_SCALE"), (24, u "LOG2_ARRAY_DOUBLE_INDEX_SCALE"), (89, u "T_BOOLEAN"), (2, u "T_CHAR"), (1, u "T_FLOAT"), (1, u "T_DOUBLE"), (1, u "T_BYTE"), (1, u "T_SHORT"), (1, u "T_INT"), (1, u "T_LONG"), (1, u "SOFT_MAX_ARRAY_LENGTH")] 83

def k15m0 : Method := { name := "<init>", desc := "()V", sig := { parameters := [], returnType := none }, accessFlags := 2, code := none }
/-- jdk/internal/util/ArraysSupport -/
def k15 : Class := { plain "jdk/internal/util/ArraysSupport" (some 0) with
  accessFlags := 33
  interfaces := #[]
  cf := some (fileOf pool15 21 #[] #[{ accessFlags := 2, nameIndex := 9, descriptorIndex := 19, attributes := #[] }] 33 16 #[] #[{ accessFlags := 24, nameIndex := 28, descriptorIndex := 29, attributes := #[] }, { accessFlags := 26, nameIndex := 38, descriptorIndex := 39, attributes := #[] }, { accessFlags := 25, nameIndex := 121, descriptorIndex := 25, attributes := #[] }, { accessFlags := 25, nameIndex := 131, descriptorIndex := 25, attributes := #[] }, { accessFlags := 25, nameIndex := 137, descriptorIndex := 25, attributes := #[] }, { accessFlags := 25, nameIndex := 143, descriptorIndex := 25, attributes := #[] }, { accessFlags := 25, nameIndex := 53, descriptorIndex := 25, attributes := #[] }, { accessFlags := 25, nameIndex := 24, descriptorIndex := 25, attributes := #[] }, { accessFlags := 25, nameIndex := 162, descriptorIndex := 25, attributes := #[] }, { accessFlags := 25, nameIndex := 187, descriptorIndex := 25, attributes := #[] }, { accessFlags := 26, nameIndex := 48, descriptorIndex := 25, attributes := #[] }, { accessFlags := 25, nameIndex := 277, descriptorIndex := 25, attributes := #[] }, { accessFlags := 25, nameIndex := 280, descriptorIndex := 25, attributes := #[] }, { accessFlags := 25, nameIndex := 282, descriptorIndex := 25, attributes := #[] }, { accessFlags := 25, nameIndex := 284, descriptorIndex := 25, attributes := #[] }, { accessFlags := 25, nameIndex := 286, descriptorIndex := 25, attributes := #[] }, { accessFlags := 25, nameIndex := 288, descriptorIndex := 25, attributes := #[] }, { accessFlags := 25, nameIndex := 290, descriptorIndex := 25, attributes := #[] }, { accessFlags := 25, nameIndex := 292, descriptorIndex := 25, attributes := #[] }, { accessFlags := 26, nameIndex := 108, descriptorIndex := 109, attributes := #[] }, { accessFlags := 25, nameIndex := 294, descriptorIndex := 25, attributes := #[] }])
  fields := #[{ name := "U", type := (.object "jdk/internal/misc/Unsafe"), accessFlags := 24, slot := 0, constantValue := 0 }, { name := "BIG_ENDIAN", type := .boolean, accessFlags := 26, slot := 1, constantValue := 0 }, { name := "LOG2_ARRAY_BOOLEAN_INDEX_SCALE", type := .int, accessFlags := 25, slot := 2, constantValue := 0 }, { name := "LOG2_ARRAY_BYTE_INDEX_SCALE", type := .int, accessFlags := 25, slot := 3, constantValue := 0 }, { name := "LOG2_ARRAY_CHAR_INDEX_SCALE", type := .int, accessFlags := 25, slot := 4, constantValue := 0 }, { name := "LOG2_ARRAY_SHORT_INDEX_SCALE", type := .int, accessFlags := 25, slot := 5, constantValue := 0 }, { name := "LOG2_ARRAY_INT_INDEX_SCALE", type := .int, accessFlags := 25, slot := 6, constantValue := 0 }, { name := "LOG2_ARRAY_LONG_INDEX_SCALE", type := .int, accessFlags := 25, slot := 7, constantValue := 0 }, { name := "LOG2_ARRAY_FLOAT_INDEX_SCALE", type := .int, accessFlags := 25, slot := 8, constantValue := 0 }, { name := "LOG2_ARRAY_DOUBLE_INDEX_SCALE", type := .int, accessFlags := 25, slot := 9, constantValue := 0 }, { name := "LOG2_BYTE_BIT_SIZE", type := .int, accessFlags := 26, slot := 10, constantValue := 0 }, { name := "T_BOOLEAN", type := .int, accessFlags := 25, slot := 11, constantValue := 0 }, { name := "T_CHAR", type := .int, accessFlags := 25, slot := 12, constantValue := 0 }, { name := "T_FLOAT", type := .int, accessFlags := 25, slot := 13, constantValue := 0 }, { name := "T_DOUBLE", type := .int, accessFlags := 25, slot := 14, constantValue := 0 }, { name := "T_BYTE", type := .int, accessFlags := 25, slot := 15, constantValue := 0 }, { name := "T_SHORT", type := .int, accessFlags := 25, slot := 16, constantValue := 0 }, { name := "T_INT", type := .int, accessFlags := 25, slot := 17, constantValue := 0 }, { name := "T_LONG", type := .int, accessFlags := 25, slot := 18, constantValue := 0 }, { name := "JLA", type := (.object "jdk/internal/access/JavaLangAccess"), accessFlags := 26, slot := 19, constantValue := 0 }, { name := "SOFT_MAX_ARRAY_LENGTH", type := .int, accessFlags := 25, slot := 20, constantValue := 0 }]
  methods := #[k15m0]
  instanceTypes := #[]
  staticTypes := #[(.object "jdk/internal/misc/Unsafe"), .boolean, .int, .int, .int, .int, .int, .int, .int, .int, .int, .int, .int, .int, .int, .int, .int, .int, .int, (.object "jdk/internal/access/JavaLangAccess"), .int]
  resolved := Array.replicate 378 none
  statics := none }

def pool16 : Array CpInfo := pool [(1, u "java/lang/Cloneable"), (0, .class_ 1), (0, u "java/lang/Object"), (0, .class_ 3)] 3

/-- java/lang/Cloneable -/
def k16 : Class := { plain "java/lang/Cloneable" (some 0) with
  accessFlags := 1537
  interfaces := #[]
  cf := some (fileOf pool16 2 #[] #[] 1537 4 #[] #[])
  fields := #[]
  methods := #[]
  instanceTypes := #[]
  staticTypes := #[]
  resolved := Array.replicate 8 none
  statics := none }

/-- the primitive byte -/
def k17 : Class := { plain "byte" none with kind := .primitive 'B', accessFlags := 0x411 }
/-- [B -/
def k18 : Class := { plain "[B" (some 0) with kind := .array 17 .byte, interfaces := #[16, 2], accessFlags := 1041 }

/-- the primitive char -/
def k19 : Class := { plain "char" none with kind := .primitive 'C', accessFlags := 0x411 }
/-- [C -/
def k20 : Class := { plain "[C" (some 0) with kind := .array 19 .char, interfaces := #[16, 2], accessFlags := 1041 }

/-- the primitive int -/
def k21 : Class := { plain "int" none with kind := .primitive 'I', accessFlags := 0x411 }
/-- [I -/
def k22 : Class := { plain "[I" (some 0) with kind := .array 21 .int, interfaces := #[16, 2], accessFlags := 1041 }

def heap : Heap := #[{ cls := 7, slots := #[.long 0, .int 1, .null, .int 0, .null, .int 0, .int 0], vm := .statics 7 },
  { cls := 9, slots := #[.null, .null, .null], vm := .statics 9 }]
def classes : Array Class := #[k0, k1, k2, k3, k4, k5, k6, k7, k8, k9, k10, k11, k12, k13, k14, k15, k16, k17, k18, k19, k20, k21, k22]
def interned : List (Array UInt16 × Addr) := []
def slotsUsed : Nat := 10
def theMethod : MethodId := ⟨1, 3⟩
def args0 : Array Value := #[.int 3, .int 64, .int 1, .int 98, .int 99]
def aboutOver (below : List Frame) : State where
  vm := { classes := classes, interned := interned.toArray }
  heap := heap
  slotsUsed := slotsUsed
  threads := #[{ frames := .invoking theMethod args0 :: below }]
def below0 : List Frame := [.native { method := ⟨0, 0⟩, args := #[] }]
def about1 : State := aboutOver below0
def p0 : Program := .bare "" "" ""
def e0 : Env := launch0.env 0 0 0
theorem w_frames : about1.frames = Frame.invoking theMethod args0 :: below0 := rfl
set_option maxRecDepth 65536 in
theorem w_args : argsFit about1.vm theMethod args0 = true := by decide +kernel
set_option maxRecDepth 65536 in
theorem w_heap : heapFits about1 = true := by decide +kernel
set_option maxRecDepth 65536 in
theorem w_runnable : about1.curStatus? = some .runnable := by decide +kernel
set_option maxRecDepth 65536 in
theorem w_alone : about1.alone = true := by decide +kernel
set_option maxRecDepth 65536 in
theorem w_named : about1.methodNamed? x = some theMethod := by decide +kernel
set_option maxRecDepth 65536 in
theorem w_hears : about1.hears theMethod below0 = true := by decide +kernel
set_option maxRecDepth 65536 in
theorem w_ripe : about1.ripe theMethod args0 below0 = true := by decide +kernel
theorem w_running : about1.status = .running := rfl
set_option maxRecDepth 65536 in
theorem w_room : about1.hasRoom e0.platform room_1 = true :=
  launch0.hasRoom_least _ room_1 (by decide +kernel) (by decide +kernel) (by decide +kernel) (by decide +kernel) (by decide +kernel) (by decide +kernel)
theorem allAtoms_all (ts : List Jvm.Cond) (a : Array Jvm.Value) (st : Jvm.State) : (allAtoms ts).before a st = ts.all (fun c => c.before a st) := by
  induction ts with
  | nil => rfl
  | cons c t ih =>
    show (Jvm.Cond.and c (allAtoms t)).before a st = _
    rw [Jvm.Cond.before_and, ih, List.all_cons]
def words1 : List Jvm.Cond := Jvm.Cond.code x code maxLocals ret :: tables_1
/-- a 'code' word, met by the world's own term for the bytes: nothing is compared byte by byte -/
theorem code_word {y : MethodName} {bytes : ByteArray} {mx : Nat} {rt : Option FieldType} {a : Array Value} {s : State} {m : MethodId} {meth : Method} {c : Code} (h1 : s.methodNamed? y = some m) (h2 : s.vm.method? m = some meth) (h3 : meth.code = some c) (h4 : c.code = bytes)
    (h5 : (c.maxLocals == mx && c.exceptionTable.isEmpty && decide (c.maxStack ≤ mostOperands) && decide (meth.sig.returnType = rt) && !meth.locks && decide (parseMethodDescriptor y.desc = some meth.sig)) = true) : (Jvm.Cond.code y bytes mx rt).before a s = true := by
  simp only [Bool.and_eq_true, beq_iff_eq, Bool.not_eq_true', decide_eq_true_eq] at h5
  obtain ⟨⟨⟨⟨⟨g1, g2⟩, g3⟩, g4⟩, g5⟩, g6⟩ := h5
  simp [Cond.before, Cond.holds, Cond.value, h1, h2, h3, h4, g1, g2, g3, g4, g5, g6]
def isCode : Jvm.Cond → Bool
  | .code _ _ _ _ => true
  | _ => false
theorem all_split {L : List Jvm.Cond} {P : Jvm.Cond → Bool} (h1 : L.all (fun c => isCode c || P c) = true) (h2 : ∀ c ∈ L.filter isCode, P c = true) : L.all P = true := by
  refine List.all_eq_true.mpr fun c hc => ?_
  have h := List.all_eq_true.mp h1 c hc
  rcases Bool.eq_false_or_eq_true (isCode c) with hi | hi
  · exact h2 c (List.mem_filter.mpr ⟨hc, hi⟩)
  · simpa [hi] using h
set_option maxRecDepth 65536 in
theorem w_c0 : (Jvm.Cond.code x code maxLocals ret).before args0 about1 = true := code_word (m := ⟨1, 3⟩) (meth := k1m3) (c := k1c3) (by decide +kernel) rfl rfl rfl (by decide +kernel)
set_option maxRecDepth 65536 in
theorem w_c1 : (Jvm.Cond.code ({ cls := "com/example/shelfmark/shelfmark/model/MarcRecordWithoutOuterSpacesPinLaw", name := "draw", desc := "(I)C" } : Jvm.MethodName) method_2_code (1 : Nat) (Option.some Jvm.ClassFile.FieldType.char)).before args0 about1 = true := code_word (m := ⟨1, 1⟩) (meth := k1m1) (c := k1c1) (by decide +kernel) rfl rfl rfl (by decide +kernel)
set_option maxRecDepth 65536 in
theorem w_c2 : (Jvm.Cond.code ({ cls := "java/lang/String", name := "<init>", desc := "([C)V" } : Jvm.MethodName) jdk_42_method_3_code (2 : Nat) (Option.none : Option Jvm.ClassFile.FieldType)).before args0 about1 = true := code_word (m := ⟨7, 1⟩) (meth := k7m1) (c := k7c1) (by decide +kernel) rfl rfl rfl (by decide +kernel)
set_option maxRecDepth 65536 in
theorem w_c3 : (Jvm.Cond.code ({ cls := "java/lang/String", name := "<init>", desc := "([CIILjava/lang/Void;)V" } : Jvm.MethodName) jdk_42_method_149_code (6 : Nat) (Option.none : Option Jvm.ClassFile.FieldType)).before args0 about1 = true := code_word (m := ⟨7, 5⟩) (meth := k7m5) (c := k7c5) (by decide +kernel) rfl rfl rfl (by decide +kernel)
set_option maxRecDepth 65536 in
theorem w_c4 : (Jvm.Cond.code ({ cls := "java/lang/Object", name := "<init>", desc := "()V" } : Jvm.MethodName) object_method_1_code (1 : Nat) (Option.none : Option Jvm.ClassFile.FieldType)).before args0 about1 = true := code_word (m := ⟨0, 0⟩) (meth := k0m0) (c := k0c0) (by decide +kernel) rfl rfl rfl (by decide +kernel)
set_option maxRecDepth 65536 in
theorem w_c5 : (Jvm.Cond.code ({ cls := "com/example/shelfmark/shelfmark/model/MarcRecord", name := "withoutOuterSpaces", desc := "(Ljava/lang/String;)Ljava/lang/String;" } : Jvm.MethodName) prog_36_method_11_code (3 : Nat) (Option.some (Jvm.ClassFile.FieldType.object "java/lang/String"))).before args0 about1 = true := code_word (m := ⟨8, 0⟩) (meth := k8m0) (c := k8c0) (by decide +kernel) rfl rfl rfl (by decide +kernel)
set_option maxRecDepth 65536 in
theorem w_c6 : (Jvm.Cond.code ({ cls := "java/lang/String", name := "length", desc := "()I" } : Jvm.MethodName) jdk_42_method_54_code (1 : Nat) (Option.some Jvm.ClassFile.FieldType.int)).before args0 about1 = true := code_word (m := ⟨7, 2⟩) (meth := k7m2) (c := k7c2) (by decide +kernel) rfl rfl rfl (by decide +kernel)
set_option maxRecDepth 65536 in
theorem w_c7 : (Jvm.Cond.code ({ cls := "java/lang/String", name := "coder", desc := "()B" } : Jvm.MethodName) jdk_42_method_152_code (1 : Nat) (Option.some Jvm.ClassFile.FieldType.byte)).before args0 about1 = true := code_word (m := ⟨7, 7⟩) (meth := k7m7) (c := k7c7) (by decide +kernel) rfl rfl rfl (by decide +kernel)
set_option maxRecDepth 65536 in
theorem w_c8 : (Jvm.Cond.code ({ cls := "java/lang/String", name := "substring", desc := "(II)Ljava/lang/String;" } : Jvm.MethodName) jdk_42_method_92_code (5 : Nat) (Option.some (Jvm.ClassFile.FieldType.object "java/lang/String"))).before args0 about1 = true := code_word (m := ⟨7, 4⟩) (meth := k7m4) (c := k7c4) (by decide +kernel) rfl rfl rfl (by decide +kernel)
set_option maxRecDepth 65536 in
theorem w_c9 : (Jvm.Cond.code ({ cls := "java/lang/String", name := "checkBoundsBeginEnd", desc := "(III)V" } : Jvm.MethodName) jdk_42_method_158_code (3 : Nat) (Option.none : Option Jvm.ClassFile.FieldType)).before args0 about1 = true := code_word (m := ⟨7, 10⟩) (meth := k7m10) (c := k7c10) (by decide +kernel) rfl rfl rfl (by decide +kernel)
set_option maxRecDepth 65536 in
theorem w_c10 : (Jvm.Cond.code ({ cls := "jdk/internal/util/Preconditions", name := "checkFromToIndex", desc := "(IIILjava/util/function/BiFunction;)I" } : Jvm.MethodName) jdk_41_method_12_code (4 : Nat) (Option.some Jvm.ClassFile.FieldType.int)).before args0 about1 = true := code_word (m := ⟨9, 2⟩) (meth := k9m2) (c := k9c2) (by decide +kernel) rfl rfl rfl (by decide +kernel)
set_option maxRecDepth 65536 in
theorem w_c11 : (Jvm.Cond.code ({ cls := "com/example/shelfmark/shelfmark/model/MarcRecordWithoutOuterSpacesPinLaw", name := "sp", desc := "(C)Z" } : Jvm.MethodName) method_3_code (1 : Nat) (Option.some Jvm.ClassFile.FieldType.boolean)).before args0 about1 = true := code_word (m := ⟨1, 2⟩) (meth := k1m2) (c := k1c2) (by decide +kernel) rfl rfl rfl (by decide +kernel)
set_option maxRecDepth 65536 in
theorem w_c12 : (Jvm.Cond.code ({ cls := "java/lang/StringUTF16", name := "compress", desc := "([CII)[B" } : Jvm.MethodName) jdk_52_method_16_code (6 : Nat) (Option.some (Jvm.ClassFile.FieldType.array Jvm.ClassFile.FieldType.byte))).before args0 about1 = true := code_word (m := ⟨10, 2⟩) (meth := k10m2) (c := k10c2) (by decide +kernel) rfl rfl rfl (by decide +kernel)
set_option maxRecDepth 65536 in
theorem w_c13 : (Jvm.Cond.code ({ cls := "java/lang/StringUTF16", name := "compress", desc := "([CI[BII)I" } : Jvm.MethodName) jdk_52_method_21_code (7 : Nat) (Option.some Jvm.ClassFile.FieldType.int)).before args0 about1 = true := code_word (m := ⟨10, 3⟩) (meth := k10m3) (c := k10c3) (by decide +kernel) rfl rfl rfl (by decide +kernel)
set_option maxRecDepth 65536 in
theorem w_c14 : (Jvm.Cond.code ({ cls := "java/lang/StringUTF16", name := "coderFromArrayLen", desc := "([BI)B" } : Jvm.MethodName) jdk_52_method_15_code (2 : Nat) (Option.some Jvm.ClassFile.FieldType.byte)).before args0 about1 = true := code_word (m := ⟨10, 1⟩) (meth := k10m1) (c := k10c1) (by decide +kernel) rfl rfl rfl (by decide +kernel)
set_option maxRecDepth 65536 in
theorem w_c15 : (Jvm.Cond.code ({ cls := "java/lang/String", name := "charAt", desc := "(I)C" } : Jvm.MethodName) jdk_42_method_56_code (2 : Nat) (Option.some Jvm.ClassFile.FieldType.char)).before args0 about1 = true := code_word (m := ⟨7, 3⟩) (meth := k7m3) (c := k7c3) (by decide +kernel) rfl rfl rfl (by decide +kernel)
set_option maxRecDepth 65536 in
theorem w_c16 : (Jvm.Cond.code ({ cls := "java/lang/String", name := "isLatin1", desc := "()Z" } : Jvm.MethodName) jdk_42_method_154_code (1 : Nat) (Option.some Jvm.ClassFile.FieldType.boolean)).before args0 about1 = true := code_word (m := ⟨7, 8⟩) (meth := k7m8) (c := k7c8) (by decide +kernel) rfl rfl rfl (by decide +kernel)
set_option maxRecDepth 65536 in
theorem w_c17 : (Jvm.Cond.code ({ cls := "java/lang/StringLatin1", name := "charAt", desc := "([BI)C" } : Jvm.MethodName) jdk_43_method_2_code (2 : Nat) (Option.some Jvm.ClassFile.FieldType.char)).before args0 about1 = true := code_word (m := ⟨11, 1⟩) (meth := k11m1) (c := k11c1) (by decide +kernel) rfl rfl rfl (by decide +kernel)
set_option maxRecDepth 65536 in
theorem w_c18 : (Jvm.Cond.code ({ cls := "java/lang/String", name := "checkIndex", desc := "(II)V" } : Jvm.MethodName) jdk_42_method_155_code (2 : Nat) (Option.none : Option Jvm.ClassFile.FieldType)).before args0 about1 = true := code_word (m := ⟨7, 9⟩) (meth := k7m9) (c := k7c9) (by decide +kernel) rfl rfl rfl (by decide +kernel)
set_option maxRecDepth 65536 in
theorem w_c19 : (Jvm.Cond.code ({ cls := "jdk/internal/util/Preconditions", name := "checkIndex", desc := "(IILjava/util/function/BiFunction;)I" } : Jvm.MethodName) jdk_41_method_11_code (3 : Nat) (Option.some Jvm.ClassFile.FieldType.int)).before args0 about1 = true := code_word (m := ⟨9, 1⟩) (meth := k9m1) (c := k9c1) (by decide +kernel) rfl rfl rfl (by decide +kernel)
set_option maxRecDepth 65536 in
theorem w_c20 : (Jvm.Cond.code ({ cls := "java/lang/StringLatin1", name := "newString", desc := "([BII)Ljava/lang/String;" } : Jvm.MethodName) jdk_43_method_47_code (3 : Nat) (Option.some (Jvm.ClassFile.FieldType.object "java/lang/String"))).before args0 about1 = true := code_word (m := ⟨11, 2⟩) (meth := k11m2) (c := k11c2) (by decide +kernel) rfl rfl rfl (by decide +kernel)
set_option maxRecDepth 65536 in
theorem w_c21 : (Jvm.Cond.code ({ cls := "java/util/Arrays", name := "copyOfRange", desc := "([BII)[B" } : Jvm.MethodName) jdk_65_method_132_code (3 : Nat) (Option.some (Jvm.ClassFile.FieldType.array Jvm.ClassFile.FieldType.byte))).before args0 about1 = true := code_word (m := ⟨12, 2⟩) (meth := k12m2) (c := k12c2) (by decide +kernel) rfl rfl rfl (by decide +kernel)
set_option maxRecDepth 65536 in
theorem w_c22 : (Jvm.Cond.code ({ cls := "java/util/Arrays", name := "copyOfRangeByte", desc := "([BII)[B" } : Jvm.MethodName) jdk_65_method_133_code (5 : Nat) (Option.some (Jvm.ClassFile.FieldType.array Jvm.ClassFile.FieldType.byte))).before args0 about1 = true := code_word (m := ⟨12, 3⟩) (meth := k12m3) (c := k12c3) (by decide +kernel) rfl rfl rfl (by decide +kernel)
set_option maxRecDepth 65536 in
theorem w_c23 : (Jvm.Cond.code ({ cls := "java/util/Arrays", name := "checkLength", desc := "(II)V" } : Jvm.MethodName) jdk_65_method_131_code (2 : Nat) (Option.none : Option Jvm.ClassFile.FieldType)).before args0 about1 = true := code_word (m := ⟨12, 1⟩) (meth := k12m1) (c := k12c1) (by decide +kernel) rfl rfl rfl (by decide +kernel)
set_option maxRecDepth 65536 in
theorem w_c24 : (Jvm.Cond.code ({ cls := "java/lang/Math", name := "min", desc := "(II)I" } : Jvm.MethodName) jdk_29_method_69_code (2 : Nat) (Option.some Jvm.ClassFile.FieldType.int)).before args0 about1 = true := code_word (m := ⟨13, 1⟩) (meth := k13m1) (c := k13c1) (by decide +kernel) rfl rfl rfl (by decide +kernel)
set_option maxRecDepth 65536 in
theorem w_c25 : (Jvm.Cond.code ({ cls := "java/lang/String", name := "<init>", desc := "([BB)V" } : Jvm.MethodName) jdk_42_method_151_code (3 : Nat) (Option.none : Option Jvm.ClassFile.FieldType)).before args0 about1 = true := code_word (m := ⟨7, 6⟩) (meth := k7m6) (c := k7c6) (by decide +kernel) rfl rfl rfl (by decide +kernel)
def codes1 : List Jvm.Cond := [Jvm.Cond.code x code maxLocals ret, Jvm.Cond.code ({ cls := "com/example/shelfmark/shelfmark/model/MarcRecordWithoutOuterSpacesPinLaw", name := "draw", desc := "(I)C" } : Jvm.MethodName) method_2_code (1 : Nat) (Option.some Jvm.ClassFile.FieldType.char), Jvm.Cond.code ({ cls := "java/lang/String", name := "<init>", desc := "([C)V" } : Jvm.MethodName) jdk_42_method_3_code (2 : Nat) (Option.none : Option Jvm.ClassFile.FieldType), Jvm.Cond.code ({ cls := "java/lang/String", name := "<init>", desc := "([CIILjava/lang/Void;)V" } : Jvm.MethodName) jdk_42_method_149_code (6 : Nat) (Option.none : Option Jvm.ClassFile.FieldType), Jvm.Cond.code ({ cls := "java/lang/Object", name := "<init>", desc := "()V" } : Jvm.MethodName) object_method_1_code (1 : Nat) (Option.none : Option Jvm.ClassFile.FieldType), Jvm.Cond.code ({ cls := "com/example/shelfmark/shelfmark/model/MarcRecord", name := "withoutOuterSpaces", desc := "(Ljava/lang/String;)Ljava/lang/String;" } : Jvm.MethodName) prog_36_method_11_code (3 : Nat) (Option.some (Jvm.ClassFile.FieldType.object "java/lang/String")), Jvm.Cond.code ({ cls := "java/lang/String", name := "length", desc := "()I" } : Jvm.MethodName) jdk_42_method_54_code (1 : Nat) (Option.some Jvm.ClassFile.FieldType.int), Jvm.Cond.code ({ cls := "java/lang/String", name := "coder", desc := "()B" } : Jvm.MethodName) jdk_42_method_152_code (1 : Nat) (Option.some Jvm.ClassFile.FieldType.byte), Jvm.Cond.code ({ cls := "java/lang/String", name := "substring", desc := "(II)Ljava/lang/String;" } : Jvm.MethodName) jdk_42_method_92_code (5 : Nat) (Option.some (Jvm.ClassFile.FieldType.object "java/lang/String")), Jvm.Cond.code ({ cls := "java/lang/String", name := "checkBoundsBeginEnd", desc := "(III)V" } : Jvm.MethodName) jdk_42_method_158_code (3 : Nat) (Option.none : Option Jvm.ClassFile.FieldType), Jvm.Cond.code ({ cls := "jdk/internal/util/Preconditions", name := "checkFromToIndex", desc := "(IIILjava/util/function/BiFunction;)I" } : Jvm.MethodName) jdk_41_method_12_code (4 : Nat) (Option.some Jvm.ClassFile.FieldType.int), Jvm.Cond.code ({ cls := "com/example/shelfmark/shelfmark/model/MarcRecordWithoutOuterSpacesPinLaw", name := "sp", desc := "(C)Z" } : Jvm.MethodName) method_3_code (1 : Nat) (Option.some Jvm.ClassFile.FieldType.boolean), Jvm.Cond.code ({ cls := "java/lang/StringUTF16", name := "compress", desc := "([CII)[B" } : Jvm.MethodName) jdk_52_method_16_code (6 : Nat) (Option.some (Jvm.ClassFile.FieldType.array Jvm.ClassFile.FieldType.byte)), Jvm.Cond.code ({ cls := "java/lang/StringUTF16", name := "compress", desc := "([CI[BII)I" } : Jvm.MethodName) jdk_52_method_21_code (7 : Nat) (Option.some Jvm.ClassFile.FieldType.int), Jvm.Cond.code ({ cls := "java/lang/StringUTF16", name := "coderFromArrayLen", desc := "([BI)B" } : Jvm.MethodName) jdk_52_method_15_code (2 : Nat) (Option.some Jvm.ClassFile.FieldType.byte), Jvm.Cond.code ({ cls := "java/lang/String", name := "charAt", desc := "(I)C" } : Jvm.MethodName) jdk_42_method_56_code (2 : Nat) (Option.some Jvm.ClassFile.FieldType.char), Jvm.Cond.code ({ cls := "java/lang/String", name := "isLatin1", desc := "()Z" } : Jvm.MethodName) jdk_42_method_154_code (1 : Nat) (Option.some Jvm.ClassFile.FieldType.boolean), Jvm.Cond.code ({ cls := "java/lang/StringLatin1", name := "charAt", desc := "([BI)C" } : Jvm.MethodName) jdk_43_method_2_code (2 : Nat) (Option.some Jvm.ClassFile.FieldType.char), Jvm.Cond.code ({ cls := "java/lang/String", name := "checkIndex", desc := "(II)V" } : Jvm.MethodName) jdk_42_method_155_code (2 : Nat) (Option.none : Option Jvm.ClassFile.FieldType), Jvm.Cond.code ({ cls := "jdk/internal/util/Preconditions", name := "checkIndex", desc := "(IILjava/util/function/BiFunction;)I" } : Jvm.MethodName) jdk_41_method_11_code (3 : Nat) (Option.some Jvm.ClassFile.FieldType.int), Jvm.Cond.code ({ cls := "java/lang/StringLatin1", name := "newString", desc := "([BII)Ljava/lang/String;" } : Jvm.MethodName) jdk_43_method_47_code (3 : Nat) (Option.some (Jvm.ClassFile.FieldType.object "java/lang/String")), Jvm.Cond.code ({ cls := "java/util/Arrays", name := "copyOfRange", desc := "([BII)[B" } : Jvm.MethodName) jdk_65_method_132_code (3 : Nat) (Option.some (Jvm.ClassFile.FieldType.array Jvm.ClassFile.FieldType.byte)), Jvm.Cond.code ({ cls := "java/util/Arrays", name := "copyOfRangeByte", desc := "([BII)[B" } : Jvm.MethodName) jdk_65_method_133_code (5 : Nat) (Option.some (Jvm.ClassFile.FieldType.array Jvm.ClassFile.FieldType.byte)), Jvm.Cond.code ({ cls := "java/util/Arrays", name := "checkLength", desc := "(II)V" } : Jvm.MethodName) jdk_65_method_131_code (2 : Nat) (Option.none : Option Jvm.ClassFile.FieldType), Jvm.Cond.code ({ cls := "java/lang/Math", name := "min", desc := "(II)I" } : Jvm.MethodName) jdk_29_method_69_code (2 : Nat) (Option.some Jvm.ClassFile.FieldType.int), Jvm.Cond.code ({ cls := "java/lang/String", name := "<init>", desc := "([BB)V" } : Jvm.MethodName) jdk_42_method_151_code (3 : Nat) (Option.none : Option Jvm.ClassFile.FieldType)]
set_option maxRecDepth 65536 in
theorem codes_eq : words1.filter isCode = codes1 := rfl
theorem w_codes : ∀ c ∈ words1.filter isCode, c.before args0 about1 = true := by
  rw [codes_eq]
  intro c hc
  simp only [codes1, List.mem_cons, List.not_mem_nil, or_false] at hc
  rcases hc with rfl | rfl | rfl | rfl | rfl | rfl | rfl | rfl | rfl | rfl | rfl | rfl | rfl | rfl | rfl | rfl | rfl | rfl | rfl | rfl | rfl | rfl | rfl | rfl | rfl | rfl
  · exact w_c0
  · exact w_c1
  · exact w_c2
  · exact w_c3
  · exact w_c4
  · exact w_c5
  · exact w_c6
  · exact w_c7
  · exact w_c8
  · exact w_c9
  · exact w_c10
  · exact w_c11
  · exact w_c12
  · exact w_c13
  · exact w_c14
  · exact w_c15
  · exact w_c16
  · exact w_c17
  · exact w_c18
  · exact w_c19
  · exact w_c20
  · exact w_c21
  · exact w_c22
  · exact w_c23
  · exact w_c24
  · exact w_c25
set_option maxRecDepth 65536 in
theorem w_t1 : (words1.take 24).all (fun c => isCode c || c.before args0 about1) = true := by decide +kernel
set_option maxRecDepth 65536 in
theorem w_t2 : ((words1.drop 24).take 24).all (fun c => isCode c || c.before args0 about1) = true := by decide +kernel
set_option maxRecDepth 65536 in
theorem w_t3 : (((words1.drop 24).drop 24).take 24).all (fun c => isCode c || c.before args0 about1) = true := by decide +kernel
set_option maxRecDepth 65536 in
theorem w_t4 : ((((words1.drop 24).drop 24).drop 24).take 24).all (fun c => isCode c || c.before args0 about1) = true := by decide +kernel
set_option maxRecDepth 65536 in
theorem w_t5 : ((((words1.drop 24).drop 24).drop 24).drop 24).all (fun c => isCode c || c.before args0 about1) = true := by decide +kernel
theorem w_tables : (allAtoms (Jvm.Cond.code x code maxLocals ret :: tables_1)).before args0 about1 = true := by
  rw [allAtoms_all]
  show words1.all (fun c => c.before args0 about1) = true
  refine all_split ?_ w_codes
  rw [← List.take_append_drop 24 words1, List.all_append, w_t1, ← List.take_append_drop 24 (words1.drop 24), List.all_append, w_t2, ← List.take_append_drop 24 ((words1.drop 24).drop 24), List.all_append, w_t3, ← List.take_append_drop 24 (((words1.drop 24).drop 24).drop 24), List.all_append, w_t4, w_t5]
  rfl
set_option maxRecDepth 65536 in
theorem w_rest : rest_1_c.before args0 about1 = true := by decide +kernel
set_option maxRecDepth 65536 in
theorem w_case : (Jvm.Cond.and given_1 narrow_1).before args0 about1 = true := by decide +kernel
set_option maxRecDepth 65536 in
theorem w_consts : constsHeld consts_1 about1 := Jvm.Lit.constsHeldB_iff.mp (by decide +kernel)
theorem w_applies : (headSpec (Jvm.Cond.code x code maxLocals ret :: tables_1) room_1).applies x e0.platform about1 = true :=
  (Spec.applies_iff w_frames).mpr ⟨w_running, w_runnable, w_alone, w_named, w_hears, w_ripe, w_room, w_tables⟩
theorem atStart : AtStart classFile x code maxLocals ret World_1 tables_1 room_1 Calls_1 rest_1 Pre_1 launch0 p0 e0 about1 theMethod args0 below0 :=
  ⟨lists_1, trivial, launch0.admits_env _ _ _, launch0.least_env, fairChoices_fair.cas, fairChoices_fair.clock, w_frames, w_args, w_heap, w_applies, ⟨w_consts, trivial⟩, w_rest, w_case⟩
end start1
theorem witness_1 : WitnessClaimed_1 := ⟨start1.p0, start1.e0, start1.about1, start1.theMethod, start1.args0, start1.below0, start1.atStart⟩
end Jvm.Pilot.@@N@@
