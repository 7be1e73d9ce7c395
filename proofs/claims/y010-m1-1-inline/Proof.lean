import JvmDerived
import JvmDerived.Pilot.@@N@@Statement
import JvmDerived.Pilot.@@N@@Code
set_option linter.unusedVariables false
set_option linter.unusedSimpArgs false
/- laws to paste: Road.backV, Road.lenW, Road.eqW, Road.codOf (cut by pick.py; bodies as the Statement names them) -/
namespace Jvm.Pilot.@@N@@
namespace StrChars
open Jvm Sem ClassFile Op Lib Jvm.Stand Jvm.Free.XT Jvm.Free.ALB Jvm.Free.JM Jvm.Free
open Jvm.Lib.Cold (StaticIs)
/-- a char array whose places are chars -/
def Ch (a : Addr) (A : Cell) (U : State) : Prop := Arr .char a A U ∧ Typed .char A
theorem Ch.mv {a : Addr} {A : Cell} {U U' : State} (h : Ch a A U) (hal : U.vm.Alike U'.vm) (hh : U'.heap = U.heap) : Ch a A U' := ⟨h.1.mv hal hh, h.2⟩
theorem Ch.keep {a : Addr} {A : Cell} {U U' : State} (h : Ch a A U) (hal : U.vm.Alike U'.vm) (hk : U'.heap[a]? = some A) : Ch a A U' := ⟨h.1.keep hal hk, h.2⟩
/-- what place i of a char[]'s cell holds -/
def cv (A : Cell) (i : Nat) : Int32 := match A.slots[i]? with | some (.int x) => x | _ => 0
theorem Ch.get {a : Addr} {A : Cell} {U : State} (h : Ch a A U) {i : Nat} (hi : i < A.slots.size) : A.slots[i]? = some (.int (cv A i)) := by
  have e := Array.getElem?_eq_getElem hi
  have f := h.2 i _ e
  unfold cv; rw [e]
  generalize A.slots[i] = v at f
  cases v <;> simp [fits] at f ⊢
/-- the byte that i2b leaves of a char -/
def lo8 (x : Int32) : Int32 := x.toInt8.toInt32
theorem fits_lo8 (y : Int32) : fits .byte (.int (lo8 y)) = true := by
  have h1 := y.toInt8.le_toInt
  have h2 := y.toInt8.toInt_lt
  simp only [lo8, fits, Bool.and_eq_true, decide_eq_true_eq, Int32.le_iff_toInt_le, Int8.toInt_toInt32, show (-128 : Int32).toInt = -128 from by decide, show (127 : Int32).toInt = 127 from by decide]
  omega
/-- A' is A but that each place j of lo .. hi - 1 holds f j -/
def Laid (A A' : Cell) (lo hi : Nat) (f : Nat → Value) : Prop := A'.cls = A.cls ∧ A'.vm = A.vm ∧ A'.slots.size = A.slots.size ∧ ∀ i, A'.slots[i]? = if lo ≤ i ∧ i < hi then some (f i) else A.slots[i]?
theorem Laid.zero (A : Cell) (lo : Nat) (f : Nat → Value) : Laid A A lo (lo + 0) f := ⟨rfl, rfl, rfl, fun i => by rw [if_neg (by omega)]⟩
theorem Laid.step {A Ak : Cell} {lo k : Nat} {f : Nat → Value} {v : Value} (h : Laid A Ak lo k f) (hlo : lo ≤ k) (hk : k < Ak.slots.size) (hv : v = f k) : Laid A (Ak.setSlot k v) lo (k + 1) f := by
  refine ⟨h.1, h.2.1, by simpa [Cell.setSlot] using h.2.2.1, fun i => ?_⟩
  by_cases e : k = i
  · subst e; rw [Cell.slots_setSlot_self v hk, if_pos (by omega), hv]
  · rw [Cell.slots_setSlot_ne v e, h.2.2.2 i]
    by_cases q : lo ≤ i ∧ i < k
    · rw [if_pos q, if_pos (by omega)]
    · rw [if_neg q, if_neg (by omega)]
def U16 : String := "java/lang/StringUTF16"
namespace Cmp5
def yN : MethodName := ⟨"java/lang/StringUTF16", "compress", "([CI[BII)I"⟩
abbrev yB : ByteArray := jdk_52_method_21_code
theorem d0 : decode yB 0 = .ok (.iconst 0, 1) := by decide +kernel
theorem d1 : decode yB 1 = .ok (.istore 5, 2) := by decide +kernel
theorem d3 : decode yB 3 = .ok (.iload 5, 2) := by decide +kernel
theorem d5 : decode yB 5 = .ok (.iload 4, 2) := by decide +kernel
theorem d7 : decode yB 7 = .ok (.if_icmp (.ge) 37, 3) := by decide +kernel
theorem d10 : decode yB 10 = .ok (.aload_n 0, 1) := by decide +kernel
theorem d11 : decode yB 11 = .ok (.iload_n 1, 1) := by decide +kernel
theorem d12 : decode yB 12 = .ok (.caload, 1) := by decide +kernel
theorem d13 : decode yB 13 = .ok (.istore 6, 2) := by decide +kernel
theorem d15 : decode yB 15 = .ok (.iload 6, 2) := by decide +kernel
theorem d17 : decode yB 17 = .ok (.sipush 255, 3) := by decide +kernel
theorem d20 : decode yB 20 = .ok (.if_icmp (.le) 6, 3) := by decide +kernel
theorem d26 : decode yB 26 = .ok (.aload_n 2, 1) := by decide +kernel
theorem d27 : decode yB 27 = .ok (.iload_n 3, 1) := by decide +kernel
theorem d28 : decode yB 28 = .ok (.iload 6, 2) := by decide +kernel
theorem d30 : decode yB 30 = .ok (.i2b, 1) := by decide +kernel
theorem d31 : decode yB 31 = .ok (.bastore, 1) := by decide +kernel
theorem d32 : decode yB 32 = .ok (.iinc 1 1, 3) := by decide +kernel
theorem d35 : decode yB 35 = .ok (.iinc 3 1, 3) := by decide +kernel
theorem d38 : decode yB 38 = .ok (.iinc 5 1, 3) := by decide +kernel
theorem d41 : decode yB 41 = .ok (.goto (-38), 3) := by decide +kernel
theorem d44 : decode yB 44 = .ok (.iload 4, 2) := by decide +kernel
theorem d46 : decode yB 46 = .ok (.ireturn, 1) := by decide +kernel
def site : List Cond := []
def tab : Cond := tabOf yN yB 7 (some .int) site
def P (b : Addr) (A : Cell) (d : Addr) (B : Cell) (o q len : Nat) (args : Array Value) (s : State) : Prop := args = #[.ref b, .int (Int32.ofNat o), .ref d, .int (Int32.ofNat q), .int (Int32.ofNat len)] ∧ Ch b A s ∧ Arr .byte d B s ∧ b ≠ d ∧ o + len ≤ A.slots.size ∧ q + len ≤ B.slots.size ∧ ∀ i, i < len → ¬ 255 < cv A (o + i)
def E (b : Addr) (A : Cell) (d : Addr) (B : Cell) (o q len : Nat) (r : Option Value) (s u : State) : Prop := r = some (.int (Int32.ofNat len)) ∧ ∃ B', Put d B' s u ∧ Laid B B' q (q + len) (fun j => Value.int (lo8 (cv A (o + (j - q)))))
/-- no char of the range above 255: len; the places written hold each char's low byte -/
theorem law (l : Launch) (b : Addr) (A : Cell) (d : Addr) (B : Cell) (o q len : Nat) : Law l yN 5 5 0 0 yB 7 (some .int) site (P b A d B o q len) (E b A d B o q len) (copyLocs d q len) 0 0 := by
  refine Law.of_walk (plainFor_of_name (by decide +kernel)) (by decide +kernel) (by decide +kernel) (by decide) (fun _ _ h => by rw [h.1]; rfl) (fun _ U U' hal hh h => ⟨h.1, h.2.1.mv hal hh, h.2.2.1.mv hal hh, h.2.2.2⟩) (fun r U U' V V' h1 hal h2 h => ⟨h.1, h.2.elim fun B' q => ⟨B', q.1.mv h1 h2, q.2⟩⟩) ?_
  intro p e s m args below meth c s₁ X0 hexec hbytes hml hret hlk hnm hown hh0 W hP
  obtain ⟨rfl, hA, hB, hne, l1, l2, hp⟩ := hP
  have c1 : Steps p.tables e below (s₁.setTop (entryFrame m #[.ref b, .int (Int32.ofNat o), .ref d, .int (Int32.ofNat q), .int (Int32.ofNat len)] 7)) (s₁.setTop (mkF m 0 #[.val (.ref b), .val (.int (Int32.ofNat o)), .val (.ref d), .val (.int (Int32.ofNat q)), .val (.int (Int32.ofNat len)), .unset, .unset] [])) := entry rfl
  have hA0 := hA.1.mv X0.warmed.alike hh0
  have hB0 := hB.mv X0.warmed.alike hh0
  have a31 := hA.1.2.2.2
  have c2 : Steps p.tables e below (s₁.setTop (entryFrame m #[.ref b, .int (Int32.ofNat o), .ref d, .int (Int32.ofNat q), .int (Int32.ofNat len)] 7)) (s₁.setTop (mkF m 3 #[.val (.ref b), .val (.int (Int32.ofNat o)), .val (.ref d), .val (.int (Int32.ofNat q)), .val (.int (Int32.ofNat len)), .val (.int 0), .unset] [])) := c1.trans (by
    refine iconstV X0.here hexec rfl 0 (hb hbytes d0) (by decide) ?_
    refine XS.istore X0.here hexec rfl (hb hbytes d1) rfl rfl ?_
    exact Steps.refl _)
  have loop : ∀ (r i : Nat), i + r = len → ∀ (z : Slot), (z = .unset ∨ ∃ w, z = .val w ∧ w.category = 1) → ∀ (Tl : State) (Bk : Cell), Stand p l e { frames := 0, locals := 0, cells := 0, slots := 0 } s m #[.ref b, .int (Int32.ofNat o), .ref d, .int (Int32.ofNat q), .int (Int32.ofNat len)] below meth c Tl ([] ++ copyLocs d q i) 0 0 → Put d Bk s₁ Tl → Laid B Bk q (q + i) (fun j => Value.int (lo8 (cv A (o + (j - q))))) →
      Steps p.tables e below (s₁.setTop (entryFrame m #[.ref b, .int (Int32.ofNat o), .ref d, .int (Int32.ofNat q), .int (Int32.ofNat len)] 7)) (Tl.setTop (mkF m 3 #[.val (.ref b), .val (.int (Int32.ofNat (o + i))), .val (.ref d), .val (.int (Int32.ofNat (q + i))), .val (.int (Int32.ofNat len)), .val (.int (Int32.ofNat i)), z] [])) → ∃ (T' : State) (B' : Cell) (z' : Slot), Stand p l e { frames := 0, locals := 0, cells := 0, slots := 0 } s m #[.ref b, .int (Int32.ofNat o), .ref d, .int (Int32.ofNat q), .int (Int32.ofNat len)] below meth c T' ([] ++ copyLocs d q len) 0 0 ∧ Put d B' s₁ T' ∧ Laid B B' q (q + len) (fun j => Value.int (lo8 (cv A (o + (j - q))))) ∧
      Steps p.tables e below (s₁.setTop (entryFrame m #[.ref b, .int (Int32.ofNat o), .ref d, .int (Int32.ofNat q), .int (Int32.ofNat len)] 7)) (T'.setTop (mkF m 3 #[.val (.ref b), .val (.int (Int32.ofNat (o + len))), .val (.ref d), .val (.int (Int32.ofNat (q + len))), .val (.int (Int32.ofNat len)), .val (.int (Int32.ofNat len)), z'] [])) := by
    intro r
    induction r with
    | zero =>
      intro i hi z hz Tl Bk Xl pl fl cl
      have hil : i = len := by omega
      rw [hil] at Xl fl cl
      exact ⟨Tl, Bk, z, Xl, pl, fl, cl⟩
    | succ r ih =>
      intro i hi z hz Tl Bk Xl pl fl cl
      have all := X0.warmed.alike.symm.trans Xl.warmed.alike
      have hAl := hA0.keep all (pl.other hne hA0.1)
      have hBk := hB0.like all pl.1 fl.1 fl.2.1 fl.2.2.1
      have hlt : q + i < Bk.slots.size := by rw [fl.2.2.1]; omega
      have c3 : Steps p.tables e below (s₁.setTop (entryFrame m #[.ref b, .int (Int32.ofNat o), .ref d, .int (Int32.ofNat q), .int (Int32.ofNat len)] 7)) (Tl.setTop (mkF m 12 #[.val (.ref b), .val (.int (Int32.ofNat (o + i))), .val (.ref d), .val (.int (Int32.ofNat (q + i))), .val (.int (Int32.ofNat len)), .val (.int (Int32.ofNat i)), z] [.int (Int32.ofNat (o + i)), .ref b])) := cl.trans (by
        refine XS.iload Xl.here hexec rfl (hb hbytes d3) rfl ?_
        refine XS.iload Xl.here hexec rfl (hb hbytes d5) rfl ?_
        refine XS.icmpNo Xl.here hexec rfl (hb hbytes d7) rfl (ii_ge_f (lt32 (by omega) (by omega))) ?_
        refine XS.aloadN Xl.here hexec rfl (hb hbytes d10) rfl rfl ?_
        refine XS.iloadN Xl.here hexec rfl (hb hbytes d11) rfl ?_
        exact Steps.refl _)
      have c4 : Steps p.tables e below (s₁.setTop (entryFrame m #[.ref b, .int (Int32.ofNat o), .ref d, .int (Int32.ofNat q), .int (Int32.ofNat len)] 7)) (Tl.setTop (mkF m 13 #[.val (.ref b), .val (.int (Int32.ofNat (o + i))), .val (.ref d), .val (.int (Int32.ofNat (q + i))), .val (.int (Int32.ofNat len)), .val (.int (Int32.ofNat i)), z] [.int (cv A (o + i))])) := c3.trans (by
        refine Xl.aget hexec hAl rfl (hA.get (i := o + i) (by omega)) rfl rfl (hb hbytes d12) ?_
        exact Steps.refl _)
      have c5 : Steps p.tables e below (s₁.setTop (entryFrame m #[.ref b, .int (Int32.ofNat o), .ref d, .int (Int32.ofNat q), .int (Int32.ofNat len)] 7)) (Tl.setTop (mkF m 15 #[.val (.ref b), .val (.int (Int32.ofNat (o + i))), .val (.ref d), .val (.int (Int32.ofNat (q + i))), .val (.int (Int32.ofNat len)), .val (.int (Int32.ofNat i)), .val (.int (cv A (o + i)))] [])) := c4.trans (by
        refine XS.istoreS Xl.here hexec rfl (hb hbytes d13) rfl rfl hz ?_
        exact Steps.refl _)
      have c6 : Steps p.tables e below (s₁.setTop (entryFrame m #[.ref b, .int (Int32.ofNat o), .ref d, .int (Int32.ofNat q), .int (Int32.ofNat len)] 7)) (Tl.setTop (mkF m 31 #[.val (.ref b), .val (.int (Int32.ofNat (o + i))), .val (.ref d), .val (.int (Int32.ofNat (q + i))), .val (.int (Int32.ofNat len)), .val (.int (Int32.ofNat i)), .val (.int (cv A (o + i)))] [.int (lo8 (cv A (o + i))), .int (Int32.ofNat (q + i)), .ref d])) := c5.trans (by
        refine XS.iload Xl.here hexec rfl (hb hbytes d15) rfl ?_
        refine sipushV Xl.here hexec rfl 255 (hb hbytes d17) (by decide) ?_
        refine XS.icmpYes Xl.here hexec rfl (pc0 := 20) rfl (hb hbytes d20) rfl (ii_le_t (hp i (by omega))) (by decide) rfl ?_
        refine XS.aloadN Xl.here hexec rfl (hb hbytes d26) rfl rfl ?_
        refine XS.iloadN Xl.here hexec rfl (hb hbytes d27) rfl ?_
        refine XS.iload Xl.here hexec rfl (hb hbytes d28) rfl ?_
        refine i2b Xl.here hexec rfl (hb hbytes d30) rfl ?_
        exact Steps.refl _)
      obtain ⟨T7, X7, p7, st7⟩ := Xl.aput hexec hBk rfl hlt rfl (fits_lo8 (cv A (o + i))) (g := (mkF m 31 #[.val (.ref b), .val (.int (Int32.ofNat (o + i))), .val (.ref d), .val (.int (Int32.ofNat (q + i))), .val (.int (Int32.ofNat len)), .val (.int (Int32.ofNat i)), .val (.int (cv A (o + i)))] [.int (lo8 (cv A (o + i))), .int (Int32.ofNat (q + i)), .ref d])) rfl (rest := []) rfl (hb hbytes d31)
      have c8 : Steps p.tables e below (s₁.setTop (entryFrame m #[.ref b, .int (Int32.ofNat o), .ref d, .int (Int32.ofNat q), .int (Int32.ofNat len)] 7)) (T7.setTop (mkF m 32 #[.val (.ref b), .val (.int (Int32.ofNat (o + i))), .val (.ref d), .val (.int (Int32.ofNat (q + i))), .val (.int (Int32.ofNat len)), .val (.int (Int32.ofNat i)), .val (.int (cv A (o + i)))] [])) := c6.trans (st7 _ (Steps.refl _))
      have c9 : Steps p.tables e below (s₁.setTop (entryFrame m #[.ref b, .int (Int32.ofNat o), .ref d, .int (Int32.ofNat q), .int (Int32.ofNat len)] 7)) (T7.setTop (mkF m 3 #[.val (.ref b), .val (.int (Int32.ofNat (o + i) + 1)), .val (.ref d), .val (.int (Int32.ofNat (q + i) + 1)), .val (.int (Int32.ofNat len)), .val (.int (Int32.ofNat i + 1)), .val (.int (cv A (o + i)))] [])) := c8.trans (by
        refine iincV X7.here hexec rfl 1 (hb hbytes d32) (by decide) rfl rfl ?_
        refine iincV X7.here hexec rfl 1 (hb hbytes d35) (by decide) rfl rfl ?_
        refine iincV X7.here hexec rfl 1 (hb hbytes d38) (by decide) rfl rfl ?_
        refine XS.goto X7.here hexec rfl (pc0 := 41) rfl (hb hbytes d41) (by decide) rfl ?_
        exact Steps.refl _)
      have c10 : Steps p.tables e below (s₁.setTop (entryFrame m #[.ref b, .int (Int32.ofNat o), .ref d, .int (Int32.ofNat q), .int (Int32.ofNat len)] 7)) (T7.setTop (mkF m 3 #[.val (.ref b), .val (.int (Int32.ofNat (o + (i + 1)))), .val (.ref d), .val (.int (Int32.ofNat (q + (i + 1)))), .val (.int (Int32.ofNat len)), .val (.int (Int32.ofNat (i + 1))), .val (.int (cv A (o + i)))] [])) := by
        have := c9
        rw [succ32, succ32, succ32] at this
        exact this
      exact ih (i + 1) (by omega) _ (Or.inr ⟨_, rfl, rfl⟩) T7 _ (by rw [copyLocs_step, ← List.append_assoc]; exact X7) (pl.trans p7) (fl.step (by omega) hlt (by simp)) c10
  obtain ⟨T9, B9, z9, X9, p9, f9, g9⟩ := loop len 0 (by omega) .unset (Or.inl rfl) s₁ B (by simpa [copyLocs] using X0) ⟨hB0.1, fun _ _ => rfl, rfl⟩ (Laid.zero _ _ _) c2
  have c11 : Steps p.tables e below (s₁.setTop (entryFrame m #[.ref b, .int (Int32.ofNat o), .ref d, .int (Int32.ofNat q), .int (Int32.ofNat len)] 7)) (T9.setTop (mkF m 46 #[.val (.ref b), .val (.int (Int32.ofNat (o + len))), .val (.ref d), .val (.int (Int32.ofNat (q + len))), .val (.int (Int32.ofNat len)), .val (.int (Int32.ofNat len)), z9] [.int (Int32.ofNat len)])) := g9.trans (by
    refine XS.iload X9.here hexec rfl (hb hbytes d3) rfl ?_
    refine XS.iload X9.here hexec rfl (hb hbytes d5) rfl ?_
    refine XS.icmpYes X9.here hexec rfl (pc0 := 7) rfl (hb hbytes d7) rfl (ii_ge_t (nlt32 (by omega) (Nat.le_refl _))) (by decide) rfl ?_
    refine XS.iload X9.here hexec rfl (hb hbytes d44) rfl ?_
    exact Steps.refl _)
  exact ⟨T9, some (.int (Int32.ofNat len)), _, _, _, X9, by simp, rfl, rfl, (fun h => by cases h), ⟨rfl, B9, p9.from hh0, f9⟩, fun fs hl => c11.trans (X9.ireturnOut hexec hret rfl (Or.inl rfl) (hb hbytes d46) hl)⟩
end Cmp5
namespace Cmp3
def yN : MethodName := ⟨"java/lang/StringUTF16", "compress", "([CII)[B"⟩
abbrev yB : ByteArray := jdk_52_method_16_code
theorem d0 : decode yB 0 = .ok (.iload_n 2, 1) := by decide +kernel
theorem d1 : decode yB 1 = .ok (.newarray .byte, 2) := by decide +kernel
theorem d3 : decode yB 3 = .ok (.astore_n 3, 1) := by decide +kernel
theorem d4 : decode yB 4 = .ok (.aload_n 0, 1) := by decide +kernel
theorem d5 : decode yB 5 = .ok (.iload_n 1, 1) := by decide +kernel
theorem d6 : decode yB 6 = .ok (.aload_n 3, 1) := by decide +kernel
theorem d7 : decode yB 7 = .ok (.iconst 0, 1) := by decide +kernel
theorem d8 : decode yB 8 = .ok (.iload_n 2, 1) := by decide +kernel
theorem d9 : decode yB 9 = .ok (.invokestatic 115, 3) := by decide +kernel
theorem d12 : decode yB 12 = .ok (.istore 4, 2) := by decide +kernel
theorem d14 : decode yB 14 = .ok (.iload 4, 2) := by decide +kernel
theorem d16 : decode yB 16 = .ok (.iload_n 2, 1) := by decide +kernel
theorem d17 : decode yB 17 = .ok (.if_icmp (.eq) 40, 3) := by decide +kernel
theorem d57 : decode yB 57 = .ok (.aload_n 3, 1) := by decide +kernel
theorem d58 : decode yB 58 = .ok (.areturn, 1) := by decide +kernel
def site : List Cond := [.arrayClass .byte, Cmp5.tab] ++ staticW U16 115 Cmp5.yN
def tab : Cond := tabOf yN yB 6 (some (.array .byte)) site
def P (b : Addr) (A : Cell) (o len : Nat) (args : Array Value) (s : State) : Prop := args = #[.ref b, .int (Int32.ofNat o), .int (Int32.ofNat len)] ∧ Ch b A s ∧ o + len ≤ A.slots.size ∧ len ≤ 536870912 ∧ ∀ i, i < len → ¬ 255 < cv A (o + i)
def E (b : Addr) (A : Cell) (o len : Nat) (r : Option Value) (s u : State) : Prop := NewArr .byte "[B" len (fun j => .int (lo8 (cv A (o + j)))) r s u ∧ u.heap.size = s.heap.size + 1
/-- no char of the range above 255: a new byte[] of their low bytes -/
theorem law (l : Launch) (b : Addr) (A : Cell) (o len : Nat) : Law l yN 3 3 1 18 yB 6 (some (.array .byte)) site (P b A o len) (E b A o len) [] 1 len := by
  refine Law.of_walk (plainFor_of_name (by decide +kernel)) (by decide +kernel) (by decide +kernel) (by decide) (fun _ _ h => by rw [h.1]; rfl) (fun _ U U' hal hh h => ⟨h.1, h.2.1.mv hal hh, h.2.2⟩) (fun r U U' V V' h1 hal h2 h => ⟨NewArr.mv r U U' V V' h1 hal h2 h.1, by rw [h1, h2]; exact h.2⟩) ?_
  intro p e s m args below meth c s₁ X0 hexec hbytes hml hret hlk hnm hown hh0 W hP
  obtain ⟨rfl, hA, l1, l2, hp⟩ := hP
  have a31 := hA.1.2.2.2
  have c1 : Steps p.tables e below (s₁.setTop (entryFrame m #[.ref b, .int (Int32.ofNat o), .int (Int32.ofNat len)] 6)) (s₁.setTop (mkF m 0 #[.val (.ref b), .val (.int (Int32.ofNat o)), .val (.int (Int32.ofNat len)), .unset, .unset, .unset] [])) := entry rfl
  have c2 : Steps p.tables e below (s₁.setTop (entryFrame m #[.ref b, .int (Int32.ofNat o), .int (Int32.ofNat len)] 6)) (s₁.setTop (mkF m 1 #[.val (.ref b), .val (.int (Int32.ofNat o)), .val (.int (Int32.ofNat len)), .unset, .unset, .unset] [.int (Int32.ofNat len)])) := c1.trans (by
    refine XS.iloadN X0.here hexec rfl (hb hbytes d0) rfl ?_
    exact Steps.refl _)
  obtain ⟨T3, B3, X3, ba3, bs3, bv3, bh3, bf3, st3⟩ := X0.anew hexec (atype := .byte) (wk W (.arrayClass .byte)) rfl (by show len * 1 ≤ _; omega) (by omega) (g := (mkF m 1 #[.val (.ref b), .val (.int (Int32.ofNat o)), .val (.int (Int32.ofNat len)), .unset, .unset, .unset] [.int (Int32.ofNat len)])) rfl (hb hbytes d1) (rest := []) rfl (Nat.le_refl _) (by show 0 + len ≤ len; omega)
  rw [hh0] at ba3 st3
  have kp3 : XT.Kept s T3 := (XT.Kept.of_eq hh0).push bh3
  have hA3 := hA.keep X3.warmed.alike (kp3 _ _ hA.1.1)
  have hne : b ≠ s.heap.size := hA.1.ne
  have c4 : Steps p.tables e below (s₁.setTop (entryFrame m #[.ref b, .int (Int32.ofNat o), .int (Int32.ofNat len)] 6)) (T3.setTop (mkF m 3 #[.val (.ref b), .val (.int (Int32.ofNat o)), .val (.int (Int32.ofNat len)), .unset, .unset, .unset] [.ref s.heap.size])) := c2.trans (st3 _ (Steps.refl _))
  have c5 : Steps p.tables e below (s₁.setTop (entryFrame m #[.ref b, .int (Int32.ofNat o), .int (Int32.ofNat len)] 6)) (T3.setTop (mkF m 9 #[.val (.ref b), .val (.int (Int32.ofNat o)), .val (.int (Int32.ofNat len)), .val (.ref s.heap.size), .unset, .unset] [.int (Int32.ofNat len), .int 0, .ref s.heap.size, .int (Int32.ofNat o), .ref b])) := c4.trans (by
    refine XS.astoreN X3.here hexec rfl (hb hbytes d3) rfl rfl rfl ?_
    refine XS.aloadN X3.here hexec rfl (hb hbytes d4) rfl rfl ?_
    refine XS.iloadN X3.here hexec rfl (hb hbytes d5) rfl ?_
    refine XS.aloadN X3.here hexec rfl (hb hbytes d6) rfl rfl ?_
    refine iconstV X3.here hexec rfl 0 (hb hbytes d7) (by decide) ?_
    refine XS.iloadN X3.here hexec rfl (hb hbytes d8) rfl ?_
    exact Steps.refl _)
  obtain ⟨v6, T6, X6, E6, g6⟩ := X3.callS hexec (Cmp5.law l b A s.heap.size B3 o 0 len) hown (wks W (staticW U16 115 Cmp5.yN)) (wk W Cmp5.tab) (W := 0) (Nat.le_of_ble_eq_true rfl) (Nat.le_of_ble_eq_true rfl) (Nat.le_refl _) (by show 0 + len + 0 ≤ len; omega) (g := (mkF m 9 #[.val (.ref b), .val (.int (Int32.ofNat o)), .val (.int (Int32.ofNat len)), .val (.ref s.heap.size), .unset, .unset] [.int (Int32.ofNat len), .int (Int32.ofNat 0), .ref s.heap.size, .int (Int32.ofNat o), .ref b])) rfl (by rw [hml]; rfl) c5 (argsL := [.ref b, .int (Int32.ofNat o), .ref s.heap.size, .int (Int32.ofNat 0), .int (Int32.ofNat len)]) (rest := []) rfl rfl (by show 2 * 0 + 0 ≤ _; decide) (hb hbytes d9) (⟨rfl, hA3, ba3, hne, l1, by rw [bs3]; simp, hp⟩)
  obtain ⟨rfl, B6, p6, f6⟩ := E6
  have c7 : Steps p.tables e below (s₁.setTop (entryFrame m #[.ref b, .int (Int32.ofNat o), .int (Int32.ofNat len)] 6)) (T6.setTop (mkF m 12 #[.val (.ref b), .val (.int (Int32.ofNat o)), .val (.int (Int32.ofNat len)), .val (.ref s.heap.size), .unset, .unset] [.int (Int32.ofNat len)])) := g6
  have c8 : Steps p.tables e below (s₁.setTop (entryFrame m #[.ref b, .int (Int32.ofNat o), .int (Int32.ofNat len)] 6)) (T6.setTop (mkF m 58 #[.val (.ref b), .val (.int (Int32.ofNat o)), .val (.int (Int32.ofNat len)), .val (.ref s.heap.size), .val (.int (Int32.ofNat len)), .unset] [.ref s.heap.size])) := c7.trans (by
    refine XS.istore X6.here hexec rfl (hb hbytes d12) rfl rfl ?_
    refine XS.iload X6.here hexec rfl (hb hbytes d14) rfl ?_
    refine XS.iloadN X6.here hexec rfl (hb hbytes d16) rfl ?_
    refine XS.icmpYes X6.here hexec rfl (pc0 := 17) rfl (hb hbytes d17) rfl (ii_eq_t rfl) (by decide) rfl ?_
    refine XS.aloadN X6.here hexec rfl (hb hbytes d57) rfl rfl ?_
    exact Steps.refl _)
  have X8 := X6.wide (L' := []) (cells' := 1) (slots' := len) (fun x hx hlt => by
    simp only [List.nil_append, copyLocs, List.mem_map, List.mem_range] at hx
    obtain ⟨i, -, rfl⟩ := hx
    exact absurd hlt (Nat.lt_irrefl _)) (Nat.le_refl _) (by omega)
  exact ⟨T6, some (.ref s.heap.size), _, _, _, X8, rfl, rfl, rfl, (fun h => by cases h), ⟨⟨rfl, B6, ba3.like (X3.warmed.alike.symm.trans X6.warmed.alike) p6.1 f6.1 f6.2.1 f6.2.2.1, f6.2.1.trans bv3, by rw [X6.warmed.alike.findClass, f6.1]; exact bf3, by rw [f6.2.2.1, bs3]; simp, fun j hj => by rw [f6.2.2.2 j, if_pos (by omega)]; rfl, kp3.put p6 (Nat.le_refl _)⟩, by rw [p6.2.2, bh3, hh0]; simp⟩, fun fs hl => c8.trans (X8.areturnOut hexec rfl hret rfl (hb hbytes d58) hl)⟩
end Cmp3
namespace CodL
def yN : MethodName := ⟨"java/lang/StringUTF16", "coderFromArrayLen", "([BI)B"⟩
abbrev yB : ByteArray := jdk_52_method_15_code
theorem d0 : decode yB 0 = .ok (.iload_n 1, 1) := by decide +kernel
theorem d1 : decode yB 1 = .ok (.aload_n 0, 1) := by decide +kernel
theorem d2 : decode yB 2 = .ok (.arraylength, 1) := by decide +kernel
theorem d3 : decode yB 3 = .ok (.isub, 1) := by decide +kernel
theorem d4 : decode yB 4 = .ok (.bipush 31, 2) := by decide +kernel
theorem d6 : decode yB 6 = .ok (.iushr, 1) := by decide +kernel
theorem d7 : decode yB 7 = .ok (.i2b, 1) := by decide +kernel
theorem d8 : decode yB 8 = .ok (.ireturn, 1) := by decide +kernel
def site : List Cond := []
def tab : Cond := tabOf yN yB 2 (some .byte) site
def P (d : Addr) (B : Cell) (args : Array Value) (s : State) : Prop := args = #[.ref d, .int (Int32.ofNat B.slots.size)] ∧ Arr .byte d B s
def E (r : Option Value) (s u : State) : Prop := XT.PureE (some (.int 0)) r s u
/-- an array as long as the number of chars: LATIN1 -/
theorem law (l : Launch) (d : Addr) (B : Cell) : Law l yN 2 2 0 0 yB 2 (some .byte) site (P d B) E [] 0 0 := by
  refine Law.of_walk (plainFor_of_name (by decide +kernel)) (by decide +kernel) (by decide +kernel) (by decide) (fun _ _ h => by rw [h.1]; rfl) (fun _ U U' hal hh h => ⟨h.1, h.2.mv hal hh⟩) (fun r U U' V V' h1 hal h2 h => XT.PureE.mv r U U' V V' h1 hal h2 h) ?_
  intro p e s m args below meth c s₁ X0 hexec hbytes hml hret hlk hnm hown hh0 W hP
  obtain ⟨rfl, hB⟩ := hP
  have hB0 := hB.mv X0.warmed.alike hh0
  have c1 : Steps p.tables e below (s₁.setTop (entryFrame m #[.ref d, .int (Int32.ofNat B.slots.size)] 2)) (s₁.setTop (mkF m 0 #[.val (.ref d), .val (.int (Int32.ofNat B.slots.size))] [])) := entry rfl
  have c2 : Steps p.tables e below (s₁.setTop (entryFrame m #[.ref d, .int (Int32.ofNat B.slots.size)] 2)) (s₁.setTop (mkF m 2 #[.val (.ref d), .val (.int (Int32.ofNat B.slots.size))] [.ref d, .int (Int32.ofNat B.slots.size)])) := c1.trans (by
    refine XS.iloadN X0.here hexec rfl (hb hbytes d0) rfl ?_
    refine XS.aloadN X0.here hexec rfl (hb hbytes d1) rfl rfl ?_
    exact Steps.refl _)
  have c3 : Steps p.tables e below (s₁.setTop (entryFrame m #[.ref d, .int (Int32.ofNat B.slots.size)] 2)) (s₁.setTop (mkF m 8 #[.val (.ref d), .val (.int (Int32.ofNat B.slots.size))] [.int (lo8 (ushr (Int32.ofNat B.slots.size - Int32.ofNat B.slots.size) 31))])) := c2.trans (by
    refine X0.alen hexec hB0 rfl rfl (hb hbytes d2) ?_
    refine XS.isub X0.here hexec rfl (hb hbytes d3) rfl ?_
    refine bipushV X0.here hexec rfl 31 (hb hbytes d4) (by decide) ?_
    refine iushr X0.here hexec rfl (hb hbytes d6) rfl ?_
    refine i2b X0.here hexec rfl (hb hbytes d7) rfl ?_
    exact Steps.refl _)
  have e0 : lo8 (ushr (Int32.ofNat B.slots.size - Int32.ofNat B.slots.size) 31) = 0 := by rw [Int32.sub_self]; decide
  rw [e0] at c3
  exact ⟨s₁, some (.int 0), _, _, _, X0, rfl, rfl, rfl, (fun h => by cases h), ⟨rfl, hh0⟩, fun fs hl => c3.trans (X0.ireturnOut hexec hret rfl (Or.inr (Or.inr (Or.inl rfl))) (hb hbytes d8) hl)⟩
end CodL
/-- the String at a is Latin-1 over a new byte[] (the heap's one new cell): the low bytes of the len chars of A from o on; every cell but a is kept -/
def Got (a : Addr) (D : Cell) (fV fC : Field) (A : Cell) (o len : Nat) (r : Option Value) (s u : State) : Prop := r = none ∧ ∃ D' V : Cell, Blank "java/lang/String" a D' u ∧ Same D D' [fV.slot, fC.slot] ∧ D'.slots[fV.slot]? = some (.ref s.heap.size) ∧ D'.slots[fC.slot]? = some (.int 0) ∧ Arr .byte s.heap.size V u ∧ V.vm = .none ∧ u.vm.findClass "[B" = some V.cls ∧ V.slots.size = len ∧ (∀ j, j < len → V.slots[j]? = some (.int (lo8 (cv A (o + j))))) ∧ (∀ (y : Addr) (c : Cell), y ≠ a → s.heap[y]? = some c → u.heap[y]? = some c) ∧ u.heap.size = s.heap.size + 1
theorem Got.mv {a : Addr} {D A : Cell} {fV fC : Field} {o len : Nat} : ∀ r (U U' V V' : State), U'.heap = U.heap → V.vm.Alike V'.vm → V'.heap = V.heap → Got a D fV fC A o len r U V → Got a D fV fC A o len r U' V' :=
  fun r U U' V V' h1 hal h2 ⟨e0, D', X, a1, a2, a3, a4, a5, a6, a7, a8, a9, a10, a11⟩ => ⟨e0, D', X, a1.mv hal h2, a2, by rw [h1]; exact a3, a4, by rw [h1]; exact a5.mv hal h2, a6, by rw [hal.findClass]; exact a7, a8, a9, by rw [h1, h2]; exact a10, by rw [h1, h2]; exact a11⟩
namespace New4
def yN : MethodName := ⟨"java/lang/String", "<init>", "([CIILjava/lang/Void;)V"⟩
abbrev yB : ByteArray := jdk_42_method_149_code
theorem d0 : decode yB 0 = .ok (.aload_n 0, 1) := by decide +kernel
theorem d1 : decode yB 1 = .ok (.invokespecial 1, 3) := by decide +kernel
theorem d4 : decode yB 4 = .ok (.iload_n 3, 1) := by decide +kernel
theorem d5 : decode yB 5 = .ok (.ifCond (.ne) 22, 3) := by decide +kernel
theorem d27 : decode yB 27 = .ok (.getstatic 38, 3) := by decide +kernel
theorem d30 : decode yB 30 = .ok (.ifCond (.eq) 28, 3) := by decide +kernel
theorem d33 : decode yB 33 = .ok (.aload_n 1, 1) := by decide +kernel
theorem d34 : decode yB 34 = .ok (.iload_n 2, 1) := by decide +kernel
theorem d35 : decode yB 35 = .ok (.iload_n 3, 1) := by decide +kernel
theorem d36 : decode yB 36 = .ok (.invokestatic 177, 3) := by decide +kernel
theorem d39 : decode yB 39 = .ok (.astore 5, 2) := by decide +kernel
theorem d41 : decode yB 41 = .ok (.aload_n 0, 1) := by decide +kernel
theorem d42 : decode yB 42 = .ok (.aload 5, 2) := by decide +kernel
theorem d44 : decode yB 44 = .ok (.iload_n 3, 1) := by decide +kernel
theorem d45 : decode yB 45 = .ok (.invokestatic 47, 3) := by decide +kernel
theorem d48 : decode yB 48 = .ok (.putfield 15, 3) := by decide +kernel
theorem d51 : decode yB 51 = .ok (.aload_n 0, 1) := by decide +kernel
theorem d52 : decode yB 52 = .ok (.aload 5, 2) := by decide +kernel
theorem d54 : decode yB 54 = .ok (.putfield 9, 3) := by decide +kernel
theorem d57 : decode yB 57 = .ok (.return_, 1) := by decide +kernel
def site : List Cond := [.fieldLink "java/lang/String" 38 "java/lang/String" "COMPACT_STRINGS" "Z", Cmp3.tab, CodL.tab, .laysFinal "java/lang/String" "java/lang/String" "value" "[B", .fieldLink "java/lang/String" 9 "java/lang/String" "value" "[B", .laysFinal "java/lang/String" "java/lang/String" "coder" "B", .fieldLink "java/lang/String" 15 "java/lang/String" "coder" "B"] ++ objW "java/lang/String" 1 ++ staticW "java/lang/String" 177 Cmp3.yN ++ staticW "java/lang/String" 47 CodL.yN
def tab : Cond := tabOf yN yB 6 none site
def P (a : Addr) (D : Cell) (fV fC : Field) (b : Addr) (A : Cell) (z : Int32) (o len : Nat) (args : Array Value) (s : State) : Prop := args = #[.ref a, .ref b, .int (Int32.ofNat o), .int (Int32.ofNat len), .null] ∧ Blank "java/lang/String" a D s ∧ Found "java/lang/String" "value" "[B" fV s ∧ Found "java/lang/String" "coder" "B" fC s ∧ Ch b A s ∧ StaticIs s "java/lang/String" "COMPACT_STRINGS" "Z" (.int z) ∧ ¬ z = 0 ∧ 0 < len ∧ o + len ≤ A.slots.size ∧ len ≤ 536870912 ∧ ∀ i, i < len → ¬ 255 < cv A (o + i)
def E (a : Addr) (D : Cell) (fV fC : Field) (A : Cell) (o len : Nat) (r : Option Value) (s u : State) : Prop := Got a D fV fC A o len r s u
/-- len > 0, no char of the range above 255: a Latin-1 String of their low bytes -/
theorem law (l : Launch) (a : Addr) (D : Cell) (fV fC : Field) (b : Addr) (A : Cell) (z : Int32) (o len : Nat) : Law l yN 5 4 2 35 yB 6 none site (P a D fV fC b A z o len) (E a D fV fC A o len) [⟨a, fC.slot⟩, ⟨a, fV.slot⟩] 1 len := by
  refine Law.of_walk (plainFor_of_name (by decide +kernel)) (by decide +kernel) (by decide +kernel) (by decide) (fun _ _ h => by rw [h.1]; rfl) (fun _ U U' hal hh h => ⟨h.1, h.2.1.mv hal hh, h.2.2.1.al hal, h.2.2.2.1.al hal, h.2.2.2.2.1.mv hal hh, h.2.2.2.2.2.1.there hal hh, h.2.2.2.2.2.2⟩) (fun r U U' V V' h1 hal h2 h => Got.mv r U U' V V' h1 hal h2 h) ?_
  intro p e s m args below meth c s₁ X0 hexec hbytes hml hret hlk hnm hown hh0 W hP
  obtain ⟨rfl, hB, f1, f2, hA, s1, hz, l0, l1, l2, hp⟩ := hP
  have a31 := hA.1.2.2.2
  have c1 : Steps p.tables e below (s₁.setTop (entryFrame m #[.ref a, .ref b, .int (Int32.ofNat o), .int (Int32.ofNat len), .null] 6)) (s₁.setTop (mkF m 0 #[.val (.ref a), .val (.ref b), .val (.int (Int32.ofNat o)), .val (.int (Int32.ofNat len)), .val .null, .unset] [])) := entry rfl
  have c2 : Steps p.tables e below (s₁.setTop (entryFrame m #[.ref a, .ref b, .int (Int32.ofNat o), .int (Int32.ofNat len), .null] 6)) (s₁.setTop (mkF m 1 #[.val (.ref a), .val (.ref b), .val (.int (Int32.ofNat o)), .val (.int (Int32.ofNat len)), .val .null, .unset] [.ref a])) := c1.trans (by
    refine XS.aloadN X0.here hexec rfl (hb hbytes d0) rfl rfl ?_
    exact Steps.refl _)
  obtain ⟨T3, X3, q3, st3⟩ := X0.oinit hexec hown (wks W (objW "java/lang/String" 1)) (g := (mkF m 1 #[.val (.ref a), .val (.ref b), .val (.int (Int32.ofNat o)), .val (.int (Int32.ofNat len)), .val .null, .unset] [.ref a])) rfl (by rw [hml]; rfl) (rest := []) rfl (hb hbytes d1) (W := 0) (by show 2 * 0 + 0 ≤ _; decide) (Nat.le_of_ble_eq_true rfl) (Nat.le_of_ble_eq_true rfl)
  have hh3 := q3.trans hh0
  have c4 : Steps p.tables e below (s₁.setTop (entryFrame m #[.ref a, .ref b, .int (Int32.ofNat o), .int (Int32.ofNat len), .null] 6)) (T3.setTop (mkF m 27 #[.val (.ref a), .val (.ref b), .val (.int (Int32.ofNat o)), .val (.int (Int32.ofNat len)), .val .null, .unset] [])) := (c2.trans (st3 _ (Steps.refl _))).trans (by
    refine XS.iloadN X3.here hexec rfl (hb hbytes d4) rfl ?_
    refine XS.ifYes X3.here hexec rfl (pc0 := 5) rfl (hb hbytes d5) rfl (i0_ne_t (nz32 (by omega) l0)) (by decide) rfl ?_
    exact Steps.refl _)
  obtain ⟨T5, X5, q5, st5⟩ := X3.sget hexec hown (wk W (.fieldLink "java/lang/String" 38 "java/lang/String" "COMPACT_STRINGS" "Z")) s1 (fun _ _ h => by rw [hh3]; exact h) (g := (mkF m 27 #[.val (.ref a), .val (.ref b), .val (.int (Int32.ofNat o)), .val (.int (Int32.ofNat len)), .val .null, .unset] [])) rfl (hb hbytes d27)
  have hh5 := q5.trans hh3
  have c6 : Steps p.tables e below (s₁.setTop (entryFrame m #[.ref a, .ref b, .int (Int32.ofNat o), .int (Int32.ofNat len), .null] 6)) (T5.setTop (mkF m 30 #[.val (.ref a), .val (.ref b), .val (.int (Int32.ofNat o)), .val (.int (Int32.ofNat len)), .val .null, .unset] [.int z])) := c4.trans (st5 _ (Steps.refl _))
  have c7 : Steps p.tables e below (s₁.setTop (entryFrame m #[.ref a, .ref b, .int (Int32.ofNat o), .int (Int32.ofNat len), .null] 6)) (T5.setTop (mkF m 36 #[.val (.ref a), .val (.ref b), .val (.int (Int32.ofNat o)), .val (.int (Int32.ofNat len)), .val .null, .unset] [.int (Int32.ofNat len), .int (Int32.ofNat o), .ref b])) := c6.trans (by
    refine XS.ifNo X5.here hexec rfl (hb hbytes d30) rfl (i0_eq_f hz) ?_
    refine XS.aloadN X5.here hexec rfl (hb hbytes d33) rfl rfl ?_
    refine XS.iloadN X5.here hexec rfl (hb hbytes d34) rfl ?_
    refine XS.iloadN X5.here hexec rfl (hb hbytes d35) rfl ?_
    exact Steps.refl _)
  obtain ⟨v8, T8, X8, E8, g8⟩ := X5.callS hexec (Cmp3.law l b A o len) hown (wks W (staticW "java/lang/String" 177 Cmp3.yN)) (wk W Cmp3.tab) (W := 0) (Nat.le_of_ble_eq_true rfl) (Nat.le_of_ble_eq_true rfl) (Nat.le_refl _) (by show 0 + len ≤ len; omega) (g := (mkF m 36 #[.val (.ref a), .val (.ref b), .val (.int (Int32.ofNat o)), .val (.int (Int32.ofNat len)), .val .null, .unset] [.int (Int32.ofNat len), .int (Int32.ofNat o), .ref b])) rfl (by rw [hml]; rfl) c7 (argsL := [.ref b, .int (Int32.ofNat o), .int (Int32.ofNat len)]) (rest := []) rfl rfl (by show 2 * 0 + 0 ≤ _; decide) (hb hbytes d36) (⟨rfl, hA.mv X5.warmed.alike hh5, l1, l2, hp⟩)
  obtain ⟨e8, z8⟩ := E8
  obtain ⟨rfl, N, n1, n2, n3, n4, n5, n6⟩ := NewArr.mv _ T5 s _ _ hh5.symm (Vm.Alike.refl _) rfl e8
  rw [hh5] at z8
  have hB1 := hB.keep X8.warmed.alike (n6 _ _ hB.1)
  have hne : s.heap.size ≠ a := (Nat.ne_of_lt (Array.getElem?_eq_some_iff.mp hB.1).1).symm
  have c9 : Steps p.tables e below (s₁.setTop (entryFrame m #[.ref a, .ref b, .int (Int32.ofNat o), .int (Int32.ofNat len), .null] 6)) (T8.setTop (mkF m 39 #[.val (.ref a), .val (.ref b), .val (.int (Int32.ofNat o)), .val (.int (Int32.ofNat len)), .val .null, .unset] [.ref s.heap.size])) := g8
  have c10 : Steps p.tables e below (s₁.setTop (entryFrame m #[.ref a, .ref b, .int (Int32.ofNat o), .int (Int32.ofNat len), .null] 6)) (T8.setTop (mkF m 45 #[.val (.ref a), .val (.ref b), .val (.int (Int32.ofNat o)), .val (.int (Int32.ofNat len)), .val .null, .val (.ref s.heap.size)] [.int (Int32.ofNat N.slots.size), .ref s.heap.size, .ref a])) := by
    have hc : Steps p.tables e below (s₁.setTop (entryFrame m #[.ref a, .ref b, .int (Int32.ofNat o), .int (Int32.ofNat len), .null] 6)) (T8.setTop (mkF m 45 #[.val (.ref a), .val (.ref b), .val (.int (Int32.ofNat o)), .val (.int (Int32.ofNat len)), .val .null, .val (.ref s.heap.size)] [.int (Int32.ofNat len), .ref s.heap.size, .ref a])) := c9.trans (by
      refine XS.astore X8.here hexec rfl (hb hbytes d39) rfl rfl rfl ?_
      refine XS.aloadN X8.here hexec rfl (hb hbytes d41) rfl rfl ?_
      refine XS.aload X8.here hexec rfl (hb hbytes d42) rfl rfl ?_
      refine XS.iloadN X8.here hexec rfl (hb hbytes d44) rfl ?_
      exact Steps.refl _)
    rw [n4]; exact hc
  obtain ⟨v11, T11, X11, E11, g11⟩ := X8.callS hexec (CodL.law l s.heap.size N) hown (wks W (staticW "java/lang/String" 47 CodL.yN)) (wk W CodL.tab) (W := 1) (Nat.le_of_ble_eq_true rfl) (Nat.le_of_ble_eq_true rfl) (Nat.le_refl _) (by show 0 + len + 0 ≤ len; omega) (g := (mkF m 45 #[.val (.ref a), .val (.ref b), .val (.int (Int32.ofNat o)), .val (.int (Int32.ofNat len)), .val .null, .val (.ref s.heap.size)] [.int (Int32.ofNat N.slots.size), .ref s.heap.size, .ref a])) rfl (by rw [hml]; rfl) c10 (argsL := [.ref s.heap.size, .int (Int32.ofNat N.slots.size)]) (rest := [.ref a]) rfl rfl (by show 2 * 0 + (1 + 0) ≤ _; decide) (hb hbytes d45) (⟨rfl, n1⟩)
  obtain ⟨rfl, q11⟩ := E11
  have hB11 := hB1.mv (X8.warmed.alike.symm.trans X11.warmed.alike) q11
  have c12 : Steps p.tables e below (s₁.setTop (entryFrame m #[.ref a, .ref b, .int (Int32.ofNat o), .int (Int32.ofNat len), .null] 6)) (T11.setTop (mkF m 48 #[.val (.ref a), .val (.ref b), .val (.int (Int32.ofNat o)), .val (.int (Int32.ofNat len)), .val .null, .val (.ref s.heap.size)] [.int 0, .ref a])) := g11
  obtain ⟨T13, X13, p13, bl13, sl13, st13⟩ := X11.finit hexec hown (wk W (.fieldLink "java/lang/String" 15 "java/lang/String" "coder" "B")) (Or.inr ⟨_, (wk W (.laysFinal "java/lang/String" "java/lang/String" "coder" "B"))⟩) (Or.inl ⟨rfl, hnm⟩) f2 (Or.inl rfl) hB11 (t := .byte) (by decide +kernel) rfl (g := (mkF m 48 #[.val (.ref a), .val (.ref b), .val (.int (Int32.ofNat o)), .val (.int (Int32.ofNat len)), .val .null, .val (.ref s.heap.size)] [.int 0, .ref a])) rfl (rest := []) rfl (hb hbytes d48)
  have c14 : Steps p.tables e below (s₁.setTop (entryFrame m #[.ref a, .ref b, .int (Int32.ofNat o), .int (Int32.ofNat len), .null] 6)) (T13.setTop (mkF m 54 #[.val (.ref a), .val (.ref b), .val (.int (Int32.ofNat o)), .val (.int (Int32.ofNat len)), .val .null, .val (.ref s.heap.size)] [.ref s.heap.size, .ref a])) := (c12.trans (st13 _ (Steps.refl _))).trans (by
    refine XS.aloadN X13.here hexec rfl (hb hbytes d51) rfl rfl ?_
    refine XS.aload X13.here hexec rfl (hb hbytes d52) rfl rfl ?_
    exact Steps.refl _)
  obtain ⟨T15, X15, p15, bl15, sl15, st15⟩ := X13.finit hexec hown (wk W (.fieldLink "java/lang/String" 9 "java/lang/String" "value" "[B")) (Or.inr ⟨_, (wk W (.laysFinal "java/lang/String" "java/lang/String" "value" "[B"))⟩) (Or.inl ⟨rfl, hnm⟩) f1 (Or.inl rfl) bl13 (t := (.array .byte)) (by decide +kernel) rfl (g := (mkF m 54 #[.val (.ref a), .val (.ref b), .val (.int (Int32.ofNat o)), .val (.int (Int32.ofNat len)), .val .null, .val (.ref s.heap.size)] [.ref s.heap.size, .ref a])) rfl (rest := []) rfl (hb hbytes d54)
  have c16 : Steps p.tables e below (s₁.setTop (entryFrame m #[.ref a, .ref b, .int (Int32.ofNat o), .int (Int32.ofNat len), .null] 6)) (T15.setTop (mkF m 57 #[.val (.ref a), .val (.ref b), .val (.int (Int32.ofNat o)), .val (.int (Int32.ofNat len)), .val .null, .val (.ref s.heap.size)] [])) := c14.trans (st15 _ (Steps.refl _))
  have ap := apart (Or.inr ⟨_, (wk W (.laysFinal "java/lang/String" "java/lang/String" "value" "[B"))⟩) (Or.inr ⟨_, (wk W (.laysFinal "java/lang/String" "java/lang/String" "coder" "B"))⟩) f1 f2 (t₁ := .array .byte) (t₂ := .byte) (by decide +kernel) (by decide +kernel) (by decide)
  have al := X8.warmed.alike.symm.trans X15.warmed.alike
  have n7 : T11.heap[s.heap.size]? = some N := by rw [q11]; exact n1.1
  exact ⟨T15, none, _, _, _, X15, by simp, rfl, by omega, (fun _ => rfl), ⟨rfl, _, N, bl15, ((Same.refl D _).set _ (by simp)).set _ (by simp), sl15, (Cell.slots_setSlot_ne _ ap).trans sl13, n1.keep al (p15.other hne (p13.other hne n7)), n2, by rw [al.findClass]; exact n3, n4, n5, fun y c h1 h2 => p15.other h1 (p13.other h1 (by rw [q11]; exact n6 y c h2)), by rw [p15.2.2, p13.2.2, q11]; exact z8⟩, fun fs hl => c16.trans (X15.returnOut hexec hret (hb hbytes d57) hl)⟩
end New4
namespace New1
def yN : MethodName := ⟨"java/lang/String", "<init>", "([C)V"⟩
abbrev yB : ByteArray := jdk_42_method_3_code
theorem d0 : decode yB 0 = .ok (.aload_n 0, 1) := by decide +kernel
theorem d1 : decode yB 1 = .ok (.aload_n 1, 1) := by decide +kernel
theorem d2 : decode yB 2 = .ok (.iconst 0, 1) := by decide +kernel
theorem d3 : decode yB 3 = .ok (.aload_n 1, 1) := by decide +kernel
theorem d4 : decode yB 4 = .ok (.arraylength, 1) := by decide +kernel
theorem d5 : decode yB 5 = .ok (.aconst_null, 1) := by decide +kernel
theorem d6 : decode yB 6 = .ok (.invokespecial 27, 3) := by decide +kernel
theorem d9 : decode yB 9 = .ok (.return_, 1) := by decide +kernel
def site : List Cond := [New4.tab] ++ initW "java/lang/String" 27 New4.yN
def tab : Cond := tabOf yN yB 2 none site
def P (a : Addr) (D : Cell) (fV fC : Field) (b : Addr) (A : Cell) (z : Int32) (args : Array Value) (s : State) : Prop := args = #[.ref a, .ref b] ∧ Blank "java/lang/String" a D s ∧ Found "java/lang/String" "value" "[B" fV s ∧ Found "java/lang/String" "coder" "B" fC s ∧ Ch b A s ∧ StaticIs s "java/lang/String" "COMPACT_STRINGS" "Z" (.int z) ∧ ¬ z = 0 ∧ 0 < A.slots.size ∧ A.slots.size ≤ 536870912 ∧ ∀ i, i < A.slots.size → ¬ 255 < cv A i
def E (a : Addr) (D : Cell) (fV fC : Field) (A : Cell) (r : Option Value) (s u : State) : Prop := Got a D fV fC A 0 A.slots.size r s u
/-- new String(chars), not empty, no char above 255: a Latin-1 String of their low bytes -/
theorem law (l : Launch) (a : Addr) (D : Cell) (fV fC : Field) (b : Addr) (A : Cell) (z : Int32) : Law l yN 2 1 3 52 yB 2 none site (P a D fV fC b A z) (E a D fV fC A) [⟨a, fC.slot⟩, ⟨a, fV.slot⟩] 1 A.slots.size := by
  refine Law.of_walk (plainFor_of_name (by decide +kernel)) (by decide +kernel) (by decide +kernel) (by decide) (fun _ _ h => by rw [h.1]; rfl) (fun _ U U' hal hh h => ⟨h.1, h.2.1.mv hal hh, h.2.2.1.al hal, h.2.2.2.1.al hal, h.2.2.2.2.1.mv hal hh, h.2.2.2.2.2.1.there hal hh, h.2.2.2.2.2.2⟩) (fun r U U' V V' h1 hal h2 h => Got.mv r U U' V V' h1 hal h2 h) ?_
  intro p e s m args below meth c s₁ X0 hexec hbytes hml hret hlk hnm hown hh0 W hP
  obtain ⟨rfl, hB, f1, f2, hA, s1, hz, l0, l2, hp⟩ := hP
  have c1 : Steps p.tables e below (s₁.setTop (entryFrame m #[.ref a, .ref b] 2)) (s₁.setTop (mkF m 0 #[.val (.ref a), .val (.ref b)] [])) := entry rfl
  have c2 : Steps p.tables e below (s₁.setTop (entryFrame m #[.ref a, .ref b] 2)) (s₁.setTop (mkF m 6 #[.val (.ref a), .val (.ref b)] [.null, .int (Int32.ofNat A.slots.size), .int 0, .ref b, .ref a])) := c1.trans (by
    refine XS.aloadN X0.here hexec rfl (hb hbytes d0) rfl rfl ?_
    refine XS.aloadN X0.here hexec rfl (hb hbytes d1) rfl rfl ?_
    refine iconstV X0.here hexec rfl 0 (hb hbytes d2) (by decide) ?_
    refine XS.aloadN X0.here hexec rfl (hb hbytes d3) rfl rfl ?_
    refine X0.alen hexec (hA.1.mv X0.warmed.alike hh0) rfl rfl (hb hbytes d4) ?_
    refine XS.aconstNull X0.here hexec rfl (hb hbytes d5) ?_
    exact Steps.refl _)
  obtain ⟨v3, T3, X3, E3, g3⟩ := X0.callN hexec (New4.law l a D fV fC b A z 0 A.slots.size) rfl hown (wks W (initW "java/lang/String" 27 New4.yN)) (W New4.tab (by simp only [site, List.mem_cons, List.mem_append, true_or, or_true])) (W := 0) (Nat.le_of_ble_eq_true rfl) (Nat.le_of_ble_eq_true rfl) (Nat.le_refl _) (by show 0 + A.slots.size ≤ A.slots.size; omega) (g := (mkF m 6 #[.val (.ref a), .val (.ref b)] [.null, .int (Int32.ofNat A.slots.size), .int (Int32.ofNat 0), .ref b, .ref a])) rfl (by rw [hml]; rfl) c2 (argsL := [.ref b, .int (Int32.ofNat 0), .int (Int32.ofNat A.slots.size), .null]) (rest := []) rfl rfl (by show 2 * 0 + 0 ≤ _; decide) (hb hbytes d6) (⟨rfl, hB.mv X0.warmed.alike hh0, f1.al X0.warmed.alike, f2.al X0.warmed.alike, hA.mv X0.warmed.alike hh0, s1.there X0.warmed.alike hh0, hz, l0, by omega, l2, fun i hi => by rw [Nat.zero_add]; exact hp i hi⟩)
  have e0 := Got.mv _ s₁ s _ _ hh0.symm (Vm.Alike.refl _) rfl E3
  obtain rfl := e0.1
  have c4 : Steps p.tables e below (s₁.setTop (entryFrame m #[.ref a, .ref b] 2)) (T3.setTop (mkF m 9 #[.val (.ref a), .val (.ref b)] [])) := g3
  exact ⟨T3, none, _, _, _, X3, by simp, rfl, by omega, (fun _ => rfl), e0, fun fs hl => c4.trans (X3.returnOut hexec hret (hb hbytes d9) hl)⟩
theorem pays {l : Launch} {R : Room} {p : Program} {e : Env} {below : List Frame} {s : State} {sargs : Array Value} {len W : Nat} (a : Addr) (D : Cell) (fV fC : Field) (b : Addr) (A : Cell) (z : Int32) (htab : tab.before sargs s = true) (hfr : 4 ≤ R.frames) (hlo : W + 65 ≤ R.locals) :
    Back l R p e below s sargs yN len W (fun A₁ a₁ => A₁.cells + 1 ≤ R.cells ∧ A₁.slots + A.slots.size ≤ R.slots ∧ P a D fV fC b A z a₁ A₁.U) (fun A₁ _ v₁ B₁ => E a D fV fC A v₁ A₁.U B₁.U ∧ B₁.locs = A₁.locs ++ [⟨a, fC.slot⟩, ⟨a, fV.slot⟩] ∧ B₁.cells = A₁.cells + 1 ∧ B₁.slots = A₁.slots + A.slots.size) :=
  (law l a D fV fC b A z).pays htab hfr (by omega)
end New1
/-- the byte, read back as charAt reads it, is the char -/
theorem lo8_mask {x : Int32} (h0 : ¬ x < 0) (h1 : ¬ 255 < x) : lo8 x &&& 255 = x := by
  have t : ∀ k : Fin 256, lo8 (Int32.ofNat k.val) &&& 255 = Int32.ofNat k.val := by decide +kernel
  rw [Int32.lt_iff_toInt_lt] at h0 h1
  have e0 : (0 : Int32).toInt = 0 := rfl
  have e1 : (255 : Int32).toInt = 255 := rfl
  obtain ⟨k, hk⟩ : ∃ k : Nat, x.toInt = k := ⟨x.toInt.toNat, by omega⟩
  have hx : x = Int32.ofNat k := Int32.toInt_inj.mp (by rw [hk, Int32.toInt_ofNat_small (by omega)])
  rw [hx]
  exact t ⟨k, by omega⟩
end StrChars
namespace StrChars.Road
open Jvm Sem ClassFile Op Lib Jvm.Stand Jvm.Free Jvm.Free.XT
open Jvm.Lib.Cold (StaticIs)
abbrev ST : String := "java/lang/String"
/-- every table word that New1's law asks, flat -/
abbrev words : List Jvm.Cond := [.code New1.yN New1.yB 2 none, .initialized ST, .methodLink ST 27 New4.yN, .instanceMethod New4.yN,
  .code New4.yN New4.yB 6 none, .fieldLink ST 38 ST "COMPACT_STRINGS" "Z", .laysFinal ST ST "value" "[B", .fieldLink ST 9 ST "value" "[B", .laysFinal ST ST "coder" "B", .fieldLink ST 15 ST "coder" "B",
  .methodLink ST 1 Lib.objectInit, .instanceMethod Lib.objectInit, .code Lib.objectInit ⟨#[0xb1]⟩ 1 none, .methodLink ST 177 Cmp3.yN, .static Cmp3.yN, .methodLink ST 47 CodL.yN, .static CodL.yN,
  .code Cmp3.yN Cmp3.yB 6 (some (.array .byte)), .initialized U16, .arrayClass .byte, .methodLink U16 115 Cmp5.yN, .static Cmp5.yN, .code Cmp5.yN Cmp5.yB 7 (some .int), .code CodL.yN CodL.yB 2 (some .byte)]
theorem tab_of {a : Array Value} {s : State} (h : ∀ w ∈ words, w.before a s = true) : New1.tab.before a s = true := by
  have h5 : Cmp5.tab.before a s = true := unparts (wk h (.code Cmp5.yN Cmp5.yB 7 (some .int))) (wks h (.initialized Cmp5.yN.cls :: Cmp5.site))
  have hc : CodL.tab.before a s = true := unparts (wk h (.code CodL.yN CodL.yB 2 (some .byte))) (wks h (.initialized CodL.yN.cls :: CodL.site))
  have q5 : ∀ w ∈ Cmp5.tab :: words, w.before a s = true := fun w hw => (List.mem_cons.mp hw).elim (fun e => e ▸ h5) (h w)
  have h3 : Cmp3.tab.before a s = true := unparts (wk q5 (.code Cmp3.yN Cmp3.yB 6 (some (.array .byte)))) (wks q5 (.initialized Cmp3.yN.cls :: Cmp3.site))
  have q3 : ∀ w ∈ Cmp3.tab :: CodL.tab :: words, w.before a s = true := fun w hw => (List.mem_cons.mp hw).elim (fun e => e ▸ h3) fun hw => (List.mem_cons.mp hw).elim (fun e => e ▸ hc) (h w)
  have h4 : New4.tab.before a s = true := unparts (wk q3 (.code New4.yN New4.yB 6 none)) (wks q3 (.initialized New4.yN.cls :: New4.site))
  have q4 : ∀ w ∈ New4.tab :: words, w.before a s = true := fun w hw => (List.mem_cons.mp hw).elim (fun e => e ▸ h4) (h w)
  exact unparts (wk q4 (.code New1.yN New1.yB 2 none)) (wks q4 (.initialized New1.yN.cls :: New1.site))
/-- the words ride from the start Z to the walk's own state -/
theorem moved {Z s : State} {a0 args : Array Value} (hZ : Z.Warmed39 s.vm) (hw : ∀ d ∈ words, d.before a0 Z = true) : ∀ d ∈ words, d.before args s = true := fun d hd => by
  have q := hw d hd
  have t : ∀ d ∈ words, d = .arrayClass .byte ∨ (d.onTables && d.keepsFace) = true := by decide +kernel
  rcases t d hd with rfl | t
  · exact RoadKit.mvA hZ q
  · exact RoadKit.mv hZ q t
/-- WHAT COMES BACK, over the tables of the start Z: h the heap at the call, h' behind it -/
def Q (Z : State) (x : Addr) (A : Cell) (h : Heap) (v : Option Value) (h' : Heap) (L : List Loc) : Prop := v = none ∧ (∀ y ∈ L, y.base = x) ∧ RoadKit.Keep h h' [x] ∧ h'.size = h.size + 1 ∧ RoadKit.Exa Z h' x ST ∧ RoadKit.Fld Z h' x ST "value" "[B" (.ref h.size) ∧ RoadKit.Fld Z h' x ST "coder" "B" (.int 0) ∧
  (∃ V : Cell, RoadKit.Arr Z h' h.size V .byte ∧ V.vm = .none ∧ Z.vm.findClass "[B" = some V.cls ∧ V.slots.size = A.slots.size ∧ ∀ j, j < A.slots.size → V.slots[j]? = some (.int (lo8 (cv A j)))) ∧
  ∀ (O n d : String) (w : Value), RoadKit.Fld Z h x O n d w → RoadKit.slotOf Z O n d ≠ RoadKit.slotOf Z ST "value" "[B" → RoadKit.slotOf Z O n d ≠ RoadKit.slotOf Z ST "coder" "B" → RoadKit.Fld Z h' x O n d w
/-- **new String(chars) AT A CALL, IN THE ROAD'S FORM**: for specialBack behind newO: x the fresh String, b the char[] with the cell A -/
theorem back {p : Program} {l : Launch} {e : Env} {R : Room} {s : State} {args : Array Value} {below : List Frame} {len W : Nat} {Z : State} {a0 : Array Value} {h : Heap} (hZ : Z.Warmed39 s.vm) (hw : ∀ d ∈ words, d.before a0 Z = true) {kI : Nat} (wi : (Jvm.Cond.instantiable ST kI).before a0 Z = true)
    {x b : Addr} {A : Cell} {z : Int32} {v0 c0 : Value} (E : RoadKit.Exa Z h x ST) (V : RoadKit.Fld Z h x ST "value" "[B" v0) (C : RoadKit.Fld Z h x ST "coder" "B" c0) (K : RoadKit.Arr Z h b A .char) (hty : Typed .char A) (S : RoadKit.Sta Z h ST "COMPACT_STRINGS" "Z" (.int z)) (hz : ¬ z = 0)
    (l0 : 0 < A.slots.size) (l2 : A.slots.size ≤ 536870912) (hp : ∀ i, i < A.slots.size → ¬ 255 < cv A i) (hfr : 4 ≤ R.frames) (hlo : W + 65 ≤ R.locals) :
    Back l R p e below s args New1.yN len W (fun P a => a = #[.ref x, .ref b] ∧ P.U.heap = h ∧ P.cells + 1 ≤ R.cells ∧ P.slots + A.slots.size ≤ R.slots)
      (fun P _ v B => ∃ L, Q Z x A h v B.U.heap L ∧ B.locs = P.locs ++ L ∧ B.cells = P.cells + 1 ∧ B.slots = P.slots + A.slots.size) := by
  intro m meth c P g ig mk a X hg hsize hdg hW hn hp'
  obtain ⟨rfl, rfl, r1, r2⟩ := hp'
  have al : Z.vm.Alike P.U.vm := hZ.alike.trans X.warmed.alike
  obtain ⟨D, cfV, kV, iV, fV, hD, gV, stV, knV, obV, asV, slV⟩ := id V
  obtain ⟨D', cfC, kC, iC, fC, hD', gC, stC, -, -, asC, slC⟩ := id C
  cases hD.symm.trans hD'
  obtain ⟨D2, kD, e1, e2, e3, e4, e5⟩ := id E
  cases hD.symm.trans e1
  obtain ⟨c2, k2, i1, i2, i3, -⟩ := Cond.instantiable_spec wi
  cases e2.symm.trans i1
  cases e3.symm.trans i2
  obtain ⟨kU, u1, u2⟩ := al.2.2 _ _ e3
  have hB : Blank ST x D P.U := ⟨hD, ⟨knV, fun q hq => by rw [hq] at obV; cases obV⟩, by rw [al.findClass]; exact e2, kU, u1, by rw [u2]; exact i3, by rw [u2]; exact e5 i3⟩
  have F1 : Found ST "value" "[B" fV P.U := ⟨SBG.found_only al ⟨cfV, kV, iV, gV⟩, stV⟩
  have F2 : Found ST "coder" "B" fC P.U := ⟨SBG.found_only al ⟨cfC, kC, iC, gC⟩, stC⟩
  have hA : Ch b A P.U := ⟨⟨K.1, State.isArrayOf_alike al K.2.1, K.2.2, by omega⟩, hty⟩
  have hS : StaticIs P.U ST "COMPACT_STRINGS" "Z" (.int z) := by
    obtain ⟨cfS, iS, kS, fS, st, cS, t1, t2, t3, t4, t5, t6, t7⟩ := S
    exact StaticIs.there (s := { Z with heap := P.U.heap }) ⟨cfS, iS, kS, fS, st, cS, t1, t2, t3, t4, t5, (fun q => by rw [q] at t6; cases t6), t7⟩ al rfl
  obtain ⟨v, B, X', ⟨⟨hv, E', V', q1, q2, q3, q4, q5, q6, q7, q8, q9, q10, q11⟩, hl, hc, hs⟩, st⟩ := New1.pays x D fV fC b A z (tab_of (moved hZ hw)) hfr hlo m meth c P g ig mk _ X hg hsize hdg hW hn ⟨r1, r2, rfl, hB, F1, F2, hA, hS, hz, l0, l2, hp⟩
  have al' : Z.vm.Alike B.U.vm := hZ.alike.trans X'.warmed.alike
  have hsz : E'.slots.size = D.slots.size := by
    obtain ⟨-, -, -, kB, w1, w2, w3⟩ := q1
    obtain ⟨kB', y1, y2⟩ := al'.2.2 _ _ e3
    rw [q2.2.1] at w1
    cases w1.symm.trans y1
    rw [w3, e5 i3, y2]
  refine ⟨v, B, X', ⟨_, ⟨hv, ?_, ⟨by omega, fun y cy hy hn' => q10 y cy (by simpa using hn') hy, fun y cy hy => ?_⟩, q11, ⟨E', _, q1.1, by rw [q2.2.1]; exact e2, by rw [q2.2.1]; exact e3, by rw [q2.1]; exact obV, fun _ => by rw [hsz]; exact e5 i3⟩,
    ⟨E', cfV, kV, iV, fV, q1.1, gV, stV, by rw [q2.1]; exact knV, by rw [q2.1]; exact obV, by rw [q2.2.1]; exact asV, q3⟩, ⟨E', cfC, kC, iC, fC, q1.1, gC, stC, by rw [q2.1]; exact knV, by rw [q2.1]; exact obV, by rw [q2.2.1]; exact asC, q4⟩,
    ⟨V', ⟨q5.1, State.isArrayOf_alike al'.symm q5.2.1, q5.2.2.1⟩, q6, by rw [← al'.findClass]; exact q7, q8, fun j hj => by have := q9 j hj; rwa [Nat.zero_add] at this⟩, fun O n d w F n1 n2 => ?_⟩, hl, hc, hs⟩, st⟩
  · intro y hy
    simp only [List.mem_cons, List.not_mem_nil, or_false] at hy
    rcases hy with rfl | rfl <;> rfl
  · by_cases q : y = x
    · subst q
      cases hD.symm.trans hy
      exact ⟨E', q1.1, q2.2.1, q2.1, hsz⟩
    · exact ⟨cy, q10 y cy q hy, rfl, rfl, rfl⟩
  · obtain ⟨D3, cf, k, i, f, g1, g2, g3, g4, g5, g6, g7⟩ := F
    cases hD.symm.trans g1
    simp only [RoadKit.slotOf, g2, gV, gC, Option.map_some, Option.getD_some] at n1 n2
    exact ⟨E', cf, k, i, f, q1.1, g2, g3, by rw [q2.1]; exact g4, by rw [q2.1]; exact g5, by rw [q2.2.1]; exact g6, by rw [q2.2.2 f.slot (by simp [n1, n2])]; exact g7⟩
end StrChars.Road
namespace StrChars.Road
open Jvm Sem ClassFile Op Lib Jvm.Stand Jvm.Free Jvm.Free.XT
/-- WHAT COMES BACK, the byte[] as a list of values -/
def QA (Z : State) (x : Addr) (zn : Int32) (cs : List Int32) (h : Heap) (v : Option Value) (h' : Heap) (L : List Loc) : Prop := v = none ∧ (∀ y ∈ L, y.base = x) ∧ RoadKit.Keep h h' [x] ∧ h'.size = h.size + 1 ∧ RoadKit.Exa Z h' x ST ∧ RoadKit.Fld Z h' x ST "value" "[B" (.ref h.size) ∧ RoadKit.Fld Z h' x ST "coder" "B" (.int 0) ∧
  (∃ kb, Z.vm.findClass "[B" = some kb ∧ RoadKit.Arv Z h' h.size kb .byte zn (cs.map fun c => .int (lo8 c)) (.int 0)) ∧
  ∀ (O n d : String) (w : Value), RoadKit.Fld Z h x O n d w → RoadKit.slotOf Z O n d ≠ RoadKit.slotOf Z ST "value" "[B" → RoadKit.slotOf Z O n d ≠ RoadKit.slotOf Z ST "coder" "B" → RoadKit.Fld Z h' x O n d w
/-- **new String(chars) AT A CALL, THE ARRAYS AS LISTS**: the char[] at b holds cs, not empty, no char above 255 -/
theorem backArv {p : Program} {l : Launch} {e : Env} {R : Room} {s : State} {args : Array Value} {below : List Frame} {len W : Nat} {Z : State} {a0 : Array Value} {h : Heap} (hZ : Z.Warmed39 s.vm) (hw : ∀ d ∈ words, d.before a0 Z = true) {kI : Nat} (wi : (Jvm.Cond.instantiable ST kI).before a0 Z = true)
    {x b : Addr} {k : ClassId} {zn z : Int32} {cs : List Int32} {dv v0 c0 : Value} (E : RoadKit.Exa Z h x ST) (V : RoadKit.Fld Z h x ST "value" "[B" v0) (C : RoadKit.Fld Z h x ST "coder" "B" c0) (K : RoadKit.Arv Z h b k .char zn (cs.map Value.int) dv) (S : RoadKit.Sta Z h ST "COMPACT_STRINGS" "Z" (.int z)) (hz : ¬ z = 0)
    (hlen : zn.toNatClampNeg = cs.length) (h0 : 0 < cs.length) (hbig : cs.length ≤ 536870912) (hall : ∀ c ∈ cs, ¬ 255 < c) (hfr : 4 ≤ R.frames) (hlo : W + 65 ≤ R.locals) :
    Back l R p e below s args New1.yN len W (fun P a => a = #[.ref x, .ref b] ∧ P.U.heap = h ∧ P.cells + 1 ≤ R.cells ∧ P.slots + cs.length ≤ R.slots)
      (fun P _ v B => ∃ L, QA Z x zn cs h v B.U.heap L ∧ B.locs = P.locs ++ L ∧ B.cells = P.cells + 1 ∧ B.slots = P.slots + cs.length) := by
  obtain ⟨A, K1, K2, K3, K4, K5, K6⟩ := K
  have e : A.slots.size = cs.length := K3.trans hlen
  have hat : ∀ (i : Nat) (hi : i < cs.length), A.slots[i]? = some (.int cs[i]) := fun i hi => by rw [K5 i (by omega)]; simp [List.getD_eq_getElem?_getD, hi]
  have hcv : ∀ (i : Nat) (hi : i < cs.length), cv A i = cs[i] := fun i hi => by unfold cv; rw [hat i hi]
  have hty : Typed .char A := fun i v hv => by
    have hi : i < A.slots.size := (Array.getElem?_eq_some_iff.mp hv).1
    have q := K5 i hi
    rw [hv] at q
    rw [Option.some.inj q]
    exact K6 i hi
  refine Back.mono (back hZ hw wi E V C K1 hty S hz (by omega) (by omega) (fun i hi => by rw [hcv i (by omega)]; exact hall _ (List.getElem_mem _)) hfr hlo) (fun P a hp => ⟨hp.1, hp.2.1, hp.2.2.1, by rw [e]; exact hp.2.2.2⟩) (fun P a v B hp hq => ?_)
  obtain ⟨L, ⟨q1, q2, q3, q4, q5, q6, q7, ⟨V', v1, v2, v3, v4, v5⟩, q9⟩, hl, hc, hs⟩ := hq
  refine ⟨L, ⟨q1, q2, q3, q4, q5, q6, q7, ⟨V'.cls, v3, V', v1, rfl, by rw [v4, e, hlen], K4, fun i hi => ?_, fun i hi => ?_⟩, q9⟩, hl, hc, by rw [hs, e]⟩
  · have hi' : i < cs.length := by omega
    rw [v5 i (by omega), hcv i hi']; simp [List.getD_eq_getElem?_getD, hi']
  · have hi' : i < cs.length := by omega
    simp only [List.getD_eq_getElem?_getD, List.getElem?_map, List.getElem?_eq_getElem hi', Option.map_some, Option.getD_some]
    exact fits_lo8 _
end StrChars.Road
namespace StrChars.Road
open Jvm Sem ClassFile Op Lib Jvm.Stand Jvm.Free Jvm.Free.XT
/-- WHAT COMES BACK, in the writer's own shape -/
def QV (Z : State) (x : Addr) (N : Int32) (bs : List Int32) (h : Heap) (n0 : Nat) (v : Option Value) (h' : Heap) (L : List Loc) : Prop := v = none ∧ RoadKit.Fr n0 L ∧ RoadKit.Keep h h' [x] ∧ RoadKit.Exa Z h' x ST ∧ RoadKit.Fld Z h' x ST "coder" "B" (.int 0) ∧
  ∃ (t : Addr) (kb : ClassId), n0 ≤ t ∧ h.size ≤ t ∧ ¬ t = x ∧ RoadKit.Fld Z h' x ST "value" "[B" (.ref t) ∧ RoadKit.Arv Z h' t kb .byte N (bs.map Value.int) (.int 0)
/-- **new String(chars) AT A CALL, FOR THE WRITER**: a char[] of n known ints, each 0 to 255 -/
theorem backV {p : Program} {l : Launch} {e : Env} {R : Room} {s : State} {args : Array Value} {below : List Frame} {len W : Nat} {Z : State} {a0 : Array Value} {h : Heap} (hZ : Z.Warmed39 s.vm) (hw : ∀ d ∈ words, d.before a0 Z = true) {kI : Nat} (wi : (Jvm.Cond.instantiable ST kI).before a0 Z = true)
    {x b : Addr} {kC : ClassId} {cs bs : List Int32} {d v0 c0 : Value} {z N : Int32} {n n0 : Nat} (hx0 : n0 ≤ x) (hh0 : n0 ≤ h.size) (E : RoadKit.Exa Z h x ST) (V : RoadKit.Fld Z h x ST "value" "[B" v0) (C : RoadKit.Fld Z h x ST "coder" "B" c0) (K : RoadKit.Arv Z h b kC .char N (cs.map Value.int) d) (S : RoadKit.Sta Z h ST "COMPACT_STRINGS" "Z" (.int z)) (hz : ¬ z = 0)
    (hn : cs.length = n) (hN : N = Int32.ofNat n) (l0 : 0 < n) (l2 : n ≤ 4000) (hp : ∀ c ∈ cs, ¬ c < 0 ∧ ¬ (255 : Int32) < c) (hb : bs = cs.map (fun c => c.toInt8.toInt32)) (hfr : 4 ≤ R.frames) (hlo : W + 65 ≤ R.locals) :
    Back l R p e below s args (⟨"java/lang/String", "<init>", "([C)V"⟩ : MethodName) len W (fun P a => a = #[.ref x, .ref b] ∧ P.U.heap = h ∧ P.cells + 1 ≤ R.cells ∧ P.slots + n ≤ R.slots)
      (fun P _ v B => ∃ L, QV Z x N bs h n0 v B.U.heap L ∧ B.locs = P.locs ++ L ∧ B.cells = P.cells + 1 ∧ B.slots = P.slots + n) := by
  subst hn hN hb
  refine Back.mono (backArv hZ hw wi E V C K S hz (n32 (by omega)) l0 (by omega) (fun c hc => (hp c hc).2) hfr hlo) (fun P a hp => hp) (fun P a v B hp hq => ?_)
  obtain ⟨L, ⟨q1, q2, q3, q4, q5, q6, q7, ⟨kb, v1, v2⟩, q9⟩, hl, hc, hs⟩ := hq
  exact ⟨L, ⟨q1, fun y hy => by rw [q2 y hy]; exact hx0, q3, q5, q7, h.size, kb, hh0, Nat.le_refl _, Nat.ne_of_gt E.lt, q6, by rw [List.map_map]; exact v2⟩, hl, hc, hs⟩
end StrChars.Road
namespace StrChars
open Jvm Sem ClassFile Op Lib Jvm.Stand Jvm.Free.XT Jvm.Free.ALB Jvm.Free.JM Jvm.Free
open Jvm.Lib.Cold (StaticIs)
def hi8 (x : Int32) : Int32 := lo8 (x >>> ((8 : Int32) &&& 31))
/-- what StringUTF16.getChar makes of two bytes -/
def pairCh (u v : Int32) : Int32 := (((u &&& 255) <<< ((0 : Int32) &&& 31)) ||| ((v &&& 255) <<< ((8 : Int32) &&& 31))).toUInt32.toUInt16.toUInt32.toInt32
theorem shr0 (c : Int32) : c >>> ((0 : Int32) &&& 31) = c := by
  have e : ((0 : Int32) &&& 31) = 0 := by decide
  rw [e]
  apply Int32.toBitVec_inj.mp
  rw [Int32.toBitVec_shiftRight]
  have e1 : ((0 : Int32).toBitVec.smod 32) = 0#32 := by decide
  rw [e1, BitVec.sshiftRight_eq']
  exact BitVec.sshiftRight_zero
theorem lo8_and (x : Int32) : (lo8 x &&& 255).toBitVec.toNat = x.toBitVec.toNat % 256 := by
  have h : (lo8 x).toBitVec = (x.toBitVec.signExtend 8).signExtend 32 := by rw [lo8, Int8.toBitVec_toInt32, Int32.toBitVec_toInt8]
  rw [Int32.toBitVec_and, BitVec.toNat_and, h]
  have e : ((x.toBitVec.signExtend 8).signExtend 32).toNat % 256 = x.toBitVec.toNat % 256 := by
    rw [BitVec.toNat_signExtend]
    have hlt := x.toBitVec.isLt
    simp only [BitVec.toNat_setWidth, BitVec.toNat_signExtend]
    split <;> split <;> omega
  rw [← e]
  exact Nat.and_two_pow_sub_one_eq_mod _ 8
theorem pair_says {c : Int32} (h0 : ¬ c < 0) (h1 : ¬ 65535 < c) : pairCh (lo8 c) (hi8 c) = c := by
  rw [Int32.lt_iff_toInt_lt] at h0 h1
  have e0 : (0 : Int32).toInt = 0 := rfl
  have e1 : (65535 : Int32).toInt = 65535 := rfl
  have hc : c.toInt = c.toBitVec.toNat := by
    have := c.toBitVec.isLt
    have e : c.toInt = c.toBitVec.toInt := rfl
    rw [e] at h0 h1
    rw [e]
    rw [BitVec.toInt_eq_toNat_cond] at h0 h1 ⊢
    split at h0 <;> split <;> omega
  have hn : c.toBitVec.toNat < 65536 := by omega
  have a1 := lo8_and c
  have a2 : (hi8 c &&& 255).toBitVec.toNat = c.toBitVec.toNat / 256 := by
    rw [hi8, lo8_and]
    have e : ((8 : Int32) &&& 31) = 8 := by decide
    rw [e, Int32.toBitVec_shiftRight]
    have e2 : ((8 : Int32).toBitVec.smod 32) = 8#32 := by decide
    rw [e2, BitVec.sshiftRight_eq', BitVec.toNat_sshiftRight_of_msb_false (by rw [BitVec.msb_eq_false_iff_two_mul_lt]; omega)]
    show c.toBitVec.toNat >>> 8 % 256 = _
    rw [Nat.shiftRight_eq_div_pow]
    omega
  unfold pairCh
  apply Int32.toBitVec_inj.mp
  apply BitVec.eq_of_toNat_eq
  have f0 : ((0 : Int32) &&& 31) = 0 := by decide
  have f8 : ((8 : Int32) &&& 31) = 8 := by decide
  rw [f0, f8]
  have g : (((lo8 c &&& 255) <<< (0 : Int32)) ||| ((hi8 c &&& 255) <<< (8 : Int32))).toBitVec.toNat = c.toBitVec.toNat := by
    rw [Int32.toBitVec_or, Int32.toBitVec_shiftLeft, Int32.toBitVec_shiftLeft]
    have s0 : ((0 : Int32).toBitVec.smod 32) = 0#32 := by decide
    have s8 : ((8 : Int32).toBitVec.smod 32) = 8#32 := by decide
    rw [s0, s8, BitVec.toNat_or]
    simp only [BitVec.shiftLeft_eq', BitVec.toNat_shiftLeft, a1, a2]
    show (c.toBitVec.toNat % 256) <<< 0 % 2 ^ 32 ||| (c.toBitVec.toNat / 256) <<< 8 % 2 ^ 32 = _
    rw [Nat.shiftLeft_zero, Nat.mod_eq_of_lt (show c.toBitVec.toNat % 256 < 2 ^ 32 by omega), Nat.mod_eq_of_lt (show (c.toBitVec.toNat / 256) <<< 8 < 2 ^ 32 by rw [Nat.shiftLeft_eq]; omega), Nat.or_comm, ← Nat.shiftLeft_add_eq_or_of_lt (by omega), Nat.shiftLeft_eq]
    omega
  show BitVec.toNat (((((lo8 c &&& 255) <<< (0 : Int32)) ||| ((hi8 c &&& 255) <<< (8 : Int32))).toBitVec.setWidth 16).setWidth 32) = _
  rw [BitVec.toNat_setWidth, BitVec.toNat_setWidth, g]
  omega
end StrChars
namespace StrChars
open Jvm Sem ClassFile Op Lib Jvm.Stand Jvm.Free.XT Jvm.Free.ALB Jvm.Free.JM Jvm.Free
open Jvm.Lib.Cold (StaticIs)
theorem shr1 {n : Nat} (h : 2 * n < 2 ^ 31) : Int32.ofNat (2 * n) >>> ((1 : Int32) &&& 31) = Int32.ofNat n := by
  have e : ((1 : Int32) &&& 31) = 1 := by decide
  rw [e]
  apply Int32.toBitVec_inj.mp
  rw [Int32.toBitVec_shiftRight]
  have e1 : ((1 : Int32).toBitVec.smod 32) = 1#32 := by decide
  have hm : (BitVec.ofNat 32 (2 * n)).toNat = 2 * n := by rw [BitVec.toNat_ofNat, Nat.mod_eq_of_lt (by omega)]
  rw [e1, BitVec.sshiftRight_eq']
  apply BitVec.eq_of_toNat_eq
  show ((BitVec.ofNat 32 (2 * n)).sshiftRight 1).toNat = (BitVec.ofNat 32 n).toNat
  rw [BitVec.toNat_sshiftRight_of_msb_false (by rw [BitVec.msb_eq_false_iff_two_mul_lt, hm]; omega), hm, BitVec.toNat_ofNat, Nat.shiftRight_eq_div_pow]
  omega
/-- the array's cell V codes the n chars f 0 .. f (n - 1) by the coder cd, as the JDK does: coder 1 just where some char is above 255 -/
def Cod (cd : Int32) (n : Nat) (f : Nat → Int32) (V : Cell) : Prop := (cd = 0 ∧ V.slots.size = n ∧ ∀ j, j < n → V.slots[j]? = some (.int (lo8 (f j))) ∧ ¬ 255 < f j) ∨ (cd = 1 ∧ V.slots.size = 2 * n ∧ (∀ j, j < n → V.slots[2 * j]? = some (.int (lo8 (f j))) ∧ V.slots[2 * j + 1]? = some (.int (hi8 (f j)))) ∧ ∃ j, j < n ∧ 255 < f j)
theorem Cod.cd {cd : Int32} {n : Nat} {f : Nat → Int32} {V : Cell} (h : Cod cd n f V) : cd = 0 ∨ cd = 1 := h.imp (fun q => q.1) fun q => q.1
theorem Cod.len {cd : Int32} {n : Nat} {f : Nat → Int32} {V : Cell} (h : Cod cd n f V) (hs : V.slots.size < 2 ^ 31) : Int32.ofNat V.slots.size >>> (cd &&& 31) = Int32.ofNat n := by
  rcases h with ⟨rfl, h, -⟩ | ⟨rfl, h, -⟩
  · rw [shr0, h]
  · rw [h, shr1 (by omega)]
/-- **x is a String of the n chars f 0 .. f (n - 1)**, Latin-1 or UTF-16; its array at t has the cell V -/
def Txt (x t : Addr) (V : Cell) (cd : Int32) (n : Nat) (f : Nat → Int32) (U : State) : Prop := Exact "java/lang/String" x U ∧ Has x "java/lang/String" "value" "[B" (.ref t) U ∧ Has x "java/lang/String" "coder" "B" (.int cd) U ∧ XT.Arr .byte t V U ∧ Cod cd n f V ∧ ∀ j, j < n → ¬ f j < 0 ∧ ¬ 65535 < f j
theorem Txt.mv {x t : Addr} {V : Cell} {cd : Int32} {n : Nat} {f : Nat → Int32} {U U' : State} (h : Txt x t V cd n f U) (hal : U.vm.Alike U'.vm) (hh : U'.heap = U.heap) : Txt x t V cd n f U' := ⟨h.1.mv hal hh, h.2.1.mv hal hh, h.2.2.1.mv hal hh, h.2.2.2.1.mv hal hh, h.2.2.2.2⟩
namespace Cdr
def yN : MethodName := ⟨"java/lang/String", "coder", "()B"⟩
abbrev yB : ByteArray := jdk_42_method_152_code
theorem d0 : decode yB 0 = .ok (.getstatic 38, 3) := by decide +kernel
theorem d3 : decode yB 3 = .ok (.ifCond (.eq) 10, 3) := by decide +kernel
theorem d6 : decode yB 6 = .ok (.aload_n 0, 1) := by decide +kernel
theorem d7 : decode yB 7 = .ok (.getfield 15, 3) := by decide +kernel
theorem d10 : decode yB 10 = .ok (.goto 4, 3) := by decide +kernel
theorem d14 : decode yB 14 = .ok (.ireturn, 1) := by decide +kernel
def site : List Cond := [.fieldLink "java/lang/String" 38 "java/lang/String" "COMPACT_STRINGS" "Z", .fieldLink "java/lang/String" 15 "java/lang/String" "coder" "B"]
def tab : Cond := tabOf yN yB 1 (some .byte) site
def P (x : Addr) (cd z : Int32) (args : Array Value) (s : State) : Prop := args = #[.ref x] ∧ Has x "java/lang/String" "coder" "B" (.int cd) s ∧ (cd = 0 ∨ cd = 1) ∧ StaticIs s "java/lang/String" "COMPACT_STRINGS" "Z" (.int z) ∧ ¬ z = 0
def E (cd : Int32) (r : Option Value) (s u : State) : Prop := XT.PureE (some (.int cd)) r s u
theorem law (l : Launch) (x : Addr) (cd z : Int32) : Law l yN 1 0 0 0 yB 1 (some .byte) site (P x cd z) (E cd) [] 0 0 := by
  refine Law.of_walk (plainFor_of_name (by decide +kernel)) (by decide +kernel) (by decide +kernel) (by decide) (fun _ _ h => by rw [h.1]; rfl) (fun _ U U' hal hh h => ⟨h.1, h.2.1.mv hal hh, h.2.2.1, h.2.2.2.1.there hal hh, h.2.2.2.2⟩) (fun r U U' V V' h1 hal h2 h => XT.PureE.mv r U U' V V' h1 hal h2 h) ?_
  intro p e s m args below meth c s₁ X0 hexec hbytes hml hret hlk hnm hown hh0 W hP
  obtain ⟨rfl, hx, hc, s1, hz⟩ := hP
  have c1 : Steps p.tables e below (s₁.setTop (entryFrame m #[.ref x] 1)) (s₁.setTop (mkF m 0 #[.val (.ref x)] [])) := entry rfl
  obtain ⟨T2, X2, q2, st2⟩ := X0.sget hexec hown (wk W (.fieldLink "java/lang/String" 38 "java/lang/String" "COMPACT_STRINGS" "Z")) s1 (fun _ _ h => by rw [hh0]; exact h) (g := (mkF m 0 #[.val (.ref x)] [])) rfl (hb hbytes d0)
  have hh2 := q2.trans hh0
  have c3 : Steps p.tables e below (s₁.setTop (entryFrame m #[.ref x] 1)) (T2.setTop (mkF m 7 #[.val (.ref x)] [.ref x])) := (c1.trans (st2 _ (Steps.refl _))).trans (by
    refine XS.ifNo X2.here hexec rfl (hb hbytes d3) rfl (i0_eq_f hz) ?_
    refine XS.aloadN X2.here hexec rfl (hb hbytes d6) rfl rfl ?_
    exact Steps.refl _)
  obtain ⟨T4, X4, q4, st4⟩ := X2.hget hexec hown (wk W (.fieldLink "java/lang/String" 15 "java/lang/String" "coder" "B")) (hx.mv X2.warmed.alike hh2) (g := (mkF m 7 #[.val (.ref x)] [.ref x])) rfl (rest := []) rfl (hb hbytes d7)
  have c5 : Steps p.tables e below (s₁.setTop (entryFrame m #[.ref x] 1)) (T4.setTop (mkF m 14 #[.val (.ref x)] [.int cd])) := (c3.trans (st4 _ (Steps.refl _))).trans (by
    refine XS.goto X4.here hexec rfl (pc0 := 10) rfl (hb hbytes d10) (by decide) rfl ?_
    exact Steps.refl _)
  exact ⟨T4, some (.int cd), _, _, _, X4, rfl, rfl, rfl, (fun h => by cases h), ⟨rfl, q4.trans hh2⟩, fun fs hl => c5.trans (X4.ireturnOut hexec hret (by rcases hc with rfl | rfl <;> rfl) (Or.inr (Or.inr (Or.inl rfl))) (hb hbytes d14) hl)⟩
end Cdr
namespace Len
def yN : MethodName := ⟨"java/lang/String", "length", "()I"⟩
abbrev yB : ByteArray := jdk_42_method_54_code
theorem d0 : decode yB 0 = .ok (.aload_n 0, 1) := by decide +kernel
theorem d1 : decode yB 1 = .ok (.getfield 9, 3) := by decide +kernel
theorem d4 : decode yB 4 = .ok (.arraylength, 1) := by decide +kernel
theorem d5 : decode yB 5 = .ok (.aload_n 0, 1) := by decide +kernel
theorem d6 : decode yB 6 = .ok (.invokevirtual 335, 3) := by decide +kernel
theorem d9 : decode yB 9 = .ok (.ishr, 1) := by decide +kernel
theorem d10 : decode yB 10 = .ok (.ireturn, 1) := by decide +kernel
def site : List Cond := [.fieldLink "java/lang/String" 9 "java/lang/String" "value" "[B", Cdr.tab] ++ virtW "java/lang/String" 335 "java/lang/String" Cdr.yN Cdr.yN
def tab : Cond := tabOf yN yB 1 (some .int) site
def P (x t : Addr) (V : Cell) (cd : Int32) (n : Nat) (f : Nat → Int32) (z : Int32) (args : Array Value) (s : State) : Prop := args = #[.ref x] ∧ Txt x t V cd n f s ∧ StaticIs s "java/lang/String" "COMPACT_STRINGS" "Z" (.int z) ∧ ¬ z = 0
def E (n : Nat) (r : Option Value) (s u : State) : Prop := XT.PureE (some (.int (Int32.ofNat n))) r s u
/-- length() of a String of n chars, in either coding -/
theorem law (l : Launch) (x t : Addr) (V : Cell) (cd : Int32) (n : Nat) (f : Nat → Int32) (z : Int32) : Law l yN 1 0 1 13 yB 1 (some .int) site (P x t V cd n f z) (E n) [] 0 0 := by
  refine Law.of_walk (plainFor_of_name (by decide +kernel)) (by decide +kernel) (by decide +kernel) (by decide) (fun _ _ h => by rw [h.1]; rfl) (fun _ U U' hal hh h => ⟨h.1, h.2.1.mv hal hh, h.2.2.1.there hal hh, h.2.2.2⟩) (fun r U U' V V' h1 hal h2 h => XT.PureE.mv r U U' V V' h1 hal h2 h) ?_
  intro p e s m args below meth c s₁ X0 hexec hbytes hml hret hlk hnm hown hh0 W hP
  obtain ⟨rfl, hx, s1, hz⟩ := hP
  have v31 := hx.2.2.2.1.2.2.2
  have c1 : Steps p.tables e below (s₁.setTop (entryFrame m #[.ref x] 1)) (s₁.setTop (mkF m 1 #[.val (.ref x)] [.ref x])) := Steps.trans (entry rfl) (by
    show Steps p.tables e below (s₁.setTop (mkF m 0 #[.val (.ref x)] [])) _
    refine XS.aloadN X0.here hexec rfl (hb hbytes d0) rfl rfl ?_
    exact Steps.refl _)
  obtain ⟨T2, X2, q2, st2⟩ := X0.hget hexec hown (wk W (.fieldLink "java/lang/String" 9 "java/lang/String" "value" "[B")) (hx.mv X0.warmed.alike hh0).2.1 (g := (mkF m 1 #[.val (.ref x)] [.ref x])) rfl (rest := []) rfl (hb hbytes d1)
  have hh2 := q2.trans hh0
  have hx2 := hx.mv X2.warmed.alike hh2
  have c3 : Steps p.tables e below (s₁.setTop (entryFrame m #[.ref x] 1)) (T2.setTop (mkF m 6 #[.val (.ref x)] [.ref x, .int (Int32.ofNat V.slots.size)])) := (c1.trans (st2 _ (Steps.refl _))).trans (by
    refine X2.alen hexec hx2.2.2.2.1 rfl rfl (hb hbytes d4) ?_
    refine XS.aloadN X2.here hexec rfl (hb hbytes d5) rfl rfl ?_
    exact Steps.refl _)
  obtain ⟨v4, T4, X4, E4, g4⟩ := X2.callV hexec (Cdr.law l x cd z) hown (wks W (virtW "java/lang/String" 335 "java/lang/String" Cdr.yN Cdr.yN)) rfl (by decide) (wk W Cdr.tab) (W := 1) (Nat.le_of_ble_eq_true rfl) (Nat.le_of_ble_eq_true rfl) (Nat.le_refl _) (Nat.le_refl _) (hx2.1.fc X2.warmed.alike) hx2.1.is (g := (mkF m 6 #[.val (.ref x)] [.ref x, .int (Int32.ofNat V.slots.size)])) rfl (by rw [hml]; rfl) c3 (argsL := []) (rest := [.int (Int32.ofNat V.slots.size)]) rfl rfl (by show 2 * 0 + (1 + 0) ≤ _; decide) (hb hbytes d6) (⟨rfl, hx2.2.2.1, hx.2.2.2.2.1.cd, s1.there X2.warmed.alike hh2, hz⟩)
  obtain ⟨rfl, q4⟩ := E4
  have c5 : Steps p.tables e below (s₁.setTop (entryFrame m #[.ref x] 1)) (T4.setTop (mkF m 10 #[.val (.ref x)] [.int (Int32.ofNat V.slots.size >>> (cd &&& 31))])) := Steps.trans g4 (by
    refine ishr X4.here hexec rfl (hb hbytes d9) rfl ?_
    exact Steps.refl _)
  rw [hx.2.2.2.2.1.len v31] at c5
  exact ⟨T4, some (.int (Int32.ofNat n)), _, _, _, X4, rfl, rfl, rfl, (fun h => by cases h), ⟨rfl, q4.trans hh2⟩, fun fs hl => c5.trans (X4.ireturnOut hexec hret rfl (Or.inl rfl) (hb hbytes d10) hl)⟩
theorem pays {l : Launch} {R : Room} {p : Program} {e : Env} {below : List Frame} {s : State} {sargs : Array Value} {len W : Nat} (x t : Addr) (V : Cell) (cd : Int32) (n : Nat) (f : Nat → Int32) (z : Int32) (htab : tab.before sargs s = true) (hfr : 2 ≤ R.frames) (hlo : W + 25 ≤ R.locals) :
    Back l R p e below s sargs yN len W (fun A₁ a₁ => A₁.cells + 0 ≤ R.cells ∧ A₁.slots + 0 ≤ R.slots ∧ P x t V cd n f z a₁ A₁.U) (fun A₁ _ v₁ B₁ => E n v₁ A₁.U B₁.U ∧ B₁.locs = A₁.locs ++ [] ∧ B₁.cells = A₁.cells + 0 ∧ B₁.slots = A₁.slots + 0) :=
  (law l x t V cd n f z).pays htab hfr (by omega)
end Len
end StrChars
namespace StrChars.Road
open Jvm Sem ClassFile Op Lib Jvm.Stand Jvm.Free Jvm.Free.XT
open Jvm.Lib.Cold (StaticIs)
theorem consq {a : Array Value} {s : State} {c : Jvm.Cond} {L : List Jvm.Cond} (h0 : c.before a s = true) (h : ∀ w ∈ L, w.before a s = true) : ∀ w ∈ c :: L, w.before a s = true := fun w hw => (List.mem_cons.mp hw).elim (fun e => e ▸ h0) (h w)
/-- the words of String.length(), either coding -/
abbrev wordsLen : List Jvm.Cond := [.code Len.yN Len.yB 1 (some .int), .initialized ST, .fieldLink ST 9 ST "value" "[B", .fieldLink ST 38 ST "COMPACT_STRINGS" "Z", .fieldLink ST 15 ST "coder" "B", .code Cdr.yN Cdr.yB 1 (some .byte), .methodLink ST 335 Cdr.yN, .declares Cdr.yN, .selects ST Cdr.yN Cdr.yN, .instanceMethod Cdr.yN]
theorem tabLen_of {a : Array Value} {s : State} (h : ∀ w ∈ wordsLen, w.before a s = true) : Len.tab.before a s = true := by
  have hc : Cdr.tab.before a s = true := unparts (wk h (.code Cdr.yN Cdr.yB 1 (some .byte))) (wks h (.initialized Cdr.yN.cls :: Cdr.site))
  have q := consq hc h
  exact unparts (wk q (.code Len.yN Len.yB 1 (some .int))) (wks q (.initialized Len.yN.cls :: Len.site))
theorem movedLen {Z s : State} {a0 args : Array Value} (hZ : Z.Warmed39 s.vm) (hw : ∀ d ∈ wordsLen, d.before a0 Z = true) : ∀ d ∈ wordsLen, d.before args s = true := fun d hd => by
  have q := hw d hd
  have t : ∀ d ∈ wordsLen, d = .arrayClass .byte ∨ (d.onTables && d.keepsFace) = true := by decide +kernel
  rcases t d hd with rfl | t
  · exact RoadKit.mvA hZ q
  · exact RoadKit.mv hZ q t
/-- the bytes of the chars cs, low before high -/
def wideBytes : List Int32 → List Value
  | [] => []
  | c :: cs => .int (lo8 c) :: .int (hi8 c) :: wideBytes cs
theorem wide_lo (d : Value) : ∀ (cs : List Int32) (j : Nat), j < cs.length → (wideBytes cs).getD (2 * j) d = .int (lo8 (cs.getD j 0))
  | [], j, h => absurd h (Nat.not_lt_zero j)
  | c :: cs, 0, _ => rfl
  | c :: cs, j + 1, h => by
    have q := wide_lo d cs j (by simpa using h)
    rw [show 2 * (j + 1) = 2 * j + 1 + 1 from by omega]
    simpa [wideBytes] using q
theorem wide_hi (d : Value) : ∀ (cs : List Int32) (j : Nat), j < cs.length → (wideBytes cs).getD (2 * j + 1) d = .int (hi8 (cs.getD j 0))
  | [], j, h => absurd h (Nat.not_lt_zero j)
  | c :: cs, 0, _ => rfl
  | c :: cs, j + 1, h => by
    have q := wide_hi d cs j (by simpa using h)
    rw [show 2 * (j + 1) + 1 = 2 * j + 1 + 1 + 1 from by omega]
    simpa [wideBytes] using q
theorem low_at (d : Value) (cs : List Int32) (j : Nat) (h : j < cs.length) : (cs.map fun c => Value.int (lo8 c)).getD j d = .int (lo8 (cs.getD j 0)) := by
  simp [List.getD_eq_getElem?_getD, h]
/-- an array of N2 bytes vs codes the chars cs by the coder cd -/
def CodA (cs : List Int32) (cd N2 : Int32) (vs : List Value) : Prop := (cd = 0 ∧ N2 = Int32.ofNat cs.length ∧ vs = (cs.map fun c => Value.int (lo8 c)) ∧ ∀ c ∈ cs, ¬ 255 < c) ∨ (cd = 1 ∧ N2 = Int32.ofNat (2 * cs.length) ∧ vs = wideBytes cs ∧ ∃ c ∈ cs, 255 < c)
theorem CodA.cod {cs : List Int32} {cd N2 : Int32} {vs : List Value} {V : Cell} (h : CodA cs cd N2 vs) (hn : 2 * cs.length < 2 ^ 31) (hs : V.slots.size = N2.toNatClampNeg) (hv : RoadKit.Has V vs (.int 0)) : Cod cd cs.length (fun j => cs.getD j 0) V := by
  rcases h with ⟨rfl, rfl, rfl, h⟩ | ⟨rfl, rfl, rfl, c, hc, hw⟩
  · rw [n32 (by omega)] at hs
    exact Or.inl ⟨rfl, hs, fun j hj => ⟨by rw [hv j (by omega), low_at _ _ _ hj], by
      have e : cs.getD j 0 = cs[j] := by simp [List.getD_eq_getElem?_getD, hj]
      show ¬ 255 < cs.getD j 0
      rw [e]; exact h _ (List.getElem_mem _)⟩⟩
  · rw [n32 (by omega)] at hs
    obtain ⟨j, hj, rfl⟩ := List.getElem_of_mem hc
    exact Or.inr ⟨rfl, hs, fun j hj => ⟨by rw [hv _ (by omega), wide_lo _ _ _ hj], by rw [hv _ (by omega), wide_hi _ _ _ hj]⟩, j, hj, by
      have e : cs.getD j 0 = cs[j] := by simp [List.getD_eq_getElem?_getD, hj]
      show 255 < cs.getD j 0
      rw [e]; exact hw⟩
/-- an object of exactly java/lang/String, its two fields found: as the laws ask it -/
theorem strObj {Z U : State} {a0 : Array Value} {kI : Nat} (wi : (Jvm.Cond.instantiable ST kI).before a0 Z = true) (al : Z.vm.Alike U.vm) {x : Addr} {v0 c0 : Value} (E : RoadKit.Exa Z U.heap x ST) (V : RoadKit.Fld Z U.heap x ST "value" "[B" v0) (C : RoadKit.Fld Z U.heap x ST "coder" "B" c0) :
    ∃ (D : Cell) (fV fC : Field), Blank ST x D U ∧ Found ST "value" "[B" fV U ∧ Found ST "coder" "B" fC U ∧ D.slots[fV.slot]? = some v0 ∧ D.slots[fC.slot]? = some c0 ∧ RoadKit.slotOf Z ST "value" "[B" = fV.slot ∧ RoadKit.slotOf Z ST "coder" "B" = fC.slot := by
  obtain ⟨D, cfV, kV, iV, fV, hD, gV, stV, knV, obV, asV, slV⟩ := V
  obtain ⟨D', cfC, kC, iC, fC, hD', gC, stC, -, -, asC, slC⟩ := C
  cases hD.symm.trans hD'
  obtain ⟨D2, kD, e1, e2, e3, e4, e5⟩ := E
  cases hD.symm.trans e1
  obtain ⟨c2, k2, i1, i2, i3, -⟩ := Cond.instantiable_spec wi
  cases e2.symm.trans i1
  cases e3.symm.trans i2
  obtain ⟨kU, u1, u2⟩ := al.2.2 _ _ e3
  exact ⟨D, fV, fC, ⟨hD, ⟨knV, fun q hq => by rw [hq] at obV; cases obV⟩, by rw [al.findClass]; exact e2, kU, u1, by rw [u2]; exact i3, by rw [u2]; exact e5 i3⟩, ⟨SBG.found_only al ⟨cfV, kV, iV, gV⟩, stV⟩, ⟨SBG.found_only al ⟨cfC, kC, iC, gC⟩, stC⟩, slV, slC, by simp [RoadKit.slotOf, gV], by simp [RoadKit.slotOf, gC]⟩
theorem sta_is {Z U : State} (al : Z.vm.Alike U.vm) {C n d : String} {v : Value} (S : RoadKit.Sta Z U.heap C n d v) : StaticIs U C n d v := by
  obtain ⟨cfS, iS, kS, fS, st, cS, t1, t2, t3, t4, t5, t6, t7⟩ := S
  exact StaticIs.there (s := { Z with heap := U.heap }) ⟨cfS, iS, kS, fS, st, cS, t1, t2, t3, t4, t5, (fun q => by rw [q] at t6; cases t6), t7⟩ al rfl
/-- **length() OF SUCH A STRING** -/
theorem lenW {p : Program} {l : Launch} {e : Env} {R : Room} {s : State} {args : Array Value} {below : List Frame} {len W : Nat} {Z : State} {a0 : Array Value} {h : Heap} (hZ : Z.Warmed39 s.vm) (hw : ∀ d ∈ wordsLen, d.before a0 Z = true) {kI : Nat} (wi : (Jvm.Cond.instantiable ST kI).before a0 Z = true)
    {x t : Addr} {kb : ClassId} {cs : List Int32} {cd N2 z : Int32} {vs : List Value} (E : RoadKit.Exa Z h x ST) (V : RoadKit.Fld Z h x ST "value" "[B" (.ref t)) (C : RoadKit.Fld Z h x ST "coder" "B" (.int cd)) (K : RoadKit.Arv Z h t kb .byte N2 vs (.int 0)) (hc : CodA cs cd N2 vs) (hb : ∀ c ∈ cs, ¬ c < 0 ∧ ¬ (65535 : Int32) < c)
    (S : RoadKit.Sta Z h ST "COMPACT_STRINGS" "Z" (.int z)) (hz : ¬ z = 0) (l2 : cs.length ≤ 4000) (hfr : 2 ≤ R.frames) (hlo : W + 25 ≤ R.locals) :
    Back l R p e below s args (⟨"java/lang/String", "length", "()I"⟩ : MethodName) len W (fun P a => a = #[.ref x] ∧ P.U.heap = h ∧ P.cells + 0 ≤ R.cells ∧ P.slots + 0 ≤ R.slots)
      (fun P _ v B => ∃ L, (v = some (.int (Int32.ofNat cs.length)) ∧ L = [] ∧ B.U.heap = h) ∧ B.locs = P.locs ++ L ∧ B.cells = P.cells + 0 ∧ B.slots = P.slots + 0) := by
  obtain ⟨A, K1, K2, K3, K4, K5, K6⟩ := K
  have hcod := hc.cod (by omega) K3 K5
  intro m meth c P g ig mk a X hg hsize hdg hW hn hp'
  obtain ⟨rfl, rfl, r1, r2⟩ := hp'
  have al : Z.vm.Alike P.U.vm := hZ.alike.trans X.warmed.alike
  obtain ⟨D, fV, fC, hB, F1, F2, g1, g2, -, -⟩ := strObj wi al E V C
  have hx : Txt x t A cd cs.length (fun j => cs.getD j 0) P.U := ⟨⟨_, hB.2.2.1, D, hB.1, rfl, by cases q : D.vm <;> first | rfl | exact absurd q (hB.2.1.2 _)⟩, Has.of hB F1 g1, Has.of hB F2 g2, ⟨K1.1, State.isArrayOf_alike al K1.2.1, K1.2.2, by rcases hcod with ⟨-, q, -⟩ | ⟨-, q, -⟩ <;> omega⟩, hcod, fun j hj => by
    have e : cs.getD j 0 = cs[j] := by simp [List.getD_eq_getElem?_getD, hj]
    show ¬ cs.getD j 0 < 0 ∧ ¬ 65535 < cs.getD j 0
    rw [e]; exact hb _ (List.getElem_mem _)⟩
  obtain ⟨v, B, X', ⟨⟨hv, hh⟩, hl, hk, hs⟩, st⟩ := Len.pays x t A cd cs.length (fun j => cs.getD j 0) z (tabLen_of (movedLen hZ hw)) hfr hlo m meth c P g ig mk _ X hg hsize hdg hW hn ⟨r1, r2, rfl, hx, sta_is al S, hz⟩
  exact ⟨v, B, X', ⟨[], ⟨hv, rfl, hh⟩, hl, hk, hs⟩, st⟩
end StrChars.Road
namespace StrChars
open Jvm Sem ClassFile Op Lib Jvm.Stand Jvm.Free.XT Jvm.Free.ALB Jvm.Free.JM Jvm.Free
open Jvm.Lib.Cold (StaticIs)
/-- what place i of a byte[]'s cell holds -/
def yv (A : Cell) (i : Nat) : Int32 := match A.slots[i]? with | some (.int x) => x | _ => 0
theorem yv_get {a : Addr} {A : Cell} {U : State} (h : XT.Arr .byte a A U) (ht : Typed .byte A) {i : Nat} (hi : i < A.slots.size) : A.slots[i]? = some (.int (yv A i)) := by
  have e := Array.getElem?_eq_getElem hi
  have f := ht i _ e
  unfold yv; rw [e]
  generalize A.slots[i] = v at f
  cases v <;> simp [fits] at f ⊢
/-- the two arrays are equal, place for place -/
def EqC (A B : Cell) : Prop := A.slots.size = B.slots.size ∧ ∀ i, i < A.slots.size → yv A i = yv B i
/-- a boolean that says whether p -/
def Says01 (q : Prop) (r : Option Value) (s u : State) : Prop := ∃ v : Int32, r = some (.int v) ∧ u.heap = s.heap ∧ ((v = 1 ∧ q) ∨ (v = 0 ∧ ¬ q))
theorem Says01.mv {q : Prop} : ∀ r (U U' V V' : State), U'.heap = U.heap → V.vm.Alike V'.vm → V'.heap = V.heap → Says01 q r U V → Says01 q r U' V' :=
  fun r U U' V V' h1 _ h2 ⟨v, a, b, c⟩ => ⟨v, a, by rw [h1, h2]; exact b, c⟩
namespace LEq
def yN : MethodName := ⟨"java/lang/StringLatin1", "equals", "([B[B)Z"⟩
abbrev yB : ByteArray := jdk_43_method_13_code
theorem d0 : decode yB 0 = .ok (.aload_n 0, 1) := by decide +kernel
theorem d1 : decode yB 1 = .ok (.arraylength, 1) := by decide +kernel
theorem d2 : decode yB 2 = .ok (.aload_n 1, 1) := by decide +kernel
theorem d3 : decode yB 3 = .ok (.arraylength, 1) := by decide +kernel
theorem d4 : decode yB 4 = .ok (.if_icmp (.ne) 30, 3) := by decide +kernel
theorem d7 : decode yB 7 = .ok (.iconst 0, 1) := by decide +kernel
theorem d8 : decode yB 8 = .ok (.istore_n 2, 1) := by decide +kernel
theorem d9 : decode yB 9 = .ok (.iload_n 2, 1) := by decide +kernel
theorem d10 : decode yB 10 = .ok (.aload_n 0, 1) := by decide +kernel
theorem d11 : decode yB 11 = .ok (.arraylength, 1) := by decide +kernel
theorem d12 : decode yB 12 = .ok (.if_icmp (.ge) 20, 3) := by decide +kernel
theorem d15 : decode yB 15 = .ok (.aload_n 0, 1) := by decide +kernel
theorem d16 : decode yB 16 = .ok (.iload_n 2, 1) := by decide +kernel
theorem d17 : decode yB 17 = .ok (.baload, 1) := by decide +kernel
theorem d18 : decode yB 18 = .ok (.aload_n 1, 1) := by decide +kernel
theorem d19 : decode yB 19 = .ok (.iload_n 2, 1) := by decide +kernel
theorem d20 : decode yB 20 = .ok (.baload, 1) := by decide +kernel
theorem d21 : decode yB 21 = .ok (.if_icmp (.eq) 5, 3) := by decide +kernel
theorem d24 : decode yB 24 = .ok (.iconst 0, 1) := by decide +kernel
theorem d25 : decode yB 25 = .ok (.ireturn, 1) := by decide +kernel
theorem d26 : decode yB 26 = .ok (.iinc 2 1, 3) := by decide +kernel
theorem d29 : decode yB 29 = .ok (.goto (-20), 3) := by decide +kernel
theorem d32 : decode yB 32 = .ok (.iconst 1, 1) := by decide +kernel
theorem d33 : decode yB 33 = .ok (.ireturn, 1) := by decide +kernel
theorem d34 : decode yB 34 = .ok (.iconst 0, 1) := by decide +kernel
theorem d35 : decode yB 35 = .ok (.ireturn, 1) := by decide +kernel
def site : List Cond := []
def tab : Cond := tabOf yN yB 3 (some .boolean) site
def P (a : Addr) (A : Cell) (b : Addr) (B : Cell) (args : Array Value) (s : State) : Prop := args = #[.ref a, .ref b] ∧ XT.Arr .byte a A s ∧ Typed .byte A ∧ XT.Arr .byte b B s ∧ Typed .byte B
/-- whether two byte[] are equal, place for place -/
theorem law (l : Launch) (a : Addr) (A : Cell) (b : Addr) (B : Cell) : Law l yN 2 2 0 0 yB 3 (some .boolean) site (P a A b B) (Says01 (EqC A B)) [] 0 0 := by
  refine Law.of_walk (plainFor_of_name (by decide +kernel)) (by decide +kernel) (by decide +kernel) (by decide) (fun _ _ h => by rw [h.1]; rfl) (fun _ U U' hal hh h => ⟨h.1, h.2.1.mv hal hh, h.2.2.1, h.2.2.2.1.mv hal hh, h.2.2.2.2⟩) (fun r U U' V V' h1 hal h2 h => Says01.mv r U U' V V' h1 hal h2 h) ?_
  intro p e s m args below meth c s₁ X0 hexec hbytes hml hret hlk hnm hown hh0 W hP
  obtain ⟨rfl, hA, tA, hB, tB⟩ := hP
  have a31 := hA.2.2.2
  have b31 := hB.2.2.2
  have hA0 := hA.mv X0.warmed.alike hh0
  have hB0 := hB.mv X0.warmed.alike hh0
  have c1 : Steps p.tables e below (s₁.setTop (entryFrame m #[.ref a, .ref b] 3)) (s₁.setTop (mkF m 0 #[.val (.ref a), .val (.ref b), .unset] [])) := entry rfl
  have c2 : Steps p.tables e below (s₁.setTop (entryFrame m #[.ref a, .ref b] 3)) (s₁.setTop (mkF m 4 #[.val (.ref a), .val (.ref b), .unset] [.int (Int32.ofNat B.slots.size), .int (Int32.ofNat A.slots.size)])) := c1.trans (by
    refine XS.aloadN X0.here hexec rfl (hb hbytes d0) rfl rfl ?_
    refine X0.alen hexec hA0 rfl rfl (hb hbytes d1) ?_
    refine XS.aloadN X0.here hexec rfl (hb hbytes d2) rfl rfl ?_
    refine X0.alen hexec hB0 rfl rfl (hb hbytes d3) ?_
    exact Steps.refl _)
  by_cases hs : A.slots.size = B.slots.size
  · have c3 : Steps p.tables e below (s₁.setTop (entryFrame m #[.ref a, .ref b] 3)) (s₁.setTop (mkF m 9 #[.val (.ref a), .val (.ref b), .val (.int 0)] [])) := c2.trans (by
      refine XS.icmpNo X0.here hexec rfl (hb hbytes d4) rfl (ii_ne_f (by rw [hs])) ?_
      refine iconstV X0.here hexec rfl 0 (hb hbytes d7) (by decide) ?_
      refine XS.istoreN X0.here hexec rfl (hb hbytes d8) rfl rfl ?_
      exact Steps.refl _)
    have loop : ∀ (r i : Nat), i + r = A.slots.size → (∀ j, j < i → yv A j = yv B j) → Steps p.tables e below (s₁.setTop (entryFrame m #[.ref a, .ref b] 3)) (s₁.setTop (mkF m 9 #[.val (.ref a), .val (.ref b), .val (.int (Int32.ofNat i))] [])) → ∃ (pc : Nat) (Ls : Array Slot) (v : Int32), (pc = 25 ∨ pc = 33) ∧ ((v = 1 ∧ EqC A B) ∨ (v = 0 ∧ ¬ EqC A B)) ∧ Steps p.tables e below (s₁.setTop (entryFrame m #[.ref a, .ref b] 3)) (s₁.setTop (mkF m pc Ls [.int v])) := by
      intro r
      induction r with
      | zero =>
        intro i hi he cl
        exact ⟨33, _, 1, Or.inr rfl, Or.inl ⟨rfl, hs, fun j hj => he j (by omega)⟩, cl.trans (by
          refine XS.iloadN X0.here hexec rfl (hb hbytes d9) rfl ?_
          refine XS.aloadN X0.here hexec rfl (hb hbytes d10) rfl rfl ?_
          refine X0.alen hexec hA0 rfl rfl (hb hbytes d11) ?_
          refine XS.icmpYes X0.here hexec rfl (pc0 := 12) rfl (hb hbytes d12) rfl (ii_ge_t (nlt32 (by omega) (by omega))) (by decide) rfl ?_
          refine iconstV X0.here hexec rfl 1 (hb hbytes d32) (by decide) ?_
          exact Steps.refl _)⟩
      | succ r ih =>
        intro i hi he cl
        have c4 : Steps p.tables e below (s₁.setTop (entryFrame m #[.ref a, .ref b] 3)) (s₁.setTop (mkF m 21 #[.val (.ref a), .val (.ref b), .val (.int (Int32.ofNat i))] [.int (yv B i), .int (yv A i)])) := cl.trans (by
          refine XS.iloadN X0.here hexec rfl (hb hbytes d9) rfl ?_
          refine XS.aloadN X0.here hexec rfl (hb hbytes d10) rfl rfl ?_
          refine X0.alen hexec hA0 rfl rfl (hb hbytes d11) ?_
          refine XS.icmpNo X0.here hexec rfl (hb hbytes d12) rfl (ii_ge_f (lt32 (by omega) (by omega))) ?_
          refine XS.aloadN X0.here hexec rfl (hb hbytes d15) rfl rfl ?_
          refine XS.iloadN X0.here hexec rfl (hb hbytes d16) rfl ?_
          refine X0.aget hexec hA0 rfl (yv_get hA tA (i := i) (by omega)) rfl rfl (hb hbytes d17) ?_
          refine XS.aloadN X0.here hexec rfl (hb hbytes d18) rfl rfl ?_
          refine XS.iloadN X0.here hexec rfl (hb hbytes d19) rfl ?_
          refine X0.aget hexec hB0 rfl (yv_get hB tB (i := i) (by omega)) rfl rfl (hb hbytes d20) ?_
          exact Steps.refl _)
        by_cases hv : yv A i = yv B i
        · have c5 : Steps p.tables e below (s₁.setTop (entryFrame m #[.ref a, .ref b] 3)) (s₁.setTop (mkF m 9 #[.val (.ref a), .val (.ref b), .val (.int (Int32.ofNat i + 1))] [])) := c4.trans (by
            refine XS.icmpYes X0.here hexec rfl (pc0 := 21) rfl (hb hbytes d21) rfl (ii_eq_t hv) (by decide) rfl ?_
            refine iincV X0.here hexec rfl 1 (hb hbytes d26) (by decide) rfl rfl ?_
            refine XS.goto X0.here hexec rfl (pc0 := 29) rfl (hb hbytes d29) (by decide) rfl ?_
            exact Steps.refl _)
          rw [succ32] at c5
          exact ih (i + 1) (by omega) (fun j hj => by
            by_cases e : j = i
            · rw [e]; exact hv
            · exact he j (by omega)) c5
        · exact ⟨25, _, 0, Or.inl rfl, Or.inr ⟨rfl, fun q => hv (q.2 i (by omega))⟩, c4.trans (by
            refine XS.icmpNo X0.here hexec rfl (hb hbytes d21) rfl (ii_eq_f hv) ?_
            refine iconstV X0.here hexec rfl 0 (hb hbytes d24) (by decide) ?_
            exact Steps.refl _)⟩
    obtain ⟨pc, Ls, v, hpc, hv, cz⟩ := loop A.slots.size 0 (by omega) (fun j hj => absurd hj (Nat.not_lt_zero j)) c3
    have nv : narrow .boolean (.int v) = .int v := by rcases hv with ⟨rfl, -⟩ | ⟨rfl, -⟩ <;> rfl
    rcases hpc with rfl | rfl
    · exact ⟨s₁, some (.int v), _, _, _, X0, rfl, rfl, rfl, (fun h => by cases h), ⟨v, rfl, hh0, hv⟩, fun fs hl => cz.trans (X0.ireturnOut hexec hret nv (Or.inr (Or.inl rfl)) (hb hbytes d25) hl)⟩
    · exact ⟨s₁, some (.int v), _, _, _, X0, rfl, rfl, rfl, (fun h => by cases h), ⟨v, rfl, hh0, hv⟩, fun fs hl => cz.trans (X0.ireturnOut hexec hret nv (Or.inr (Or.inl rfl)) (hb hbytes d33) hl)⟩
  · have c3 : Steps p.tables e below (s₁.setTop (entryFrame m #[.ref a, .ref b] 3)) (s₁.setTop (mkF m 35 #[.val (.ref a), .val (.ref b), .unset] [.int 0])) := c2.trans (by
      refine XS.icmpYes X0.here hexec rfl (pc0 := 4) rfl (hb hbytes d4) rfl (ii_ne_t (ne32 a31 b31 hs)) (by decide) rfl ?_
      refine iconstV X0.here hexec rfl 0 (hb hbytes d34) (by decide) ?_
      exact Steps.refl _)
    exact ⟨s₁, some (.int 0), _, _, _, X0, rfl, rfl, rfl, (fun h => by cases h), ⟨0, rfl, hh0, Or.inr ⟨rfl, fun q => hs q.1⟩⟩, fun fs hl => c3.trans (X0.ireturnOut hexec hret rfl (Or.inr (Or.inl rfl)) (hb hbytes d35) hl)⟩
end LEq
theorem Cod.ty {cd : Int32} {n : Nat} {f : Nat → Int32} {V : Cell} (h : Cod cd n f V) : Typed .byte V := fun i v hv => by
  have hi : i < V.slots.size := (Array.getElem?_eq_some_iff.mp hv).1
  rcases h with ⟨-, k1, k2⟩ | ⟨-, k1, k2, -⟩
  · rw [(k2 i (by omega)).1] at hv; cases hv; exact fits_lo8 _
  · rcases Nat.mod_two_eq_zero_or_one i with e | e
    · obtain ⟨j, rfl⟩ : ∃ j, i = 2 * j := ⟨i / 2, by omega⟩
      rw [(k2 j (by omega)).1] at hv; cases hv; exact fits_lo8 _
    · obtain ⟨j, rfl⟩ : ∃ j, i = 2 * j + 1 := ⟨i / 2, by omega⟩
      rw [(k2 j (by omega)).2] at hv; cases hv; exact fits_lo8 _
/-- the same text -/
def SameT (n : Nat) (f : Nat → Int32) (k : Nat) (g : Nat → Int32) : Prop := n = k ∧ ∀ j, j < n → f j = g j
theorem lo8_inj {x y : Int32} (h0 : ¬ x < 0) (h1 : ¬ 255 < x) (k0 : ¬ y < 0) (k1 : ¬ 255 < y) (h : lo8 x = lo8 y) : x = y := by
  rw [← lo8_mask h0 h1, ← lo8_mask k0 k1, h]
/-- arrays coded by one coder are equal just where the texts are -/
theorem Cod.eqv {cd : Int32} {n k : Nat} {f g : Nat → Int32} {V V' : Cell} (h : Cod cd n f V) (h' : Cod cd k g V') (hf : ∀ j, j < n → ¬ f j < 0 ∧ ¬ 65535 < f j) (hg : ∀ j, j < k → ¬ g j < 0 ∧ ¬ 65535 < g j) : EqC V V' ↔ SameT n f k g := by
  have yvv : ∀ {W : Cell} {i : Nat} {x : Int32}, W.slots[i]? = some (.int x) → yv W i = x := fun q => by unfold yv; rw [q]
  rcases h with ⟨rfl, k1, k2⟩ | ⟨rfl, k1, k2, -⟩
  · rcases h' with ⟨-, m1, m2⟩ | ⟨e, -⟩
    · constructor
      · rintro ⟨e1, e2⟩
        refine ⟨by omega, fun j hj => ?_⟩
        have q := e2 j (by omega)
        rw [yvv (k2 j hj).1, yvv (m2 j (by omega)).1] at q
        exact lo8_inj (hf j hj).1 (k2 j hj).2 (hg j (by omega)).1 (m2 j (by omega)).2 q
      · rintro ⟨rfl, e2⟩
        refine ⟨by omega, fun j hj => ?_⟩
        rw [yvv (k2 j (by omega)).1, yvv (m2 j (by omega)).1, e2 j (by omega)]
    · exact absurd e (by decide)
  · rcases h' with ⟨e, -⟩ | ⟨-, m1, m2, -⟩
    · exact absurd e (by decide)
    · constructor
      · rintro ⟨e1, e2⟩
        refine ⟨by omega, fun j hj => ?_⟩
        have q1 := e2 (2 * j) (by omega)
        have q2 := e2 (2 * j + 1) (by omega)
        rw [yvv (k2 j hj).1, yvv (m2 j (by omega)).1] at q1
        rw [yvv (k2 j hj).2, yvv (m2 j (by omega)).2] at q2
        rw [← pair_says (hf j hj).1 (hf j hj).2, ← pair_says (hg j (by omega)).1 (hg j (by omega)).2, q1, q2]
      · rintro ⟨rfl, e2⟩
        refine ⟨by omega, fun i hi => ?_⟩
        rcases Nat.mod_two_eq_zero_or_one i with e | e
        · obtain ⟨j, rfl⟩ : ∃ j, i = 2 * j := ⟨i / 2, by omega⟩
          rw [yvv (k2 j (by omega)).1, yvv (m2 j (by omega)).1, e2 j (by omega)]
        · obtain ⟨j, rfl⟩ : ∃ j, i = 2 * j + 1 := ⟨i / 2, by omega⟩
          rw [yvv (k2 j (by omega)).2, yvv (m2 j (by omega)).2, e2 j (by omega)]
/-- two codings differ: so do the texts -/
theorem Cod.dif {cd cd' : Int32} {n k : Nat} {f g : Nat → Int32} {V V' : Cell} (h : Cod cd n f V) (h' : Cod cd' k g V') (hne : ¬ cd = cd') : ¬ SameT n f k g := by
  rintro ⟨rfl, e⟩
  rcases h with ⟨rfl, -, k2⟩ | ⟨rfl, -, -, j, hj, hw⟩
  · rcases h' with ⟨rfl, -⟩ | ⟨-, -, -, j, hj, hw⟩
    · exact hne rfl
    · exact (k2 j hj).2 (by rw [e j hj]; exact hw)
  · rcases h' with ⟨-, -, m2⟩ | ⟨rfl, -⟩
    · exact (m2 j hj).2 (by rw [← e j hj]; exact hw)
    · exact hne rfl
/-- an object of exactly C is an instance of C -/
theorem cinst {p : Program} {l : Launch} {e : Env} {R : Room} {s : State} {m : MethodId} {args : Array Value} {below : List Frame} {meth : Method} {c : Code} {T : State} {locs : List Loc} {cells slots : Nat} (X : Stand p l e R s m args below meth c T locs cells slots) (hexec : p.tables.exec = Jvm.exec) {own C : String} {index : Nat} (hown : s.vm.findClass own = some m.cls) (hlink : (Cond.classLink own index C).before args s = true) {a : Addr} (hE : Exact C a T)
    {g : JFrame} (hg : g.method = m) {rest : List Value} (hstack : g.stack = .ref a :: rest) (hdg : decode c.code g.pc = .ok (.instanceof index, 3)) :
    ∃ T', Stand p l e R s m args below meth c T' locs cells slots ∧ T'.heap = T.heap ∧ ∀ target, Steps p.tables e below (T'.setTop { g with pc := g.pc + 3, stack := .int 1 :: rest }) target → Steps p.tables e below (T.setTop g) target := by
  obtain ⟨cB, h1, D, h2, h3, h4⟩ := hE
  have h1' : s.vm.findClass C = some cB := by rw [← X.warmed.alike.findClass]; exact h1
  obtain ⟨vm', X', st⟩ := X.instanceofYes hexec hown hlink h2 h4 h1' (by rw [h3]; exact Jvm.Free.SB.assignable_self _ _) hg hstack hdg
  exact ⟨_, X', rfl, st⟩
theorem cself {p : Program} {l : Launch} {e : Env} {R : Room} {s : State} {m : MethodId} {args : Array Value} {below : List Frame} {meth : Method} {c : Code} {T : State} {locs : List Loc} {cells slots : Nat} (X : Stand p l e R s m args below meth c T locs cells slots) (hexec : p.tables.exec = Jvm.exec) {own C : String} {index : Nat} (hown : s.vm.findClass own = some m.cls) (hlink : (Cond.classLink own index C).before args s = true) {a : Addr} (hE : Exact C a T)
    {g : JFrame} (hg : g.method = m) {rest : List Value} (hstack : g.stack = .ref a :: rest) (hdg : decode c.code g.pc = .ok (.checkcast index, 3)) :
    ∃ T', Stand p l e R s m args below meth c T' locs cells slots ∧ T'.heap = T.heap ∧ ∀ target, Steps p.tables e below (T'.setTop { g with pc := g.pc + 3, stack := .ref a :: rest }) target → Steps p.tables e below (T.setTop g) target := by
  obtain ⟨cB, h1, D, h2, h3, h4⟩ := hE
  have h1' : s.vm.findClass C = some cB := by rw [← X.warmed.alike.findClass]; exact h1
  obtain ⟨vm', X', st⟩ := X.checkcastYes hexec hown hlink h2 h4 h1' (by rw [h3]; exact Jvm.Free.SB.assignable_self _ _) hg hstack hdg
  exact ⟨_, X', rfl, fun t h => st t (by rw [← hstack] at h; exact h)⟩
namespace SEq
def yN : MethodName := ⟨"java/lang/String", "equals", "(Ljava/lang/Object;)Z"⟩
abbrev yB : ByteArray := jdk_42_method_66_code
theorem d0 : decode yB 0 = .ok (.aload_n 0, 1) := by decide +kernel
theorem d1 : decode yB 1 = .ok (.aload_n 1, 1) := by decide +kernel
theorem d2 : decode yB 2 = .ok (.if_acmp (.ne) 5, 3) := by decide +kernel
theorem d5 : decode yB 5 = .ok (.iconst 1, 1) := by decide +kernel
theorem d6 : decode yB 6 = .ok (.ireturn, 1) := by decide +kernel
theorem d7 : decode yB 7 = .ok (.aload_n 1, 1) := by decide +kernel
theorem d8 : decode yB 8 = .ok (.instanceof 10, 3) := by decide +kernel
theorem d11 : decode yB 11 = .ok (.ifCond (.eq) 43, 3) := by decide +kernel
theorem d14 : decode yB 14 = .ok (.aload_n 1, 1) := by decide +kernel
theorem d15 : decode yB 15 = .ok (.checkcast 10, 3) := by decide +kernel
theorem d18 : decode yB 18 = .ok (.astore_n 2, 1) := by decide +kernel
theorem d19 : decode yB 19 = .ok (.getstatic 38, 3) := by decide +kernel
theorem d22 : decode yB 22 = .ok (.ifCond (.eq) 14, 3) := by decide +kernel
theorem d25 : decode yB 25 = .ok (.aload_n 0, 1) := by decide +kernel
theorem d26 : decode yB 26 = .ok (.getfield 15, 3) := by decide +kernel
theorem d29 : decode yB 29 = .ok (.aload_n 2, 1) := by decide +kernel
theorem d30 : decode yB 30 = .ok (.getfield 15, 3) := by decide +kernel
theorem d33 : decode yB 33 = .ok (.if_icmp (.ne) 21, 3) := by decide +kernel
theorem d36 : decode yB 36 = .ok (.aload_n 0, 1) := by decide +kernel
theorem d37 : decode yB 37 = .ok (.getfield 9, 3) := by decide +kernel
theorem d40 : decode yB 40 = .ok (.aload_n 2, 1) := by decide +kernel
theorem d41 : decode yB 41 = .ok (.getfield 9, 3) := by decide +kernel
theorem d44 : decode yB 44 = .ok (.invokestatic 541, 3) := by decide +kernel
theorem d47 : decode yB 47 = .ok (.ifCond (.eq) 7, 3) := by decide +kernel
theorem d50 : decode yB 50 = .ok (.iconst 1, 1) := by decide +kernel
theorem d51 : decode yB 51 = .ok (.goto 4, 3) := by decide +kernel
theorem d54 : decode yB 54 = .ok (.iconst 0, 1) := by decide +kernel
theorem d55 : decode yB 55 = .ok (.ireturn, 1) := by decide +kernel
def site : List Cond := [.classLink "java/lang/String" 10 "java/lang/String", .fieldLink "java/lang/String" 38 "java/lang/String" "COMPACT_STRINGS" "Z", .fieldLink "java/lang/String" 15 "java/lang/String" "coder" "B", .fieldLink "java/lang/String" 9 "java/lang/String" "value" "[B", LEq.tab] ++ staticW "java/lang/String" 541 LEq.yN
def tab : Cond := tabOf yN yB 3 (some .boolean) site
def P (x t : Addr) (V : Cell) (cd : Int32) (n : Nat) (f : Nat → Int32) (y t' : Addr) (V' : Cell) (cd' : Int32) (k : Nat) (g : Nat → Int32) (z : Int32) (args : Array Value) (s : State) : Prop := args = #[.ref x, .ref y] ∧ Txt x t V cd n f s ∧ Txt y t' V' cd' k g s ∧ StaticIs s "java/lang/String" "COMPACT_STRINGS" "Z" (.int z) ∧ ¬ z = 0
/-- equals(Object) of two Strings: whether the texts are the same -/
theorem law (l : Launch) (x t : Addr) (V : Cell) (cd : Int32) (n : Nat) (f : Nat → Int32) (y t' : Addr) (V' : Cell) (cd' : Int32) (k : Nat) (g : Nat → Int32) (z : Int32) : Law l yN 2 1 1 14 yB 3 (some .boolean) site (P x t V cd n f y t' V' cd' k g z) (Says01 (SameT n f k g)) [] 0 0 := by
  refine Law.of_walk (plainFor_of_name (by decide +kernel)) (by decide +kernel) (by decide +kernel) (by decide) (fun _ _ h => by rw [h.1]; rfl) (fun _ U U' hal hh h => ⟨h.1, h.2.1.mv hal hh, h.2.2.1.mv hal hh, h.2.2.2.1.there hal hh, h.2.2.2.2⟩) (fun r U U' V V' h1 hal h2 h => Says01.mv r U U' V V' h1 hal h2 h) ?_
  intro p e s m args below meth c s₁ X0 hexec hbytes hml hret hlk hnm hown hh0 W hP
  obtain ⟨rfl, hx, hy, s1, hz⟩ := hP
  have c1 : Steps p.tables e below (s₁.setTop (entryFrame m #[.ref x, .ref y] 3)) (s₁.setTop (mkF m 2 #[.val (.ref x), .val (.ref y), .unset] [.ref y, .ref x])) := Steps.trans (entry rfl) (by
    show Steps p.tables e below (s₁.setTop (mkF m 0 #[.val (.ref x), .val (.ref y), .unset] [])) _
    refine XS.aloadN X0.here hexec rfl (hb hbytes d0) rfl rfl ?_
    refine XS.aloadN X0.here hexec rfl (hb hbytes d1) rfl rfl ?_
    exact Steps.refl _)
  by_cases hxy : x = y
  · have c2 : Steps p.tables e below (s₁.setTop (entryFrame m #[.ref x, .ref y] 3)) (s₁.setTop (mkF m 6 #[.val (.ref x), .val (.ref y), .unset] [.int 1])) := c1.trans (by
      refine acmpNo X0.here hexec rfl (hb hbytes d2) rfl rfl rfl (by simp [acmp, hxy]) ?_
      refine iconstV X0.here hexec rfl 1 (hb hbytes d5) (by decide) ?_
      exact Steps.refl _)
    subst hxy
    have ec : cd = cd' := by
      obtain ⟨D, fd, a1, a2, a3⟩ := hx.2.2.1
      obtain ⟨D', fd', b1, b2, b3⟩ := hy.2.2.1
      cases a1.symm.trans b1
      obtain ⟨q1, q2, q3, q4⟩ := a2.1
      obtain ⟨r1, r2, r3, r4⟩ := b2.1
      cases q4.symm.trans r4
      cases a3.symm.trans b3; rfl
    have et : t = t' := by
      obtain ⟨D, fd, a1, a2, a3⟩ := hx.2.1
      obtain ⟨D', fd', b1, b2, b3⟩ := hy.2.1
      cases a1.symm.trans b1
      obtain ⟨q1, q2, q3, q4⟩ := a2.1
      obtain ⟨r1, r2, r3, r4⟩ := b2.1
      cases q4.symm.trans r4
      cases a3.symm.trans b3; rfl
    subst ec et
    have ev : V = V' := by cases hx.2.2.2.1.1.symm.trans hy.2.2.2.1.1; rfl
    subst ev
    have hs : SameT n f k g := (Cod.eqv hx.2.2.2.2.1 hy.2.2.2.2.1 hx.2.2.2.2.2 hy.2.2.2.2.2).mp ⟨rfl, fun _ _ => rfl⟩
    exact ⟨s₁, some (.int 1), _, _, _, X0, rfl, rfl, rfl, (fun h => by cases h), ⟨1, rfl, hh0, Or.inl ⟨rfl, hs⟩⟩, fun fs hl => c2.trans (X0.ireturnOut hexec hret rfl (Or.inr (Or.inl rfl)) (hb hbytes d6) hl)⟩
  · have c2 : Steps p.tables e below (s₁.setTop (entryFrame m #[.ref x, .ref y] 3)) (s₁.setTop (mkF m 8 #[.val (.ref x), .val (.ref y), .unset] [.ref y])) := c1.trans (by
      refine acmpYes X0.here hexec rfl (pc0 := 2) rfl (hb hbytes d2) rfl rfl rfl (by simp [acmp, hxy]) (by decide) rfl ?_
      refine XS.aloadN X0.here hexec rfl (hb hbytes d7) rfl rfl ?_
      exact Steps.refl _)
    obtain ⟨T3, X3, q3, st3⟩ := cinst X0 hexec hown (wk W (.classLink "java/lang/String" 10 "java/lang/String")) (hy.mv X0.warmed.alike hh0).1 (g := (mkF m 8 #[.val (.ref x), .val (.ref y), .unset] [.ref y])) rfl (rest := []) rfl (hb hbytes d8)
    have hh3 := q3.trans hh0
    have c4 : Steps p.tables e below (s₁.setTop (entryFrame m #[.ref x, .ref y] 3)) (T3.setTop (mkF m 15 #[.val (.ref x), .val (.ref y), .unset] [.ref y])) := (c2.trans (st3 _ (Steps.refl _))).trans (by
      refine XS.ifNo X3.here hexec rfl (hb hbytes d11) rfl (i0_eq_f (by decide)) ?_
      refine XS.aloadN X3.here hexec rfl (hb hbytes d14) rfl rfl ?_
      exact Steps.refl _)
    obtain ⟨T5, X5, q5, st5⟩ := cself X3 hexec hown (wk W (.classLink "java/lang/String" 10 "java/lang/String")) (hy.mv X3.warmed.alike hh3).1 (g := (mkF m 15 #[.val (.ref x), .val (.ref y), .unset] [.ref y])) rfl (rest := []) rfl (hb hbytes d15)
    have hh5 := q5.trans hh3
    have c6 : Steps p.tables e below (s₁.setTop (entryFrame m #[.ref x, .ref y] 3)) (T5.setTop (mkF m 19 #[.val (.ref x), .val (.ref y), .val (.ref y)] [])) := (c4.trans (st5 _ (Steps.refl _))).trans (by
      refine XS.astoreN X5.here hexec rfl (hb hbytes d18) rfl rfl rfl ?_
      exact Steps.refl _)
    obtain ⟨T7, X7, q7, st7⟩ := X5.sget hexec hown (wk W (.fieldLink "java/lang/String" 38 "java/lang/String" "COMPACT_STRINGS" "Z")) s1 (fun _ _ h => by rw [hh5]; exact h) (g := (mkF m 19 #[.val (.ref x), .val (.ref y), .val (.ref y)] [])) rfl (hb hbytes d19)
    have hh7 := q7.trans hh5
    have c8 : Steps p.tables e below (s₁.setTop (entryFrame m #[.ref x, .ref y] 3)) (T7.setTop (mkF m 26 #[.val (.ref x), .val (.ref y), .val (.ref y)] [.ref x])) := (c6.trans (st7 _ (Steps.refl _))).trans (by
      refine XS.ifNo X7.here hexec rfl (hb hbytes d22) rfl (i0_eq_f hz) ?_
      refine XS.aloadN X7.here hexec rfl (hb hbytes d25) rfl rfl ?_
      exact Steps.refl _)
    obtain ⟨T9, X9, q9, st9⟩ := X7.hget hexec hown (wk W (.fieldLink "java/lang/String" 15 "java/lang/String" "coder" "B")) (hx.mv X7.warmed.alike hh7).2.2.1 (g := (mkF m 26 #[.val (.ref x), .val (.ref y), .val (.ref y)] [.ref x])) rfl (rest := []) rfl (hb hbytes d26)
    have hh9 := q9.trans hh7
    have c10 : Steps p.tables e below (s₁.setTop (entryFrame m #[.ref x, .ref y] 3)) (T9.setTop (mkF m 30 #[.val (.ref x), .val (.ref y), .val (.ref y)] [.ref y, .int cd])) := (c8.trans (st9 _ (Steps.refl _))).trans (by
      refine XS.aloadN X9.here hexec rfl (hb hbytes d29) rfl rfl ?_
      exact Steps.refl _)
    obtain ⟨T11, X11, q11, st11⟩ := X9.hget hexec hown (wk W (.fieldLink "java/lang/String" 15 "java/lang/String" "coder" "B")) (hy.mv X9.warmed.alike hh9).2.2.1 (g := (mkF m 30 #[.val (.ref x), .val (.ref y), .val (.ref y)] [.ref y, .int cd])) rfl (rest := [.int cd]) rfl (hb hbytes d30)
    have hh11 := q11.trans hh9
    have c12 : Steps p.tables e below (s₁.setTop (entryFrame m #[.ref x, .ref y] 3)) (T11.setTop (mkF m 33 #[.val (.ref x), .val (.ref y), .val (.ref y)] [.int cd', .int cd])) := c10.trans (st11 _ (Steps.refl _))
    by_cases hcd : cd = cd'
    · subst hcd
      have c13 : Steps p.tables e below (s₁.setTop (entryFrame m #[.ref x, .ref y] 3)) (T11.setTop (mkF m 37 #[.val (.ref x), .val (.ref y), .val (.ref y)] [.ref x])) := c12.trans (by
        refine XS.icmpNo X11.here hexec rfl (hb hbytes d33) rfl (ii_ne_f rfl) ?_
        refine XS.aloadN X11.here hexec rfl (hb hbytes d36) rfl rfl ?_
        exact Steps.refl _)
      obtain ⟨T14, X14, q14, st14⟩ := X11.hget hexec hown (wk W (.fieldLink "java/lang/String" 9 "java/lang/String" "value" "[B")) (hx.mv X11.warmed.alike hh11).2.1 (g := (mkF m 37 #[.val (.ref x), .val (.ref y), .val (.ref y)] [.ref x])) rfl (rest := []) rfl (hb hbytes d37)
      have hh14 := q14.trans hh11
      have c15 : Steps p.tables e below (s₁.setTop (entryFrame m #[.ref x, .ref y] 3)) (T14.setTop (mkF m 41 #[.val (.ref x), .val (.ref y), .val (.ref y)] [.ref y, .ref t])) := (c13.trans (st14 _ (Steps.refl _))).trans (by
        refine XS.aloadN X14.here hexec rfl (hb hbytes d40) rfl rfl ?_
        exact Steps.refl _)
      obtain ⟨T16, X16, q16, st16⟩ := X14.hget hexec hown (wk W (.fieldLink "java/lang/String" 9 "java/lang/String" "value" "[B")) (hy.mv X14.warmed.alike hh14).2.1 (g := (mkF m 41 #[.val (.ref x), .val (.ref y), .val (.ref y)] [.ref y, .ref t])) rfl (rest := [.ref t]) rfl (hb hbytes d41)
      have hh16 := q16.trans hh14
      have c17 : Steps p.tables e below (s₁.setTop (entryFrame m #[.ref x, .ref y] 3)) (T16.setTop (mkF m 44 #[.val (.ref x), .val (.ref y), .val (.ref y)] [.ref t', .ref t])) := c15.trans (st16 _ (Steps.refl _))
      obtain ⟨v18, T18, X18, E18, g18⟩ := X16.callS hexec (LEq.law l t V t' V') hown (wks W (staticW "java/lang/String" 541 LEq.yN)) (wk W LEq.tab) (W := 0) (Nat.le_of_ble_eq_true rfl) (Nat.le_of_ble_eq_true rfl) (Nat.le_refl _) (Nat.le_refl _) (g := (mkF m 44 #[.val (.ref x), .val (.ref y), .val (.ref y)] [.ref t', .ref t])) rfl (by rw [hml]; rfl) c17 (argsL := [.ref t, .ref t']) (rest := []) rfl rfl (by show 2 * 0 + 0 ≤ _; decide) (hb hbytes d44) (⟨rfl, hx.2.2.2.1.mv X16.warmed.alike hh16, hx.2.2.2.2.1.ty, hy.2.2.2.1.mv X16.warmed.alike hh16, hy.2.2.2.2.1.ty⟩)
      obtain ⟨v, rfl, q18, hv⟩ := E18
      have iff := Cod.eqv hx.2.2.2.2.1 hy.2.2.2.2.1 hx.2.2.2.2.2 hy.2.2.2.2.2
      rcases hv with ⟨rfl, he⟩ | ⟨rfl, he⟩
      · have c19 : Steps p.tables e below (s₁.setTop (entryFrame m #[.ref x, .ref y] 3)) (T18.setTop (mkF m 55 #[.val (.ref x), .val (.ref y), .val (.ref y)] [.int 1])) := Steps.trans g18 (by
          refine XS.ifNo X18.here hexec rfl (hb hbytes d47) rfl (i0_eq_f (by decide)) ?_
          refine iconstV X18.here hexec rfl 1 (hb hbytes d50) (by decide) ?_
          refine XS.goto X18.here hexec rfl (pc0 := 51) rfl (hb hbytes d51) (by decide) rfl ?_
          exact Steps.refl _)
        exact ⟨T18, some (.int 1), _, _, _, X18, rfl, rfl, rfl, (fun h => by cases h), ⟨1, rfl, q18.trans hh16, Or.inl ⟨rfl, iff.mp he⟩⟩, fun fs hl => c19.trans (X18.ireturnOut hexec hret rfl (Or.inr (Or.inl rfl)) (hb hbytes d55) hl)⟩
      · have c19 : Steps p.tables e below (s₁.setTop (entryFrame m #[.ref x, .ref y] 3)) (T18.setTop (mkF m 55 #[.val (.ref x), .val (.ref y), .val (.ref y)] [.int 0])) := Steps.trans g18 (by
          refine XS.ifYes X18.here hexec rfl (pc0 := 47) rfl (hb hbytes d47) rfl (i0_eq_t rfl) (by decide) rfl ?_
          refine iconstV X18.here hexec rfl 0 (hb hbytes d54) (by decide) ?_
          exact Steps.refl _)
        exact ⟨T18, some (.int 0), _, _, _, X18, rfl, rfl, rfl, (fun h => by cases h), ⟨0, rfl, q18.trans hh16, Or.inr ⟨rfl, fun q => he (iff.mpr q)⟩⟩, fun fs hl => c19.trans (X18.ireturnOut hexec hret rfl (Or.inr (Or.inl rfl)) (hb hbytes d55) hl)⟩
    · have c13 : Steps p.tables e below (s₁.setTop (entryFrame m #[.ref x, .ref y] 3)) (T11.setTop (mkF m 55 #[.val (.ref x), .val (.ref y), .val (.ref y)] [.int 0])) := c12.trans (by
        refine XS.icmpYes X11.here hexec rfl (pc0 := 33) rfl (hb hbytes d33) rfl (ii_ne_t hcd) (by decide) rfl ?_
        refine iconstV X11.here hexec rfl 0 (hb hbytes d54) (by decide) ?_
        exact Steps.refl _)
      exact ⟨T11, some (.int 0), _, _, _, X11, rfl, rfl, rfl, (fun h => by cases h), ⟨0, rfl, hh11, Or.inr ⟨rfl, Cod.dif hx.2.2.2.2.1 hy.2.2.2.2.1 hcd⟩⟩, fun fs hl => c13.trans (X11.ireturnOut hexec hret rfl (Or.inr (Or.inl rfl)) (hb hbytes d55) hl)⟩
theorem pays {l : Launch} {R : Room} {p : Program} {e : Env} {below : List Frame} {s : State} {sargs : Array Value} {len W : Nat} (x t : Addr) (V : Cell) (cd : Int32) (n : Nat) (f : Nat → Int32) (y t' : Addr) (V' : Cell) (cd' : Int32) (k : Nat) (g : Nat → Int32) (z : Int32) (htab : tab.before sargs s = true) (hfr : 2 ≤ R.frames) (hlo : W + 28 ≤ R.locals) :
    Back l R p e below s sargs yN len W (fun A₁ a₁ => A₁.cells + 0 ≤ R.cells ∧ A₁.slots + 0 ≤ R.slots ∧ P x t V cd n f y t' V' cd' k g z a₁ A₁.U) (fun A₁ _ v₁ B₁ => Says01 (SameT n f k g) v₁ A₁.U B₁.U ∧ B₁.locs = A₁.locs ++ [] ∧ B₁.cells = A₁.cells + 0 ∧ B₁.slots = A₁.slots + 0) :=
  (law l x t V cd n f y t' V' cd' k g z).pays htab hfr (by omega)
end SEq
end StrChars
namespace StrChars.Road
open Jvm Sem ClassFile Op Lib Jvm.Stand Jvm.Free Jvm.Free.XT
open Jvm.Lib.Cold (StaticIs)
/-- the words of String.equals(Object) -/
abbrev wordsEq : List Jvm.Cond := [.code SEq.yN SEq.yB 3 (some .boolean), .initialized ST, .classLink ST 10 ST, .fieldLink ST 38 ST "COMPACT_STRINGS" "Z", .fieldLink ST 15 ST "coder" "B", .fieldLink ST 9 ST "value" "[B", .methodLink ST 541 LEq.yN, .static LEq.yN, .code LEq.yN LEq.yB 3 (some .boolean), .initialized "java/lang/StringLatin1"]
theorem tabEq_of {a : Array Value} {s : State} (h : ∀ w ∈ wordsEq, w.before a s = true) : SEq.tab.before a s = true := by
  have hl : LEq.tab.before a s = true := unparts (wk h (.code LEq.yN LEq.yB 3 (some .boolean))) (wks h (.initialized LEq.yN.cls :: LEq.site))
  have q := consq hl h
  exact unparts (wk q (.code SEq.yN SEq.yB 3 (some .boolean))) (wks q (.initialized SEq.yN.cls :: SEq.site))
theorem movedEq {Z s : State} {a0 args : Array Value} (hZ : Z.Warmed39 s.vm) (hw : ∀ d ∈ wordsEq, d.before a0 Z = true) : ∀ d ∈ wordsEq, d.before args s = true := fun d hd => by
  have t : ∀ d ∈ wordsEq, (d.onTables && d.keepsFace) = true := by decide +kernel
  exact RoadKit.mv hZ (hw d hd) (t d hd)
/-- the road's facts of a String, as the laws ask it -/
theorem txt_of {Z U : State} {a0 : Array Value} {kI : Nat} (wi : (Jvm.Cond.instantiable ST kI).before a0 Z = true) (al : Z.vm.Alike U.vm) {x t : Addr} {kb : ClassId} {cs : List Int32} {cd N2 : Int32} {vs : List Value} (E : RoadKit.Exa Z U.heap x ST) (V : RoadKit.Fld Z U.heap x ST "value" "[B" (.ref t)) (C : RoadKit.Fld Z U.heap x ST "coder" "B" (.int cd)) (K : RoadKit.Arv Z U.heap t kb .byte N2 vs (.int 0)) (hc : CodA cs cd N2 vs) (hb : ∀ c ∈ cs, ¬ c < 0 ∧ ¬ (65535 : Int32) < c) (l2 : cs.length ≤ 4000) :
    ∃ A, Txt x t A cd cs.length (fun j => cs.getD j 0) U := by
  obtain ⟨A, K1, K2, K3, K4, K5, K6⟩ := K
  have hcod := hc.cod (by omega) K3 K5
  obtain ⟨D, fV, fC, hB, F1, F2, g1, g2, -, -⟩ := strObj wi al E V C
  exact ⟨A, ⟨_, hB.2.2.1, D, hB.1, rfl, by cases q : D.vm <;> first | rfl | exact absurd q (hB.2.1.2 _)⟩, Has.of hB F1 g1, Has.of hB F2 g2, ⟨K1.1, State.isArrayOf_alike al K1.2.1, K1.2.2, by rcases hcod with ⟨-, q, -⟩ | ⟨-, q, -⟩ <;> omega⟩, hcod, fun j hj => by
    have e : cs.getD j 0 = cs[j] := by simp [List.getD_eq_getElem?_getD, hj]
    show ¬ cs.getD j 0 < 0 ∧ ¬ 65535 < cs.getD j 0
    rw [e]; exact hb _ (List.getElem_mem _)⟩
theorem same_list (cs ds : List Int32) : SameT cs.length (fun j => cs.getD j 0) ds.length (fun j => ds.getD j 0) ↔ cs = ds := by
  constructor
  · rintro ⟨e, q⟩
    refine List.ext_getElem e fun j h1 h2 => ?_
    have := q j h1
    simpa [List.getD_eq_getElem?_getD, h1, h2] using this
  · rintro rfl
    exact ⟨rfl, fun _ _ => rfl⟩
/-- **equals(Object) OF TWO SUCH STRINGS**: 1 just where the chars are the same -/
theorem eqW {p : Program} {l : Launch} {e : Env} {R : Room} {s : State} {args : Array Value} {below : List Frame} {len W : Nat} {Z : State} {a0 : Array Value} {h : Heap} (hZ : Z.Warmed39 s.vm) (hw : ∀ d ∈ wordsEq, d.before a0 Z = true) {kI : Nat} (wi : (Jvm.Cond.instantiable ST kI).before a0 Z = true)
    {x t : Addr} {kb : ClassId} {cs : List Int32} {cd N2 : Int32} {vs : List Value} (E : RoadKit.Exa Z h x ST) (V : RoadKit.Fld Z h x ST "value" "[B" (.ref t)) (C : RoadKit.Fld Z h x ST "coder" "B" (.int cd)) (K : RoadKit.Arv Z h t kb .byte N2 vs (.int 0)) (hc : CodA cs cd N2 vs) (hb : ∀ c ∈ cs, ¬ c < 0 ∧ ¬ (65535 : Int32) < c) (l2 : cs.length ≤ 4000)
    {y t' : Addr} {kb' : ClassId} {ds : List Int32} {cd' N2' : Int32} {vs' : List Value} (E' : RoadKit.Exa Z h y ST) (V' : RoadKit.Fld Z h y ST "value" "[B" (.ref t')) (C' : RoadKit.Fld Z h y ST "coder" "B" (.int cd')) (K' : RoadKit.Arv Z h t' kb' .byte N2' vs' (.int 0)) (hc' : CodA ds cd' N2' vs') (hb' : ∀ c ∈ ds, ¬ c < 0 ∧ ¬ (65535 : Int32) < c) (l2' : ds.length ≤ 4000)
    {z : Int32} (S : RoadKit.Sta Z h ST "COMPACT_STRINGS" "Z" (.int z)) (hz : ¬ z = 0) (hfr : 2 ≤ R.frames) (hlo : W + 28 ≤ R.locals) :
    Back l R p e below s args (⟨"java/lang/String", "equals", "(Ljava/lang/Object;)Z"⟩ : MethodName) len W (fun P a => a = #[.ref x, .ref y] ∧ P.U.heap = h ∧ P.cells + 0 ≤ R.cells ∧ P.slots + 0 ≤ R.slots)
      (fun P _ v B => ∃ L, (((v = some (.int 1) ∧ cs = ds) ∨ (v = some (.int 0) ∧ ¬ cs = ds)) ∧ L = [] ∧ B.U.heap = h) ∧ B.locs = P.locs ++ L ∧ B.cells = P.cells + 0 ∧ B.slots = P.slots + 0) := by
  intro m meth c P g ig mk a X hg hsize hdg hW hn hp'
  obtain ⟨rfl, rfl, r1, r2⟩ := hp'
  have al : Z.vm.Alike P.U.vm := hZ.alike.trans X.warmed.alike
  obtain ⟨A, hx⟩ := txt_of wi al E V C K hc hb l2
  obtain ⟨A', hy⟩ := txt_of wi al E' V' C' K' hc' hb' l2'
  obtain ⟨v, B, X', ⟨⟨w, hv, hh, hq⟩, hl, hk, hs⟩, st⟩ := SEq.pays x t A cd cs.length (fun j => cs.getD j 0) y t' A' cd' ds.length (fun j => ds.getD j 0) z (tabEq_of (movedEq hZ hw)) hfr hlo m meth c P g ig mk _ X hg hsize hdg hW hn ⟨r1, r2, rfl, hx, hy, sta_is al S, hz⟩
  refine ⟨v, B, X', ⟨[], ⟨?_, rfl, hh⟩, hl, hk, hs⟩, st⟩
  rcases hq with ⟨rfl, q⟩ | ⟨rfl, q⟩
  · exact Or.inl ⟨hv, (same_list cs ds).mp q⟩
  · exact Or.inr ⟨hv, fun e => q ((same_list cs ds).mpr e)⟩
end StrChars.Road
namespace StrChars.Road
open Jvm Sem ClassFile Op Lib Jvm.Stand Jvm.Free Jvm.Free.XT
open Jvm.Lib.Cold (StaticIs)
/-- what backV says of its String, as the contracts of this text ask it: cs's low bytes, coder 0 -/
theorem codOf {cs : List Int32} {n : Nat} (hn : cs.length = n) (hb : ∀ c ∈ cs, ¬ 255 < c) : CodA cs 0 (Int32.ofNat n) ((cs.map lo8).map Value.int) := Or.inl ⟨rfl, by rw [hn], by simp [List.map_map, Function.comp_def], hb⟩
end StrChars.Road
end Jvm.Pilot.@@N@@
namespace Jvm.Pilot.@@N@@
open Jvm Jvm.ClassFile Sem Op Lib Jvm.Free Jvm.Stand Jvm.LawKit Jvm.RoadKit Bundle Jvm.Pilot.@@N@@.Jvm.D
namespace Wk
open Jvm Jvm.ClassFile Sem Op Lib Jvm.Free Jvm.Stand Jvm.LawKit Jvm.RoadKit
/-- the fixed part of a walk: program, environment, the state at the invocation, the method, its arguments, the frames below, the method's record, its code -/
abbrev Wd : Type := Program × Env × State × MethodId × Array Value × List Frame × Method × Code
abbrev Wd.p (W : Wd) : Program := W.1
abbrev Wd.e (W : Wd) : Env := W.2.1
abbrev Wd.s (W : Wd) : State := W.2.2.1
abbrev Wd.m (W : Wd) : MethodId := W.2.2.2.1
abbrev Wd.a (W : Wd) : Array Value := W.2.2.2.2.1
abbrev Wd.b (W : Wd) : List Frame := W.2.2.2.2.2.1
abbrev Wd.t (W : Wd) : Method := W.2.2.2.2.2.2.1
abbrev Wd.c (W : Wd) : Code := W.2.2.2.2.2.2.2
abbrev Post : Type := Option Value → Heap → Prop
def Go (R : Room) (Z : State) (W : Wd) (Q : Post) (A : State) : Prop :=
  ∃ s₂ o, Steps W.p.tables W.e W.b A s₂ ∧ s₂.status = .running ∧ Ended s₂ W.b o ∧ ∃ v L, o = .returned v ∧ (Q v s₂.heap ∧ Ext Z.heap s₂.heap ∧ Fr Z.heap.size L) ∧ FrameEnd W.s o s₂ L R.cells R.slots
abbrev Std (l : Launch) (R : Room) (W : Wd) (T : State) (locs : List Loc) (k n : Nat) : Prop := Stand W.p l W.e R W.s W.m W.a W.b W.t W.c T locs k n
def Run (l : Launch) (R : Room) (Z : State) (W : Wd) (Q : Post) (h : Heap) (k n : Nat) (f : JFrame) : Prop :=
  ∀ T locs, Std l R W T locs k n → T.heap = h → Fr Z.heap.size locs → Ext Z.heap h → Go R Z W Q (T.setTop f)
def Cx (Z : State) (W : Wd) (own nm : String) (code : ByteArray) (maxL : Nat) (ret : Option FieldType) : Prop :=
  W.p.tables.exec = Jvm.exec ∧ W.c.code = code ∧ W.c.maxLocals = maxL ∧ W.s.vm.findClass own = some W.m.cls ∧ Z.Warmed39 W.s.vm ∧ W.t.sig.returnType = ret ∧ W.t.name = nm ∧ W.t.locks = false
section Kit
variable {l : Launch} {R : Room} {Z : State} {W : Wd} {Q : Post} {h : Heap} {k n : Nat} {own nm : String} {code : ByteArray} {maxL : Nat} {ret : Option FieldType} {a0 : Array Value} {pc pc' : Nat} {Ls : Array Slot} {st : List Value}
theorem Cx.hx (C : Cx Z W own nm code maxL ret) : W.p.tables.exec = Jvm.exec := C.1
theorem Cx.hb (C : Cx Z W own nm code maxL ret) {pc : Nat} {r : Except ClassFile.DecodeError (ClassFile.Instr × Nat)} (h2 : decode code pc = r) : decode W.c.code pc = r := C.2.1 ▸ h2
theorem Cx.ow (C : Cx Z W own nm code maxL ret) : W.s.vm.findClass own = some W.m.cls := C.2.2.2.1
theorem Cx.hZ (C : Cx Z W own nm code maxL ret) : Z.Warmed39 W.s.vm := C.2.2.2.2.1
theorem Cx.ml (C : Cx Z W own nm code maxL ret) : W.c.maxLocals = maxL := C.2.2.1
theorem Cx.rt (C : Cx Z W own nm code maxL ret) : W.t.sig.returnType = ret := C.2.2.2.2.2.1
theorem Cx.nme (C : Cx Z W own nm code maxL ret) : W.t.name = nm := C.2.2.2.2.2.2.1
theorem Cx.lk (C : Cx Z W own nm code maxL ret) : W.t.locks = false := C.2.2.2.2.2.2.2
theorem old_of (O : Ext Z.heap h) : Old Z Z.heap.size h := ⟨rfl, O⟩
theorem Go.step {A B : State} (f : ∀ t, Steps W.p.tables W.e W.b B t → Steps W.p.tables W.e W.b A t) (g : Go R Z W Q B) : Go R Z W Q A := by
  obtain ⟨t, o, h1, r⟩ := g
  exact ⟨t, o, f t h1, r⟩
theorem Run.one {g g' : JFrame} (f : ∀ T locs, Std l R W T locs k n → T.heap = h → ∀ t, Steps W.p.tables W.e W.b (T.setTop g') t → Steps W.p.tables W.e W.b (T.setTop g) t) (r : Run l R Z W Q h k n g') : Run l R Z W Q h k n g :=
  fun T locs X eT N O => Go.step (f T locs X eT) (r T locs X eT N O)
theorem Run.old {f : JFrame} (r : Ext Z.heap h → Run l R Z W Q h k n f) : Run l R Z W Q h k n f := fun T locs X eT N O => r O T locs X eT N O
theorem Run.grow {f : JFrame} {k' n' : Nat} (hk : k ≤ k') (hn : n ≤ n') (r : Run l R Z W Q h k' n' f) : Run l R Z W Q h k n f := fun T locs X eT N O =>
  r T locs ⟨X.admits, X.cas, X.clock, X.frames, X.room, X.hears, X.method, X.code, X.here, X.tail, X.warmed, X.limits, X.bytes, X.same.mono hk hn⟩ eT N O

theorem iloadN (C : Cx Z W own nm code maxL ret) {i : Fin 4} {v : Int32} (hd : decode code pc = .ok (.iload_n i, 1)) (hl : Ls[i.val]? = some (.val (.int v))) (hp : pc + 1 = pc')
    (r : Run l R Z W Q h k n (mkF W.m pc' Ls (.int v :: st))) : Run l R Z W Q h k n (mkF W.m pc Ls (st)) := by
  subst hp
  exact Run.one (fun T locs X _ t g => XS.iloadN X.here C.hx rfl (C.hb hd) hl g) r
theorem iload (C : Cx Z W own nm code maxL ret) {i : Nat} {v : Int32} (hd : decode code pc = .ok (.iload i, 2)) (hl : Ls[i]? = some (.val (.int v))) (hp : pc + 2 = pc')
    (r : Run l R Z W Q h k n (mkF W.m pc' Ls (.int v :: st))) : Run l R Z W Q h k n (mkF W.m pc Ls (st)) := by
  subst hp
  exact Run.one (fun T locs X _ t g => XS.iload X.here C.hx rfl (C.hb hd) hl g) r
theorem lloadN (C : Cx Z W own nm code maxL ret) {i : Fin 4} {v : Int64} (hd : decode code pc = .ok (.lload_n i, 1)) (hl : Ls[i.val]? = some (.val (.long v))) (hp : pc + 1 = pc')
    (r : Run l R Z W Q h k n (mkF W.m pc' Ls (.long v :: st))) : Run l R Z W Q h k n (mkF W.m pc Ls (st)) := by
  subst hp
  exact Run.one (fun T locs X _ t g => XS.lloadN X.here C.hx rfl (C.hb hd) hl g) r
theorem lload (C : Cx Z W own nm code maxL ret) {i : Nat} {v : Int64} (hd : decode code pc = .ok (.lload i, 2)) (hl : Ls[i]? = some (.val (.long v))) (hp : pc + 2 = pc')
    (r : Run l R Z W Q h k n (mkF W.m pc' Ls (.long v :: st))) : Run l R Z W Q h k n (mkF W.m pc Ls (st)) := by
  subst hp
  exact Run.one (fun T locs X _ t g => XS.lload X.here C.hx rfl (C.hb hd) hl g) r
theorem aloadN (C : Cx Z W own nm code maxL ret) {i : Fin 4} {v : Value} (hd : decode code pc = .ok (.aload_n i, 1)) (hl : Ls[i.val]? = some (.val v)) (hv : v.isRef = true) (hp : pc + 1 = pc')
    (r : Run l R Z W Q h k n (mkF W.m pc' Ls (v :: st))) : Run l R Z W Q h k n (mkF W.m pc Ls (st)) := by
  subst hp
  exact Run.one (fun T locs X _ t g => XS.aloadN X.here C.hx rfl (C.hb hd) hl hv g) r
theorem aload (C : Cx Z W own nm code maxL ret) {i : Nat} {v : Value} (hd : decode code pc = .ok (.aload i, 2)) (hl : Ls[i]? = some (.val v)) (hv : v.isRef = true) (hp : pc + 2 = pc')
    (r : Run l R Z W Q h k n (mkF W.m pc' Ls (v :: st))) : Run l R Z W Q h k n (mkF W.m pc Ls (st)) := by
  subst hp
  exact Run.one (fun T locs X _ t g => XS.aload X.here C.hx rfl (C.hb hd) hl hv g) r
theorem istoreN (C : Cx Z W own nm code maxL ret) {i : Fin 4} {v : Int32} {Ls' : Array Slot} (hd : decode code pc = .ok (.istore_n i, 1)) (hl : storeLocals Ls i.val (.int v) = some Ls') (hp : pc + 1 = pc')
    (r : Run l R Z W Q h k n (mkF W.m pc' Ls' (st))) : Run l R Z W Q h k n (mkF W.m pc Ls (.int v :: st)) := by
  subst hp
  exact Run.one (fun T locs X _ t g => XS.istoreN X.here C.hx rfl (C.hb hd) rfl hl g) r
theorem istore (C : Cx Z W own nm code maxL ret) {i : Nat} {v : Int32} {Ls' : Array Slot} (hd : decode code pc = .ok (.istore i, 2)) (hl : storeLocals Ls i (.int v) = some Ls') (hp : pc + 2 = pc')
    (r : Run l R Z W Q h k n (mkF W.m pc' Ls' (st))) : Run l R Z W Q h k n (mkF W.m pc Ls (.int v :: st)) := by
  subst hp
  exact Run.one (fun T locs X _ t g => XS.istore X.here C.hx rfl (C.hb hd) rfl hl g) r
theorem lstoreN (C : Cx Z W own nm code maxL ret) {i : Fin 4} {v : Int64} {Ls' : Array Slot} (hd : decode code pc = .ok (.lstore_n i, 1)) (hl : storeLocals Ls i.val (.long v) = some Ls') (hp : pc + 1 = pc')
    (r : Run l R Z W Q h k n (mkF W.m pc' Ls' (st))) : Run l R Z W Q h k n (mkF W.m pc Ls (.long v :: st)) := by
  subst hp
  exact Run.one (fun T locs X _ t g => XS.lstoreN X.here C.hx rfl (C.hb hd) rfl hl g) r
theorem lstore (C : Cx Z W own nm code maxL ret) {i : Nat} {v : Int64} {Ls' : Array Slot} (hd : decode code pc = .ok (.lstore i, 2)) (hl : storeLocals Ls i (.long v) = some Ls') (hp : pc + 2 = pc')
    (r : Run l R Z W Q h k n (mkF W.m pc' Ls' (st))) : Run l R Z W Q h k n (mkF W.m pc Ls (.long v :: st)) := by
  subst hp
  exact Run.one (fun T locs X _ t g => XS.lstore X.here C.hx rfl (C.hb hd) rfl hl g) r
theorem astoreN (C : Cx Z W own nm code maxL ret) {i : Fin 4} {v : Value} {Ls' : Array Slot} (hd : decode code pc = .ok (.astore_n i, 1)) (hv : v.isRef = true) (hl : storeLocals Ls i.val v = some Ls') (hp : pc + 1 = pc')
    (r : Run l R Z W Q h k n (mkF W.m pc' Ls' (st))) : Run l R Z W Q h k n (mkF W.m pc Ls (v :: st)) := by
  subst hp
  exact Run.one (fun T locs X _ t g => XS.astoreN X.here C.hx rfl (C.hb hd) rfl hv hl g) r
theorem astore (C : Cx Z W own nm code maxL ret) {i : Nat} {v : Value} {Ls' : Array Slot} (hd : decode code pc = .ok (.astore i, 2)) (hv : v.isRef = true) (hl : storeLocals Ls i v = some Ls') (hp : pc + 2 = pc')
    (r : Run l R Z W Q h k n (mkF W.m pc' Ls' (st))) : Run l R Z W Q h k n (mkF W.m pc Ls (v :: st)) := by
  subst hp
  exact Run.one (fun T locs X _ t g => XS.astore X.here C.hx rfl (C.hb hd) rfl hv hl g) r
theorem iconst (C : Cx Z W own nm code maxL ret) {i : Int} {v : Int32} (hd : decode code pc = .ok (.iconst i, 1)) (hv : Int32.ofInt i = v) (hp : pc + 1 = pc')
    (r : Run l R Z W Q h k n (mkF W.m pc' Ls (.int v :: st))) : Run l R Z W Q h k n (mkF W.m pc Ls (st)) := by
  subst hp
  exact Run.one (fun T locs X _ t g => XS.iconst X.here C.hx rfl (C.hb hd) (hv ▸ g)) r
theorem bipush (C : Cx Z W own nm code maxL ret) {i : Int} {v : Int32} (hd : decode code pc = .ok (.bipush i, 2)) (hv : (Int8.ofInt i).toInt32 = v) (hp : pc + 2 = pc')
    (r : Run l R Z W Q h k n (mkF W.m pc' Ls (.int v :: st))) : Run l R Z W Q h k n (mkF W.m pc Ls (st)) := by
  subst hp
  exact Run.one (fun T locs X _ t g => XS.bipush X.here C.hx rfl (C.hb hd) (hv ▸ g)) r
theorem sipush (C : Cx Z W own nm code maxL ret) {i : Int} {v : Int32} (hd : decode code pc = .ok (.sipush i, 3)) (hv : (Int16.ofInt i).toInt32 = v) (hp : pc + 3 = pc')
    (r : Run l R Z W Q h k n (mkF W.m pc' Ls (.int v :: st))) : Run l R Z W Q h k n (mkF W.m pc Ls (st)) := by
  subst hp
  exact Run.one (fun T locs X _ t g => XS.sipush X.here C.hx rfl (C.hb hd) (hv ▸ g)) r
theorem lconst (C : Cx Z W own nm code maxL ret) {i : Fin 2} {v : Int64} (hd : decode code pc = .ok (.lconst i, 1)) (hv : Int64.ofNat i = v) (hp : pc + 1 = pc')
    (r : Run l R Z W Q h k n (mkF W.m pc' Ls (.long v :: st))) : Run l R Z W Q h k n (mkF W.m pc Ls (st)) := by
  subst hp
  exact Run.one (fun T locs X _ t g => XS.lconst X.here C.hx rfl (C.hb hd) (hv ▸ g)) r
theorem aconstNull (C : Cx Z W own nm code maxL ret)  (hd : decode code pc = .ok (.aconst_null, 1)) (hp : pc + 1 = pc')
    (r : Run l R Z W Q h k n (mkF W.m pc' Ls (.null :: st))) : Run l R Z W Q h k n (mkF W.m pc Ls (st)) := by
  subst hp
  exact Run.one (fun T locs X _ t g => XS.aconstNull X.here C.hx rfl (C.hb hd) g) r
theorem iadd (C : Cx Z W own nm code maxL ret) {x y v : Int32} (hd : decode code pc = .ok (.iadd, 1)) (hv : x + y = v) (hp : pc + 1 = pc')
    (r : Run l R Z W Q h k n (mkF W.m pc' Ls (.int v :: st))) : Run l R Z W Q h k n (mkF W.m pc Ls (.int y :: .int x :: st)) := by
  subst hp
  exact Run.one (fun T locs X _ t g => XS.iadd X.here C.hx rfl (C.hb hd) rfl (hv ▸ g)) r
theorem isub (C : Cx Z W own nm code maxL ret) {x y v : Int32} (hd : decode code pc = .ok (.isub, 1)) (hv : x - y = v) (hp : pc + 1 = pc')
    (r : Run l R Z W Q h k n (mkF W.m pc' Ls (.int v :: st))) : Run l R Z W Q h k n (mkF W.m pc Ls (.int y :: .int x :: st)) := by
  subst hp
  exact Run.one (fun T locs X _ t g => XS.isub X.here C.hx rfl (C.hb hd) rfl (hv ▸ g)) r
theorem imul (C : Cx Z W own nm code maxL ret) {x y v : Int32} (hd : decode code pc = .ok (.imul, 1)) (hv : x * y = v) (hp : pc + 1 = pc')
    (r : Run l R Z W Q h k n (mkF W.m pc' Ls (.int v :: st))) : Run l R Z W Q h k n (mkF W.m pc Ls (.int y :: .int x :: st)) := by
  subst hp
  exact Run.one (fun T locs X _ t g => XS.imul X.here C.hx rfl (C.hb hd) rfl (hv ▸ g)) r
theorem iand (C : Cx Z W own nm code maxL ret) {x y v : Int32} (hd : decode code pc = .ok (.iand, 1)) (hv : x &&& y = v) (hp : pc + 1 = pc')
    (r : Run l R Z W Q h k n (mkF W.m pc' Ls (.int v :: st))) : Run l R Z W Q h k n (mkF W.m pc Ls (.int y :: .int x :: st)) := by
  subst hp
  exact Run.one (fun T locs X _ t g => XS.iand X.here C.hx rfl (C.hb hd) rfl (hv ▸ g)) r
theorem ior (C : Cx Z W own nm code maxL ret) {x y v : Int32} (hd : decode code pc = .ok (.ior, 1)) (hv : x ||| y = v) (hp : pc + 1 = pc')
    (r : Run l R Z W Q h k n (mkF W.m pc' Ls (.int v :: st))) : Run l R Z W Q h k n (mkF W.m pc Ls (.int y :: .int x :: st)) := by
  subst hp
  exact Run.one (fun T locs X _ t g => XS.ior X.here C.hx rfl (C.hb hd) rfl (hv ▸ g)) r
theorem ixor (C : Cx Z W own nm code maxL ret) {x y v : Int32} (hd : decode code pc = .ok (.ixor, 1)) (hv : x ^^^ y = v) (hp : pc + 1 = pc')
    (r : Run l R Z W Q h k n (mkF W.m pc' Ls (.int v :: st))) : Run l R Z W Q h k n (mkF W.m pc Ls (.int y :: .int x :: st)) := by
  subst hp
  exact Run.one (fun T locs X _ t g => XS.ixor X.here C.hx rfl (C.hb hd) rfl (hv ▸ g)) r
theorem ladd (C : Cx Z W own nm code maxL ret) {x y v : Int64} (hd : decode code pc = .ok (.ladd, 1)) (hv : x + y = v) (hp : pc + 1 = pc')
    (r : Run l R Z W Q h k n (mkF W.m pc' Ls (.long v :: st))) : Run l R Z W Q h k n (mkF W.m pc Ls (.long y :: .long x :: st)) := by
  subst hp
  exact Run.one (fun T locs X _ t g => XS.ladd X.here C.hx rfl (C.hb hd) rfl (hv ▸ g)) r
theorem lsub (C : Cx Z W own nm code maxL ret) {x y v : Int64} (hd : decode code pc = .ok (.lsub, 1)) (hv : x - y = v) (hp : pc + 1 = pc')
    (r : Run l R Z W Q h k n (mkF W.m pc' Ls (.long v :: st))) : Run l R Z W Q h k n (mkF W.m pc Ls (.long y :: .long x :: st)) := by
  subst hp
  exact Run.one (fun T locs X _ t g => XS.lsub X.here C.hx rfl (C.hb hd) rfl (hv ▸ g)) r
theorem lmul (C : Cx Z W own nm code maxL ret) {x y v : Int64} (hd : decode code pc = .ok (.lmul, 1)) (hv : x * y = v) (hp : pc + 1 = pc')
    (r : Run l R Z W Q h k n (mkF W.m pc' Ls (.long v :: st))) : Run l R Z W Q h k n (mkF W.m pc Ls (.long y :: .long x :: st)) := by
  subst hp
  exact Run.one (fun T locs X _ t g => XS.lmul X.here C.hx rfl (C.hb hd) rfl (hv ▸ g)) r
theorem land (C : Cx Z W own nm code maxL ret) {x y v : Int64} (hd : decode code pc = .ok (.land, 1)) (hv : x &&& y = v) (hp : pc + 1 = pc')
    (r : Run l R Z W Q h k n (mkF W.m pc' Ls (.long v :: st))) : Run l R Z W Q h k n (mkF W.m pc Ls (.long y :: .long x :: st)) := by
  subst hp
  exact Run.one (fun T locs X _ t g => XS.land X.here C.hx rfl (C.hb hd) rfl (hv ▸ g)) r
theorem lor (C : Cx Z W own nm code maxL ret) {x y v : Int64} (hd : decode code pc = .ok (.lor, 1)) (hv : x ||| y = v) (hp : pc + 1 = pc')
    (r : Run l R Z W Q h k n (mkF W.m pc' Ls (.long v :: st))) : Run l R Z W Q h k n (mkF W.m pc Ls (.long y :: .long x :: st)) := by
  subst hp
  exact Run.one (fun T locs X _ t g => XS.lor X.here C.hx rfl (C.hb hd) rfl (hv ▸ g)) r
theorem lxor (C : Cx Z W own nm code maxL ret) {x y v : Int64} (hd : decode code pc = .ok (.lxor, 1)) (hv : x ^^^ y = v) (hp : pc + 1 = pc')
    (r : Run l R Z W Q h k n (mkF W.m pc' Ls (.long v :: st))) : Run l R Z W Q h k n (mkF W.m pc Ls (.long y :: .long x :: st)) := by
  subst hp
  exact Run.one (fun T locs X _ t g => XS.lxor X.here C.hx rfl (C.hb hd) rfl (hv ▸ g)) r
theorem idiv (C : Cx Z W own nm code maxL ret) {x y v : Int32} (hd : decode code pc = .ok (.idiv, 1)) (hy : ¬ y = 0) (hv : x / y = v) (hp : pc + 1 = pc')
    (r : Run l R Z W Q h k n (mkF W.m pc' Ls (.int v :: st))) : Run l R Z W Q h k n (mkF W.m pc Ls (.int y :: .int x :: st)) := by
  subst hp
  exact Run.one (fun T locs X _ t g => XS.idiv X.here C.hx rfl (C.hb hd) rfl hy (hv ▸ g)) r
theorem irem (C : Cx Z W own nm code maxL ret) {x y v : Int32} (hd : decode code pc = .ok (.irem, 1)) (hy : ¬ y = 0) (hv : x % y = v) (hp : pc + 1 = pc')
    (r : Run l R Z W Q h k n (mkF W.m pc' Ls (.int v :: st))) : Run l R Z W Q h k n (mkF W.m pc Ls (.int y :: .int x :: st)) := by
  subst hp
  exact Run.one (fun T locs X _ t g => iremM X C.hx rfl (C.hb hd) rfl hy (hv ▸ g)) r
theorem ineg (C : Cx Z W own nm code maxL ret) {x v : Int32} (hd : decode code pc = .ok (.ineg, 1)) (hv : -x = v) (hp : pc + 1 = pc')
    (r : Run l R Z W Q h k n (mkF W.m pc' Ls (.int v :: st))) : Run l R Z W Q h k n (mkF W.m pc Ls (.int x :: st)) := by
  subst hp
  exact Run.one (fun T locs X _ t g => XS.ineg X.here C.hx rfl (C.hb hd) rfl (hv ▸ g)) r
theorem ishl (C : Cx Z W own nm code maxL ret) {x y v : Int32} (hd : decode code pc = .ok (.ishl, 1)) (hv : x <<< (y &&& 31) = v) (hp : pc + 1 = pc')
    (r : Run l R Z W Q h k n (mkF W.m pc' Ls (.int v :: st))) : Run l R Z W Q h k n (mkF W.m pc Ls (.int y :: .int x :: st)) := by
  subst hp
  exact Run.one (fun T locs X _ t g => XS.ishl X.here C.hx rfl (C.hb hd) rfl (hv ▸ g)) r
theorem ishr (C : Cx Z W own nm code maxL ret) {x y v : Int32} (hd : decode code pc = .ok (.ishr, 1)) (hv : x >>> (y &&& 31) = v) (hp : pc + 1 = pc')
    (r : Run l R Z W Q h k n (mkF W.m pc' Ls (.int v :: st))) : Run l R Z W Q h k n (mkF W.m pc Ls (.int y :: .int x :: st)) := by
  subst hp
  exact Run.one (fun T locs X _ t g => XS.ishr X.here C.hx rfl (C.hb hd) rfl (hv ▸ g)) r
theorem iushr (C : Cx Z W own nm code maxL ret) {x y v : Int32} (hd : decode code pc = .ok (.iushr, 1)) (hv : (x.toUInt32 >>> (y &&& 31).toUInt32).toInt32 = v) (hp : pc + 1 = pc')
    (r : Run l R Z W Q h k n (mkF W.m pc' Ls (.int v :: st))) : Run l R Z W Q h k n (mkF W.m pc Ls (.int y :: .int x :: st)) := by
  subst hp
  exact Run.one (fun T locs X _ t g => XS.iushr X.here C.hx rfl (C.hb hd) rfl (hv ▸ g)) r
theorem lshl (C : Cx Z W own nm code maxL ret) {x : Int64} {y : Int32} {v : Int64} (hd : decode code pc = .ok (.lshl, 1)) (hv : x <<< (y &&& 0x3f).toInt64 = v) (hp : pc + 1 = pc')
    (r : Run l R Z W Q h k n (mkF W.m pc' Ls (.long v :: st))) : Run l R Z W Q h k n (mkF W.m pc Ls (.int y :: .long x :: st)) := by
  subst hp
  exact Run.one (fun T locs X _ t g => XS.lshl X.here C.hx rfl (C.hb hd) rfl (hv ▸ g)) r
theorem lshr (C : Cx Z W own nm code maxL ret) {x : Int64} {y : Int32} {v : Int64} (hd : decode code pc = .ok (.lshr, 1)) (hv : x >>> (y &&& 0x3f).toInt64 = v) (hp : pc + 1 = pc')
    (r : Run l R Z W Q h k n (mkF W.m pc' Ls (.long v :: st))) : Run l R Z W Q h k n (mkF W.m pc Ls (.int y :: .long x :: st)) := by
  subst hp
  exact Run.one (fun T locs X _ t g => XS.lshr X.here C.hx rfl (C.hb hd) rfl (hv ▸ g)) r
theorem lushr (C : Cx Z W own nm code maxL ret) {x : Int64} {y : Int32} {v : Int64} (hd : decode code pc = .ok (.lushr, 1)) (hv : (x.toUInt64 >>> (y &&& 0x3f).toInt64.toUInt64).toInt64 = v) (hp : pc + 1 = pc')
    (r : Run l R Z W Q h k n (mkF W.m pc' Ls (.long v :: st))) : Run l R Z W Q h k n (mkF W.m pc Ls (.int y :: .long x :: st)) := by
  subst hp
  exact Run.one (fun T locs X _ t g => XS.lushr X.here C.hx rfl (C.hb hd) rfl (hv ▸ g)) r
theorem i2l (C : Cx Z W own nm code maxL ret) {x : Int32} {v : Int64} (hd : decode code pc = .ok (.i2l, 1)) (hv : x.toInt64 = v) (hp : pc + 1 = pc')
    (r : Run l R Z W Q h k n (mkF W.m pc' Ls (.long v :: st))) : Run l R Z W Q h k n (mkF W.m pc Ls (.int x :: st)) := by
  subst hp
  exact Run.one (fun T locs X _ t g => XS.i2l X.here C.hx rfl (C.hb hd) rfl (hv ▸ g)) r
theorem l2i (C : Cx Z W own nm code maxL ret) {x : Int64} {v : Int32} (hd : decode code pc = .ok (.l2i, 1)) (hv : x.toInt32 = v) (hp : pc + 1 = pc')
    (r : Run l R Z W Q h k n (mkF W.m pc' Ls (.int v :: st))) : Run l R Z W Q h k n (mkF W.m pc Ls (.long x :: st)) := by
  subst hp
  exact Run.one (fun T locs X _ t g => XS.l2i X.here C.hx rfl (C.hb hd) rfl (hv ▸ g)) r
theorem i2b (C : Cx Z W own nm code maxL ret) {x : Int32} {v : Int32} (hd : decode code pc = .ok (.i2b, 1)) (hv : x.toInt8.toInt32 = v) (hp : pc + 1 = pc')
    (r : Run l R Z W Q h k n (mkF W.m pc' Ls (.int v :: st))) : Run l R Z W Q h k n (mkF W.m pc Ls (.int x :: st)) := by
  subst hp
  exact Run.one (fun T locs X _ t g => XS.i2b X.here C.hx rfl (C.hb hd) rfl (hv ▸ g)) r
theorem i2c (C : Cx Z W own nm code maxL ret) {x : Int32} {v : Int32} (hd : decode code pc = .ok (.i2c, 1)) (hv : x.toUInt32.toUInt16.toUInt32.toInt32 = v) (hp : pc + 1 = pc')
    (r : Run l R Z W Q h k n (mkF W.m pc' Ls (.int v :: st))) : Run l R Z W Q h k n (mkF W.m pc Ls (.int x :: st)) := by
  subst hp
  exact Run.one (fun T locs X _ t g => XS.i2c X.here C.hx rfl (C.hb hd) rfl (hv ▸ g)) r
theorem i2s (C : Cx Z W own nm code maxL ret) {x : Int32} {v : Int32} (hd : decode code pc = .ok (.i2s, 1)) (hv : x.toInt16.toInt32 = v) (hp : pc + 1 = pc')
    (r : Run l R Z W Q h k n (mkF W.m pc' Ls (.int v :: st))) : Run l R Z W Q h k n (mkF W.m pc Ls (.int x :: st)) := by
  subst hp
  exact Run.one (fun T locs X _ t g => XS.i2s X.here C.hx rfl (C.hb hd) rfl (hv ▸ g)) r
theorem lcmp (C : Cx Z W own nm code maxL ret) {x y : Int64} (hd : decode code pc = .ok (.lcmp, 1)) (hp : pc + 1 = pc')
    (r : Run l R Z W Q h k n (mkF W.m pc' Ls (.int (lcmpW x y) :: st))) : Run l R Z W Q h k n (mkF W.m pc Ls (.long y :: .long x :: st)) := by
  subst hp
  exact Run.one (fun T locs X _ t g => XS.lcmp X.here C.hx rfl (C.hb hd) rfl g) r
theorem dup (C : Cx Z W own nm code maxL ret) {v : Value} (hd : decode code pc = .ok (.dup, 1)) (hc : v.category = 1) (hp : pc + 1 = pc')
    (r : Run l R Z W Q h k n (mkF W.m pc' Ls (v :: v :: st))) : Run l R Z W Q h k n (mkF W.m pc Ls (v :: st)) := by
  subst hp
  exact Run.one (fun T locs X _ t g => XS.dup X.here C.hx rfl (C.hb hd) rfl hc g) r
theorem dupX1 (C : Cx Z W own nm code maxL ret) {v w : Value} (hd : decode code pc = .ok (.dup_x1, 1)) (hc : v.category = 1) (hc' : w.category = 1) (hp : pc + 1 = pc')
    (r : Run l R Z W Q h k n (mkF W.m pc' Ls (v :: w :: v :: st))) : Run l R Z W Q h k n (mkF W.m pc Ls (v :: w :: st)) := by
  subst hp
  exact Run.one (fun T locs X _ t g => XS.dupX1 X.here C.hx rfl (C.hb hd) rfl hc hc' g) r
theorem dup2 (C : Cx Z W own nm code maxL ret) {v w : Value} (hd : decode code pc = .ok (.dup2, 1)) (hc : v.category = 1) (hc' : w.category = 1) (hp : pc + 1 = pc')
    (r : Run l R Z W Q h k n (mkF W.m pc' Ls (v :: w :: v :: w :: st))) : Run l R Z W Q h k n (mkF W.m pc Ls (v :: w :: st)) := by
  subst hp
  exact Run.one (fun T locs X _ t g => XT.dup2 X.here C.hx rfl (C.hb hd) rfl hc hc' g) r
theorem pop (C : Cx Z W own nm code maxL ret) {v : Value} (hd : decode code pc = .ok (.pop, 1)) (hc : v.category = 1) (hp : pc + 1 = pc')
    (r : Run l R Z W Q h k n (mkF W.m pc' Ls (st))) : Run l R Z W Q h k n (mkF W.m pc Ls (v :: st)) := by
  subst hp
  exact Run.one (fun T locs X _ t g => XS.pop X.here C.hx rfl (C.hb hd) rfl hc g) r
theorem swap (C : Cx Z W own nm code maxL ret) {v w : Value} (hd : decode code pc = .ok (.swap, 1)) (hc : v.category = 1) (hc' : w.category = 1) (hp : pc + 1 = pc')
    (r : Run l R Z W Q h k n (mkF W.m pc' Ls (w :: v :: st))) : Run l R Z W Q h k n (mkF W.m pc Ls (v :: w :: st)) := by
  subst hp
  exact Run.one (fun T locs X _ t g => XS.swap X.here C.hx rfl (C.hb hd) rfl hc hc' g) r
theorem iinc (C : Cx Z W own nm code maxL ret) {i : Nat} {d : Int} {x v : Int32} {Ls' : Array Slot} (hd : decode code pc = .ok (.iinc i d, 3)) (hl : Ls[i]? = some (.val (.int x))) (hv : x + Int32.ofInt d = v) (hl' : storeLocals Ls i (.int v) = some Ls') (hp : pc + 3 = pc')
    (r : Run l R Z W Q h k n (mkF W.m pc' Ls' st)) : Run l R Z W Q h k n (mkF W.m pc Ls st) := by
  subst hp hv
  exact Run.one (fun T locs X _ t g => XS.iinc X.here C.hx rfl (C.hb hd) hl hl' g) r
theorem goto (C : Cx Z W own nm code maxL ret) {o : Int} (hd : decode code pc = .ok (.goto o, 3)) (ho : 0 ≤ (pc : Int) + o) (hp : ((pc : Int) + o).toNat = pc')
    (r : Run l R Z W Q h k n (mkF W.m pc' Ls st)) : Run l R Z W Q h k n (mkF W.m pc Ls st) :=
  Run.one (fun T locs X _ t g => XS.goto X.here C.hx rfl rfl (C.hb hd) ho hp g) r
theorem icmp_eq (C : Cx Z W own nm code maxL ret) {x y : Int32} {o : Int} {pcT : Nat} (hd : decode code pc = .ok (.if_icmp .eq o, 3)) (ho : 0 ≤ (pc : Int) + o) (hp : ((pc : Int) + o).toNat = pcT) (hp' : pc + 3 = pc')
    (rt : x = y → Run l R Z W Q h k n (mkF W.m pcT Ls st)) (rf : ¬ x = y → Run l R Z W Q h k n (mkF W.m pc' Ls st)) : Run l R Z W Q h k n (mkF W.m pc Ls (.int y :: .int x :: st)) := by
  subst hp'
  by_cases q : x = y
  · exact Run.one (fun T locs X _ t g => XS.icmpYes X.here C.hx rfl rfl (C.hb hd) rfl (teq q).1 ho hp g) (rt q)
  · exact Run.one (fun T locs X _ t g => XS.icmpNo X.here C.hx rfl (C.hb hd) rfl (feq q).1 g) (rf q)
theorem if_eq (C : Cx Z W own nm code maxL ret) {x : Int32} {o : Int} {pcT : Nat} (hd : decode code pc = .ok (.ifCond .eq o, 3)) (ho : 0 ≤ (pc : Int) + o) (hp : ((pc : Int) + o).toNat = pcT) (hp' : pc + 3 = pc')
    (rt : x = (0 : Int32) → Run l R Z W Q h k n (mkF W.m pcT Ls st)) (rf : ¬ x = (0 : Int32) → Run l R Z W Q h k n (mkF W.m pc' Ls st)) : Run l R Z W Q h k n (mkF W.m pc Ls (.int x :: st)) := by
  subst hp'
  by_cases q : x = (0 : Int32)
  · exact Run.one (fun T locs X _ t g => XS.ifYes X.here C.hx rfl rfl (C.hb hd) rfl ((if0 _ _).trans (teq q).1) ho hp g) (rt q)
  · exact Run.one (fun T locs X _ t g => XS.ifNo X.here C.hx rfl (C.hb hd) rfl ((if0 _ _).trans (feq q).1) g) (rf q)
theorem icmp_ne (C : Cx Z W own nm code maxL ret) {x y : Int32} {o : Int} {pcT : Nat} (hd : decode code pc = .ok (.if_icmp .ne o, 3)) (ho : 0 ≤ (pc : Int) + o) (hp : ((pc : Int) + o).toNat = pcT) (hp' : pc + 3 = pc')
    (rt : ¬ x = y → Run l R Z W Q h k n (mkF W.m pcT Ls st)) (rf : x = y → Run l R Z W Q h k n (mkF W.m pc' Ls st)) : Run l R Z W Q h k n (mkF W.m pc Ls (.int y :: .int x :: st)) := by
  subst hp'
  by_cases q : x = y
  · exact Run.one (fun T locs X _ t g => XS.icmpNo X.here C.hx rfl (C.hb hd) rfl (teq q).2 g) (rf q)
  · exact Run.one (fun T locs X _ t g => XS.icmpYes X.here C.hx rfl rfl (C.hb hd) rfl (feq q).2 ho hp g) (rt q)
theorem if_ne (C : Cx Z W own nm code maxL ret) {x : Int32} {o : Int} {pcT : Nat} (hd : decode code pc = .ok (.ifCond .ne o, 3)) (ho : 0 ≤ (pc : Int) + o) (hp : ((pc : Int) + o).toNat = pcT) (hp' : pc + 3 = pc')
    (rt : ¬ x = (0 : Int32) → Run l R Z W Q h k n (mkF W.m pcT Ls st)) (rf : x = (0 : Int32) → Run l R Z W Q h k n (mkF W.m pc' Ls st)) : Run l R Z W Q h k n (mkF W.m pc Ls (.int x :: st)) := by
  subst hp'
  by_cases q : x = (0 : Int32)
  · exact Run.one (fun T locs X _ t g => XS.ifNo X.here C.hx rfl (C.hb hd) rfl ((if0 _ _).trans (teq q).2) g) (rf q)
  · exact Run.one (fun T locs X _ t g => XS.ifYes X.here C.hx rfl rfl (C.hb hd) rfl ((if0 _ _).trans (feq q).2) ho hp g) (rt q)
theorem icmp_lt (C : Cx Z W own nm code maxL ret) {x y : Int32} {o : Int} {pcT : Nat} (hd : decode code pc = .ok (.if_icmp .lt o, 3)) (ho : 0 ≤ (pc : Int) + o) (hp : ((pc : Int) + o).toNat = pcT) (hp' : pc + 3 = pc')
    (rt : x < y → Run l R Z W Q h k n (mkF W.m pcT Ls st)) (rf : ¬ x < y → Run l R Z W Q h k n (mkF W.m pc' Ls st)) : Run l R Z W Q h k n (mkF W.m pc Ls (.int y :: .int x :: st)) := by
  subst hp'
  by_cases q : x < y
  · exact Run.one (fun T locs X _ t g => XS.icmpYes X.here C.hx rfl rfl (C.hb hd) rfl (tlt q).1 ho hp g) (rt q)
  · exact Run.one (fun T locs X _ t g => XS.icmpNo X.here C.hx rfl (C.hb hd) rfl (flt q).1 g) (rf q)
theorem if_lt (C : Cx Z W own nm code maxL ret) {x : Int32} {o : Int} {pcT : Nat} (hd : decode code pc = .ok (.ifCond .lt o, 3)) (ho : 0 ≤ (pc : Int) + o) (hp : ((pc : Int) + o).toNat = pcT) (hp' : pc + 3 = pc')
    (rt : x < (0 : Int32) → Run l R Z W Q h k n (mkF W.m pcT Ls st)) (rf : ¬ x < (0 : Int32) → Run l R Z W Q h k n (mkF W.m pc' Ls st)) : Run l R Z W Q h k n (mkF W.m pc Ls (.int x :: st)) := by
  subst hp'
  by_cases q : x < (0 : Int32)
  · exact Run.one (fun T locs X _ t g => XS.ifYes X.here C.hx rfl rfl (C.hb hd) rfl ((if0 _ _).trans (tlt q).1) ho hp g) (rt q)
  · exact Run.one (fun T locs X _ t g => XS.ifNo X.here C.hx rfl (C.hb hd) rfl ((if0 _ _).trans (flt q).1) g) (rf q)
theorem icmp_ge (C : Cx Z W own nm code maxL ret) {x y : Int32} {o : Int} {pcT : Nat} (hd : decode code pc = .ok (.if_icmp .ge o, 3)) (ho : 0 ≤ (pc : Int) + o) (hp : ((pc : Int) + o).toNat = pcT) (hp' : pc + 3 = pc')
    (rt : ¬ x < y → Run l R Z W Q h k n (mkF W.m pcT Ls st)) (rf : x < y → Run l R Z W Q h k n (mkF W.m pc' Ls st)) : Run l R Z W Q h k n (mkF W.m pc Ls (.int y :: .int x :: st)) := by
  subst hp'
  by_cases q : x < y
  · exact Run.one (fun T locs X _ t g => XS.icmpNo X.here C.hx rfl (C.hb hd) rfl (tlt q).2.1 g) (rf q)
  · exact Run.one (fun T locs X _ t g => XS.icmpYes X.here C.hx rfl rfl (C.hb hd) rfl (flt q).2.1 ho hp g) (rt q)
theorem if_ge (C : Cx Z W own nm code maxL ret) {x : Int32} {o : Int} {pcT : Nat} (hd : decode code pc = .ok (.ifCond .ge o, 3)) (ho : 0 ≤ (pc : Int) + o) (hp : ((pc : Int) + o).toNat = pcT) (hp' : pc + 3 = pc')
    (rt : ¬ x < (0 : Int32) → Run l R Z W Q h k n (mkF W.m pcT Ls st)) (rf : x < (0 : Int32) → Run l R Z W Q h k n (mkF W.m pc' Ls st)) : Run l R Z W Q h k n (mkF W.m pc Ls (.int x :: st)) := by
  subst hp'
  by_cases q : x < (0 : Int32)
  · exact Run.one (fun T locs X _ t g => XS.ifNo X.here C.hx rfl (C.hb hd) rfl ((if0 _ _).trans (tlt q).2.1) g) (rf q)
  · exact Run.one (fun T locs X _ t g => XS.ifYes X.here C.hx rfl rfl (C.hb hd) rfl ((if0 _ _).trans (flt q).2.1) ho hp g) (rt q)
theorem icmp_gt (C : Cx Z W own nm code maxL ret) {x y : Int32} {o : Int} {pcT : Nat} (hd : decode code pc = .ok (.if_icmp .gt o, 3)) (ho : 0 ≤ (pc : Int) + o) (hp : ((pc : Int) + o).toNat = pcT) (hp' : pc + 3 = pc')
    (rt : y < x → Run l R Z W Q h k n (mkF W.m pcT Ls st)) (rf : ¬ y < x → Run l R Z W Q h k n (mkF W.m pc' Ls st)) : Run l R Z W Q h k n (mkF W.m pc Ls (.int y :: .int x :: st)) := by
  subst hp'
  by_cases q : y < x
  · exact Run.one (fun T locs X _ t g => XS.icmpYes X.here C.hx rfl rfl (C.hb hd) rfl (tlt q).2.2.1 ho hp g) (rt q)
  · exact Run.one (fun T locs X _ t g => XS.icmpNo X.here C.hx rfl (C.hb hd) rfl (flt q).2.2.1 g) (rf q)
theorem if_gt (C : Cx Z W own nm code maxL ret) {x : Int32} {o : Int} {pcT : Nat} (hd : decode code pc = .ok (.ifCond .gt o, 3)) (ho : 0 ≤ (pc : Int) + o) (hp : ((pc : Int) + o).toNat = pcT) (hp' : pc + 3 = pc')
    (rt : (0 : Int32) < x → Run l R Z W Q h k n (mkF W.m pcT Ls st)) (rf : ¬ (0 : Int32) < x → Run l R Z W Q h k n (mkF W.m pc' Ls st)) : Run l R Z W Q h k n (mkF W.m pc Ls (.int x :: st)) := by
  subst hp'
  by_cases q : (0 : Int32) < x
  · exact Run.one (fun T locs X _ t g => XS.ifYes X.here C.hx rfl rfl (C.hb hd) rfl ((if0 _ _).trans (tlt q).2.2.1) ho hp g) (rt q)
  · exact Run.one (fun T locs X _ t g => XS.ifNo X.here C.hx rfl (C.hb hd) rfl ((if0 _ _).trans (flt q).2.2.1) g) (rf q)
theorem icmp_le (C : Cx Z W own nm code maxL ret) {x y : Int32} {o : Int} {pcT : Nat} (hd : decode code pc = .ok (.if_icmp .le o, 3)) (ho : 0 ≤ (pc : Int) + o) (hp : ((pc : Int) + o).toNat = pcT) (hp' : pc + 3 = pc')
    (rt : ¬ y < x → Run l R Z W Q h k n (mkF W.m pcT Ls st)) (rf : y < x → Run l R Z W Q h k n (mkF W.m pc' Ls st)) : Run l R Z W Q h k n (mkF W.m pc Ls (.int y :: .int x :: st)) := by
  subst hp'
  by_cases q : y < x
  · exact Run.one (fun T locs X _ t g => XS.icmpNo X.here C.hx rfl (C.hb hd) rfl (tlt q).2.2.2 g) (rf q)
  · exact Run.one (fun T locs X _ t g => XS.icmpYes X.here C.hx rfl rfl (C.hb hd) rfl (flt q).2.2.2 ho hp g) (rt q)
theorem if_le (C : Cx Z W own nm code maxL ret) {x : Int32} {o : Int} {pcT : Nat} (hd : decode code pc = .ok (.ifCond .le o, 3)) (ho : 0 ≤ (pc : Int) + o) (hp : ((pc : Int) + o).toNat = pcT) (hp' : pc + 3 = pc')
    (rt : ¬ (0 : Int32) < x → Run l R Z W Q h k n (mkF W.m pcT Ls st)) (rf : (0 : Int32) < x → Run l R Z W Q h k n (mkF W.m pc' Ls st)) : Run l R Z W Q h k n (mkF W.m pc Ls (.int x :: st)) := by
  subst hp'
  by_cases q : (0 : Int32) < x
  · exact Run.one (fun T locs X _ t g => XS.ifNo X.here C.hx rfl (C.hb hd) rfl ((if0 _ _).trans (tlt q).2.2.2) g) (rf q)
  · exact Run.one (fun T locs X _ t g => XS.ifYes X.here C.hx rfl rfl (C.hb hd) rfl ((if0 _ _).trans (flt q).2.2.2) ho hp g) (rt q)
theorem ifnullY (C : Cx Z W own nm code maxL ret) {o : Int} (hd : decode code pc = .ok (.ifnull o, 3)) (ho : 0 ≤ (pc : Int) + o) (hp : ((pc : Int) + o).toNat = pc') (r : Run l R Z W Q h k n (mkF W.m pc' Ls st)) : Run l R Z W Q h k n (mkF W.m pc Ls (.null :: st)) :=
  Run.one (fun T locs X _ t g => XS.ifnullYes X.here C.hx rfl rfl (C.hb hd) rfl ho hp g) r
theorem ifnullN (C : Cx Z W own nm code maxL ret) {o : Int} {b : Addr} (hd : decode code pc = .ok (.ifnull o, 3)) (hp : pc + 3 = pc') (r : Run l R Z W Q h k n (mkF W.m pc' Ls st)) : Run l R Z W Q h k n (mkF W.m pc Ls (.ref b :: st)) := by
  subst hp
  exact Run.one (fun T locs X _ t g => XS.ifnullNo X.here C.hx rfl (C.hb hd) rfl g) r
theorem ifnonnullY (C : Cx Z W own nm code maxL ret) {o : Int} {b : Addr} (hd : decode code pc = .ok (.ifnonnull o, 3)) (ho : 0 ≤ (pc : Int) + o) (hp : ((pc : Int) + o).toNat = pc') (r : Run l R Z W Q h k n (mkF W.m pc' Ls st)) : Run l R Z W Q h k n (mkF W.m pc Ls (.ref b :: st)) :=
  Run.one (fun T locs X _ t g => XS.ifnonnullYes X.here C.hx rfl rfl (C.hb hd) rfl ho hp g) r
theorem ifnonnullN (C : Cx Z W own nm code maxL ret) {o : Int} (hd : decode code pc = .ok (.ifnonnull o, 3)) (hp : pc + 3 = pc') (r : Run l R Z W Q h k n (mkF W.m pc' Ls st)) : Run l R Z W Q h k n (mkF W.m pc Ls (.null :: st)) := by
  subst hp
  exact Run.one (fun T locs X _ t g => XS.ifnonnullNo X.here C.hx rfl (C.hb hd) rfl g) r
theorem acmp_eq (C : Cx Z W own nm code maxL ret) {o : Int} {x y : Value} {pcT : Nat} (hd : decode code pc = .ok (.if_acmp .eq o, 3)) (hx' : x.isRef = true) (hy' : y.isRef = true) (ho : 0 ≤ (pc : Int) + o) (hp : ((pc : Int) + o).toNat = pcT) (hp' : pc + 3 = pc')
    (rt : x = y → Run l R Z W Q h k n (mkF W.m pcT Ls st)) (rf : ¬ x = y → Run l R Z W Q h k n (mkF W.m pc' Ls st)) : Run l R Z W Q h k n (mkF W.m pc Ls (y :: x :: st)) := by
  subst hp'
  by_cases q : x = y
  · exact Run.one (fun T locs X _ t g => XT.acmpYes X.here C.hx rfl rfl (C.hb hd) rfl hx' hy' (XT.aa_eq_t q) ho hp g) (rt q)
  · exact Run.one (fun T locs X _ t g => XT.acmpNo X.here C.hx rfl (C.hb hd) rfl hx' hy' (XT.aa_eq_f q) g) (rf q)
theorem acmp_ne (C : Cx Z W own nm code maxL ret) {o : Int} {x y : Value} {pcT : Nat} (hd : decode code pc = .ok (.if_acmp .ne o, 3)) (hx' : x.isRef = true) (hy' : y.isRef = true) (ho : 0 ≤ (pc : Int) + o) (hp : ((pc : Int) + o).toNat = pcT) (hp' : pc + 3 = pc')
    (rt : ¬ x = y → Run l R Z W Q h k n (mkF W.m pcT Ls st)) (rf : x = y → Run l R Z W Q h k n (mkF W.m pc' Ls st)) : Run l R Z W Q h k n (mkF W.m pc Ls (y :: x :: st)) := by
  subst hp'
  by_cases q : x = y
  · exact Run.one (fun T locs X _ t g => XT.acmpNo X.here C.hx rfl (C.hb hd) rfl hx' hy' (XT.aa_ne_f q) g) (rf q)
  · exact Run.one (fun T locs X _ t g => XT.acmpYes X.here C.hx rfl rfl (C.hb hd) rfl hx' hy' (XT.aa_ne_t q) ho hp g) (rt q)
theorem tswIn (C : Cx Z W own nm code maxL ret) {d lo hi o : Int} {offs : Array Int} {ln : Nat} {i : Int32} (hd : decode code pc = .ok (.tableswitch d lo hi offs, ln)) (hin : ¬ (i.toInt < lo ∨ i.toInt > hi)) (ho : offs[(i.toInt - lo).toNat]? = some o) (h0 : 0 ≤ (pc : Int) + o) (hp : ((pc : Int) + o).toNat = pc')
    (r : Run l R Z W Q h k n (mkF W.m pc' Ls st)) : Run l R Z W Q h k n (mkF W.m pc Ls (.int i :: st)) :=
  Run.one (fun T locs X _ t g => XS.tswIn X.here C.hx rfl rfl (C.hb hd) rfl hin ho h0 hp g) r
theorem ldcI (C : Cx Z W own nm code maxL ret) {ix : Nat} {v : Int32} (hd : decode code pc = .ok (.ldc ix, 2)) (w : (Cond.constant own ix v).before a0 Z = true) (hp : pc + 2 = pc') (r : Run l R Z W Q h k n (mkF W.m pc' Ls (.int v :: st))) : Run l R Z W Q h k n (mkF W.m pc Ls st) := by
  subst hp
  exact Run.one (fun T locs X _ t g => X.ldcInt C.hx C.ow (mvT C.hZ w) (g := mkF W.m pc Ls st) rfl (C.hb hd) t g) r
theorem ldc2J (C : Cx Z W own nm code maxL ret) {ix : Nat} {v : Int64} (hd : decode code pc = .ok (.ldc2_w ix, 3)) (w : (Cond.constantLong own ix v).before a0 Z = true) (hp : pc + 3 = pc') (r : Run l R Z W Q h k n (mkF W.m pc' Ls (.long v :: st))) : Run l R Z W Q h k n (mkF W.m pc Ls st) := by
  subst hp
  exact Run.one (fun T locs X _ t g => X.ldc2Long C.hx C.ow (mvT C.hZ w) (g := mkF W.m pc Ls st) rfl (C.hb hd) t g) r
theorem Run.via {g g' : JFrame} (f : ∀ T locs, Std l R W T locs k n → T.heap = h → ∃ T', Std l R W T' locs k n ∧ T'.heap = h ∧ ∀ t, Steps W.p.tables W.e W.b (T'.setTop g') t → Steps W.p.tables W.e W.b (T.setTop g) t) (r : Run l R Z W Q h k n g') : Run l R Z W Q h k n g :=
  fun T locs X eT N O => by
    obtain ⟨T', X', e', s'⟩ := f T locs X eT
    exact Go.step s' (r T' locs X' e' N O)
theorem getF (C : Cx Z W own nm code maxL ret) {R0 O nmF d : String} {ix : Nat} (hd : decode code pc = .ok (.getfield ix, 3)) (w : (Cond.fieldLink own ix R0 nmF d).before a0 Z = true) (via : Via Z R0 O nmF d) {a : Addr} {v : Value} (F : Fld Z h a O nmF d v) (hp : pc + 3 = pc')
    (r : Run l R Z W Q h k n (mkF W.m pc' Ls (v :: st))) : Run l R Z W Q h k n (mkF W.m pc Ls (.ref a :: st)) := by
  subst hp
  exact Run.via (fun T locs X eT => RoadKit.getF X C.hx C.hZ C.ow (host := "") (Or.inl w) via eT F (g := mkF W.m pc Ls (.ref a :: st)) rfl rfl (C.hb hd)) r
theorem getFN (C : Cx Z W own nm code maxL ret) {R0 O nmF d host : String} {ix : Nat} (hd : decode code pc = .ok (.getfield ix, 3)) (w : (Cond.fieldLinkNest own ix R0 nmF d host).before a0 Z = true) (via : Via Z R0 O nmF d) {a : Addr} {v : Value} (F : Fld Z h a O nmF d v) (hp : pc + 3 = pc')
    (r : Run l R Z W Q h k n (mkF W.m pc' Ls (v :: st))) : Run l R Z W Q h k n (mkF W.m pc Ls (.ref a :: st)) := by
  subst hp
  exact Run.via (fun T locs X eT => RoadKit.getF X C.hx C.hZ C.ow (Or.inr w) via eT F (g := mkF W.m pc Ls (.ref a :: st)) rfl rfl (C.hb hd)) r
theorem getS (C : Cx Z W own nm code maxL ret) {R0 O nmF d : String} {ix : Nat} (hd : decode code pc = .ok (.getstatic ix, 3)) (w : (Cond.fieldLink own ix R0 nmF d).before a0 Z = true) (via : Via Z R0 O nmF d) {v : Value} (F : Sta Z h O nmF d v) (hp : pc + 3 = pc')
    (r : Run l R Z W Q h k n (mkF W.m pc' Ls (v :: st))) : Run l R Z W Q h k n (mkF W.m pc Ls st) := by
  subst hp
  exact Run.via (fun T locs X eT => getS2 X C.hx C.hZ C.ow (host := "") (Or.inl w) via eT F (g := mkF W.m pc Ls st) rfl (C.hb hd)) r
theorem getSN (C : Cx Z W own nm code maxL ret) {R0 O nmF d host : String} {ix : Nat} (hd : decode code pc = .ok (.getstatic ix, 3)) (w : (Cond.fieldLinkNest own ix R0 nmF d host).before a0 Z = true) (via : Via Z R0 O nmF d) {v : Value} (F : Sta Z h O nmF d v) (hp : pc + 3 = pc')
    (r : Run l R Z W Q h k n (mkF W.m pc' Ls (v :: st))) : Run l R Z W Q h k n (mkF W.m pc Ls st) := by
  subst hp
  exact Run.via (fun T locs X eT => getS2 X C.hx C.hZ C.ow (Or.inr w) via eT F (g := mkF W.m pc Ls st) rfl (C.hb hd)) r
theorem castY (C : Cx Z W own nm code maxL ret) {K : String} {ix : Nat} (hd : decode code pc = .ok (.checkcast ix, 3)) (w : (Cond.classLink own ix K).before a0 Z = true) {a : Addr} (F : Ins Z h a K true) (hp : pc + 3 = pc')
    (r : Run l R Z W Q h k n (mkF W.m pc' Ls (.ref a :: st))) : Run l R Z W Q h k n (mkF W.m pc Ls (.ref a :: st)) := by
  subst hp
  exact Run.via (fun T locs X eT => RoadKit.castY X C.hx C.hZ C.ow w eT F (g := mkF W.m pc Ls (.ref a :: st)) rfl rfl (C.hb hd)) r
theorem instY (C : Cx Z W own nm code maxL ret) {K : String} {ix : Nat} (hd : decode code pc = .ok (.instanceof ix, 3)) (w : (Cond.classLink own ix K).before a0 Z = true) {a : Addr} (F : Ins Z h a K true) (hp : pc + 3 = pc')
    (r : Run l R Z W Q h k n (mkF W.m pc' Ls (.int 1 :: st))) : Run l R Z W Q h k n (mkF W.m pc Ls (.ref a :: st)) := by
  subst hp
  exact Run.via (fun T locs X eT => RoadKit.instY X C.hx C.hZ C.ow w eT F (g := mkF W.m pc Ls (.ref a :: st)) rfl rfl (C.hb hd)) r
theorem instNull (C : Cx Z W own nm code maxL ret) {ix : Nat} (hd : decode code pc = .ok (.instanceof ix, 3)) (hp : pc + 3 = pc')
    (r : Run l R Z W Q h k n (mkF W.m pc' Ls (.int 0 :: st))) : Run l R Z W Q h k n (mkF W.m pc Ls (.null :: st)) := by
  subst hp
  exact Run.one (fun T locs X eT t g => X.instanceofNull C.hx (g := mkF W.m pc Ls (.null :: st)) rfl rfl (C.hb hd) t g) r
theorem castNull (C : Cx Z W own nm code maxL ret) {ix : Nat} (hd : decode code pc = .ok (.checkcast ix, 3)) (hp : pc + 3 = pc')
    (r : Run l R Z W Q h k n (mkF W.m pc' Ls (.null :: st))) : Run l R Z W Q h k n (mkF W.m pc Ls (.null :: st)) := by
  subst hp
  exact Run.one (fun T locs X eT t g => X.checkcastNull C.hx (g := mkF W.m pc Ls (.null :: st)) rfl rfl (C.hb hd) t g) r
/-- an array as a list: its kind, its length, its elements -/
def Ary (Z : State) (h : Heap) (a : Addr) (ty : FieldType) (vs : List Value) : Prop := ∃ c : Cell, Arr Z h a c ty ∧ c.slots = vs.toArray ∧ vs.length < 2 ^ 31 ∧ ∀ v ∈ vs, fits ty v = true
theorem Ary.lt {a : Addr} {ty : FieldType} {vs : List Value} (F : Ary Z h a ty vs) : a < h.size := by obtain ⟨c, A, -⟩ := F; exact A.lt
theorem Ary.ext {h' : Heap} {a : Addr} {ty : FieldType} {vs : List Value} (F : Ary Z h a ty vs) (E : Ext h h') : Ary Z h' a ty vs := by obtain ⟨c, A, r⟩ := F; exact ⟨c, A.ext E, r⟩
theorem Ary.other {h' : Heap} {a b : Addr} {sl : Nat} {v : Value} {ty : FieldType} {vs : List Value} (F : Ary Z h b ty vs) (X : Wr h h' a sl v) (q : b ≠ a) : Ary Z h' b ty vs := by obtain ⟨c, A, r⟩ := F; exact ⟨c, A.other X q, r⟩
theorem Ary.keep {h' : Heap} {a : Addr} {ws : List Addr} {ty : FieldType} {vs : List Value} (F : Ary Z h a ty vs) (K : Keep h h' ws) (q : a ∉ ws) : Ary Z h' a ty vs := by obtain ⟨c, A, r⟩ := F; exact ⟨c, ⟨K.2.1 a c A.1 q, A.2⟩, r⟩
theorem Ary.set {h' : Heap} {a : Addr} {i : Nat} {v : Value} {ty : FieldType} {vs : List Value} (F : Ary Z h a ty vs) (X : Wr h h' a i v) (hv : fits ty v = true) : Ary Z h' a ty (vs.set i v) := by
  obtain ⟨c, A, e, q, f⟩ := F
  refine ⟨_, A.same X, ?_, by simpa using q, fun w hw => ?_⟩
  · show (c.slots.setIfInBounds i v) = _
    rw [e]; simp
  · rcases List.mem_or_eq_of_mem_set hw with hw | rfl
    · exact f w hw
    · exact hv
theorem Ary.inb {a : Addr} {ty : FieldType} {vs : List Value} {c : Cell} {j : Int32} (e : c.slots = vs.toArray) (h0 : ¬ j < 0) (h1 : j.toNatClampNeg < vs.length) : ¬ (j < 0 ∨ c.slots.size ≤ j.toNatClampNeg) := by
  rw [e]
  rintro (q | q)
  · exact h0 q
  · simp at q; omega
theorem Ary.arv {a : Addr} {ty : FieldType} {vs : List Value} {d : Value} (F : Ary Z h a ty vs) : ∃ kc, Arv Z h a kc ty (Int32.ofNat vs.length) vs d := by
  obtain ⟨c, A, e, q, f⟩ := F
  have hn : (Int32.ofNat vs.length).toNatClampNeg = vs.length := by
    rw [Int32.toNatClampNeg_ofNat_of_lt q]
  refine ⟨c.cls, c, A, rfl, by rw [hn, e]; simp, ?_, fun i hi => ?_, fun i hi => ?_⟩
  · rw [Int32.lt_iff_toInt_lt, Int32.toInt_ofNat_of_lt q]; simp
  · have hi' : i < vs.length := by rw [e] at hi; simpa using hi
    rw [e]; simp [List.getD_eq_getElem?_getD, hi']
  · have hi' : i < vs.length := by rw [e] at hi; simpa using hi
    have := f _ (List.getElem_mem hi')
    simpa [List.getD_eq_getElem?_getD, hi'] using this
theorem Ary.of_arv {a : Addr} {kc : ClassId} {ty : FieldType} {z : Int32} {vs : List Value} {d : Value} (F : Arv Z h a kc ty z vs d) (hz : z.toNatClampNeg = vs.length) : Ary Z h a ty vs := by
  obtain ⟨c, A, -, S, z0, H, G⟩ := F
  have hs : c.slots.size = vs.length := S.trans hz
  refine ⟨c, A, ?_, by rw [← hz]; exact (back32 z0).2, fun v hv => ?_⟩
  · apply Array.ext
    · simpa using hs
    · intro i h1 h2
      have q := H i h1
      rw [Array.getElem?_eq_getElem h1] at q
      have h3 : i < vs.length := by omega
      simpa [List.getD_eq_getElem?_getD, h3] using q
  · obtain ⟨i, hi, rfl⟩ := List.getElem_of_mem hv
    have := G i (by omega)
    simpa [List.getD_eq_getElem?_getD, hi] using this
theorem alen (C : Cx Z W own nm code maxL ret) (hd : decode code pc = .ok (.arraylength, 1)) {a : Addr} {ty : FieldType} {vs : List Value} {z : Int32} (F : Ary Z h a ty vs) (hz : Int32.ofNat vs.length = z) (hp : pc + 1 = pc')
    (r : Run l R Z W Q h k n (mkF W.m pc' Ls (.int z :: st))) : Run l R Z W Q h k n (mkF W.m pc Ls (.ref a :: st)) := by
  subst hp hz
  obtain ⟨c, A, e, -⟩ := F
  have e2 : c.slots.size.toInt32 = Int32.ofNat vs.length := by rw [e]; simp
  exact Run.one (fun T locs X eT t g => X.arraylength C.hx (by rw [eT]; exact A.1) (State.isArrayOf_alike C.hZ.alike A.2.1) (g := mkF W.m pc Ls (.ref a :: st)) rfl rfl (C.hb hd) t (by rw [e2]; exact g)) r
theorem caload (C : Cx Z W own nm code maxL ret) (hd : decode code pc = .ok (.caload, 1)) {a : Addr} {vs : List Value} {j : Int32} {v : Value} (F : Ary Z h a .char vs) (h0 : ¬ j < 0) (hv : vs[j.toNatClampNeg]? = some v) (hp : pc + 1 = pc')
    (r : Run l R Z W Q h k n (mkF W.m pc' Ls (v :: st))) : Run l R Z W Q h k n (mkF W.m pc Ls (.int j :: .ref a :: st)) := by
  subst hp
  obtain ⟨c, A, e, -⟩ := F
  have h1 : j.toNatClampNeg < vs.length := (List.getElem?_eq_some_iff.mp hv).1
  exact Run.one (fun T locs X eT t g => X.caload C.hx (by rw [eT]; exact A.1) (State.isArrayOf_alike C.hZ.alike A.2.1) A.2.2 (Ary.inb (a := a) (ty := .char) e h0 h1) (by rw [e]; simpa using hv) (g := mkF W.m pc Ls (.int j :: .ref a :: st)) rfl rfl (C.hb hd) t g) r
theorem iaload (C : Cx Z W own nm code maxL ret) (hd : decode code pc = .ok (.iaload, 1)) {a : Addr} {vs : List Value} {j : Int32} {v : Value} (F : Ary Z h a .int vs) (h0 : ¬ j < 0) (hv : vs[j.toNatClampNeg]? = some v) (hp : pc + 1 = pc')
    (r : Run l R Z W Q h k n (mkF W.m pc' Ls (v :: st))) : Run l R Z W Q h k n (mkF W.m pc Ls (.int j :: .ref a :: st)) := by
  subst hp
  obtain ⟨c, A, e, -⟩ := F
  have h1 : j.toNatClampNeg < vs.length := (List.getElem?_eq_some_iff.mp hv).1
  exact Run.one (fun T locs X eT t g => X.iaload C.hx (by rw [eT]; exact A.1) (State.isArrayOf_alike C.hZ.alike A.2.1) A.2.2 (Ary.inb (a := a) (ty := .int) e h0 h1) (by rw [e]; simpa using hv) (g := mkF W.m pc Ls (.int j :: .ref a :: st)) rfl rfl (C.hb hd) t g) r
theorem baload (C : Cx Z W own nm code maxL ret) (hd : decode code pc = .ok (.baload, 1)) {a : Addr} {vs : List Value} {j : Int32} {v : Value} (F : Ary Z h a .byte vs) (h0 : ¬ j < 0) (hv : vs[j.toNatClampNeg]? = some v) (hp : pc + 1 = pc')
    (r : Run l R Z W Q h k n (mkF W.m pc' Ls (v :: st))) : Run l R Z W Q h k n (mkF W.m pc Ls (.int j :: .ref a :: st)) := by
  subst hp
  obtain ⟨c, A, e, -⟩ := F
  have h1 : j.toNatClampNeg < vs.length := (List.getElem?_eq_some_iff.mp hv).1
  exact Run.one (fun T locs X eT t g => X.baloadBytes C.hx (by rw [eT]; exact A.1) (State.isArrayOf_alike C.hZ.alike A.2.1) A.2.2 (Ary.inb (a := a) (ty := .byte) e h0 h1) (by rw [e]; simpa using hv) (g := mkF W.m pc Ls (.int j :: .ref a :: st)) rfl rfl (C.hb hd) t g) r
theorem saload (C : Cx Z W own nm code maxL ret) (hd : decode code pc = .ok (.saload, 1)) {a : Addr} {vs : List Value} {j : Int32} {v : Value} (F : Ary Z h a .short vs) (h0 : ¬ j < 0) (hv : vs[j.toNatClampNeg]? = some v) (hp : pc + 1 = pc')
    (r : Run l R Z W Q h k n (mkF W.m pc' Ls (v :: st))) : Run l R Z W Q h k n (mkF W.m pc Ls (.int j :: .ref a :: st)) := by
  subst hp
  obtain ⟨c, A, e, -⟩ := F
  have h1 : j.toNatClampNeg < vs.length := (List.getElem?_eq_some_iff.mp hv).1
  exact Run.one (fun T locs X eT t g => X.saload C.hx (by rw [eT]; exact A.1) (State.isArrayOf_alike C.hZ.alike A.2.1) A.2.2 (Ary.inb (a := a) (ty := .short) e h0 h1) (by rw [e]; simpa using hv) (g := mkF W.m pc Ls (.int j :: .ref a :: st)) rfl rfl (C.hb hd) t g) r
theorem laload (C : Cx Z W own nm code maxL ret) (hd : decode code pc = .ok (.laload, 1)) {a : Addr} {vs : List Value} {j : Int32} {v : Value} (F : Ary Z h a .long vs) (h0 : ¬ j < 0) (hv : vs[j.toNatClampNeg]? = some v) (hp : pc + 1 = pc')
    (r : Run l R Z W Q h k n (mkF W.m pc' Ls (v :: st))) : Run l R Z W Q h k n (mkF W.m pc Ls (.int j :: .ref a :: st)) := by
  subst hp
  obtain ⟨c, A, e, -⟩ := F
  have h1 : j.toNatClampNeg < vs.length := (List.getElem?_eq_some_iff.mp hv).1
  exact Run.one (fun T locs X eT t g => X.laload C.hx (by rw [eT]; exact A.1) (State.isArrayOf_alike C.hZ.alike A.2.1) A.2.2 (Ary.inb (a := a) (ty := .long) e h0 h1) (by rw [e]; simpa using hv) (g := mkF W.m pc Ls (.int j :: .ref a :: st)) rfl rfl (C.hb hd) t g) r
theorem aaload (C : Cx Z W own nm code maxL ret) (hd : decode code pc = .ok (.aaload, 1)) {a : Addr} {ty : FieldType} {vs : List Value} {j : Int32} {v : Value} (F : Ary Z h a ty vs) (ht : ty.isReference = true) (h0 : ¬ j < 0) (hv : vs[j.toNatClampNeg]? = some v) (hp : pc + 1 = pc')
    (r : Run l R Z W Q h k n (mkF W.m pc' Ls (v :: st))) : Run l R Z W Q h k n (mkF W.m pc Ls (.int j :: .ref a :: st)) := by
  subst hp
  obtain ⟨c, A, e, -⟩ := F
  have h1 : j.toNatClampNeg < vs.length := (List.getElem?_eq_some_iff.mp hv).1
  exact Run.one (fun T locs X eT t g => X.aaload C.hx (by rw [eT]; exact A.1) (State.isArrayOf_alike C.hZ.alike A.2.1) ht A.2.2 (Ary.inb (a := a) (ty := ty) e h0 h1) (by rw [e]; simpa using hv) (g := mkF W.m pc Ls (.int j :: .ref a :: st)) rfl rfl (C.hb hd) t g) r
theorem Run.wrote {a : Addr} {sl : Nat} {v : Value} {g g' : JFrame} (ha : Z.heap.size ≤ a) (f : ∀ T locs, Std l R W T locs k n → T.heap = h → ∃ T' h', Std l R W T' (locs ++ [⟨a, sl⟩]) k n ∧ T'.heap = h' ∧ Wr h h' a sl v ∧ ∀ t, Steps W.p.tables W.e W.b (T'.setTop g') t → Steps W.p.tables W.e W.b (T.setTop g) t)
    (r : ∀ h', Wr h h' a sl v → Ext Z.heap h' → Run l R Z W Q h' k n g') : Run l R Z W Q h k n g := fun T locs X eT N O => by
  obtain ⟨T', h', X', e', w', s'⟩ := f T locs X eT
  have O' : Ext Z.heap h' := ((old_of O).wr w' ha).2
  exact Go.step s' (r h' w' O' T' _ X' e' (Fr.snoc X' N ha) O')
theorem putF (C : Cx Z W own nm code maxL ret) {R0 O nmF d K : String} {ix kk : Nat} {ty : FieldType} (hd : decode code pc = .ok (.putfield ix, 3)) (w : (Cond.fieldLink own ix R0 nmF d).before a0 Z = true) (via : Via Z R0 O nmF d) {a : Addr} {v old : Value} (F : Fld Z h a O nmF d old) (E : Exa Z h a K)
    (L : (Cond.lays K O nmF d).before a0 Z = true ∨ ((Cond.laysFinal K O nmF d).before a0 Z = true ∧ own = O ∧ nm = "<init>")) (wi : (Cond.instantiable K kk).before a0 Z = true) (hty : parseFieldDescriptor d = some ty) (hn : narrow ty v = v) (hf : fits ty v = true) (ha : Z.heap.size ≤ a) (hp : pc + 3 = pc')
    (r : ∀ h', Wr h h' a (RoadKit.slotOf Z O nmF d) v → Ext Z.heap h' → Run l R Z W Q h' k n (mkF W.m pc' Ls st)) : Run l R Z W Q h k n (mkF W.m pc Ls (v :: .ref a :: st)) := by
  subst hp
  exact Run.wrote ha (fun T locs X eT => RoadKit.putF X C.hx C.hZ C.ow (host := "") (Or.inl w) via eT F E (L.imp id fun q => ⟨q.1, q.2.1, C.nme.trans q.2.2⟩) wi hty hn hf (g := mkF W.m pc Ls (v :: .ref a :: st)) rfl rfl (C.hb hd)) r
theorem castore (C : Cx Z W own nm code maxL ret) (hd : decode code pc = .ok (.castore, 1)) {a : Addr} {vs vs' : List Value} {j x : Int32} (F : Ary Z h a .char vs) (h0 : ¬ j < 0) (h1 : j.toNatClampNeg < vs.length) (hx : nar .char x = x) (hs : vs.set j.toNatClampNeg (.int x) = vs') (ha : Z.heap.size ≤ a) (hp : pc + 1 = pc')
    (r : ∀ h', Wr h h' a j.toNatClampNeg (.int x) → Ary Z h' a .char vs' → Ext Z.heap h' → Run l R Z W Q h' k n (mkF W.m pc' Ls st)) : Run l R Z W Q h k n (mkF W.m pc Ls (.int x :: .int j :: .ref a :: st)) := by
  subst hp hs
  have F' := F
  obtain ⟨c, A, e, -⟩ := F'
  exact Run.wrote ha (fun T locs X eT => by have w0 := RoadKit.stC X C.hx C.hZ eT A (Ary.inb (a := a) (ty := .char) e h0 h1) (g := mkF W.m pc Ls (.int x :: .int j :: .ref a :: st)) rfl rfl (C.hb hd); rw [hx] at w0; exact w0) (fun h' w' O' => r h' w' (F.set w' (hx ▸ fits_nar_char x)) O')
theorem bastore (C : Cx Z W own nm code maxL ret) (hd : decode code pc = .ok (.bastore, 1)) {a : Addr} {vs vs' : List Value} {j x : Int32} (F : Ary Z h a .byte vs) (h0 : ¬ j < 0) (h1 : j.toNatClampNeg < vs.length) (hs : vs.set j.toNatClampNeg (.int (nar .byte x)) = vs') (ha : Z.heap.size ≤ a) (hp : pc + 1 = pc')
    (r : ∀ h', Wr h h' a j.toNatClampNeg (.int (nar .byte x)) → Ary Z h' a .byte vs' → Ext Z.heap h' → Run l R Z W Q h' k n (mkF W.m pc' Ls st)) : Run l R Z W Q h k n (mkF W.m pc Ls (.int x :: .int j :: .ref a :: st)) := by
  subst hp hs
  have F' := F
  obtain ⟨c, A, e, -⟩ := F'
  exact Run.wrote ha (fun T locs X eT => by have w0 := RoadKit.stB X C.hx C.hZ eT A (Ary.inb (a := a) (ty := .byte) e h0 h1) (g := mkF W.m pc Ls (.int x :: .int j :: .ref a :: st)) rfl rfl (C.hb hd); exact w0) (fun h' w' O' => r h' w' (F.set w' (fits_nar_byte x)) O')
theorem iastore (C : Cx Z W own nm code maxL ret) (hd : decode code pc = .ok (.iastore, 1)) {a : Addr} {vs vs' : List Value} {j x : Int32} (F : Ary Z h a .int vs) (h0 : ¬ j < 0) (h1 : j.toNatClampNeg < vs.length) (hs : vs.set j.toNatClampNeg (.int x) = vs') (ha : Z.heap.size ≤ a) (hp : pc + 1 = pc')
    (r : ∀ h', Wr h h' a j.toNatClampNeg (.int x) → Ary Z h' a .int vs' → Ext Z.heap h' → Run l R Z W Q h' k n (mkF W.m pc' Ls st)) : Run l R Z W Q h k n (mkF W.m pc Ls (.int x :: .int j :: .ref a :: st)) := by
  subst hp hs
  have F' := F
  obtain ⟨c, A, e, -⟩ := F'
  exact Run.wrote ha (fun T locs X eT => by have w0 := RoadKit.stI X C.hx C.hZ eT A (Ary.inb (a := a) (ty := .int) e h0 h1) (g := mkF W.m pc Ls (.int x :: .int j :: .ref a :: st)) rfl rfl (C.hb hd); exact w0) (fun h' w' O' => r h' w' (F.set w' rfl) O')
theorem aastore (C : Cx Z W own nm code maxL ret) (hd : decode code pc = .ok (.aastore, 1)) {a : Addr} {ty : FieldType} {vs vs' : List Value} {j : Int32} {v : Value} (F : Ary Z h a ty vs) (h0 : ¬ j < 0) (h1 : j.toNatClampNeg < vs.length) (ht : ty.isReference = true) (So : Sto Z h a v) (hf : fits ty v = true) (hs : vs.set j.toNatClampNeg v = vs') (ha : Z.heap.size ≤ a) (hp : pc + 1 = pc')
    (r : ∀ h', Wr h h' a j.toNatClampNeg v → Ary Z h' a ty vs' → Ext Z.heap h' → Run l R Z W Q h' k n (mkF W.m pc' Ls st)) : Run l R Z W Q h k n (mkF W.m pc Ls (v :: .int j :: .ref a :: st)) := by
  subst hp hs
  have F' := F
  obtain ⟨c, A, e, -⟩ := F'
  exact Run.wrote ha (fun T locs X eT => stR X C.hx C.hZ eT A (Ary.inb (a := a) (ty := ty) e h0 h1) ht So (g := mkF W.m pc Ls (v :: .int j :: .ref a :: st)) rfl rfl (C.hb hd)) (fun h' w' O' => r h' w' (F.set w' hf) O')
/-- what a fresh object holds -/
abbrev Fresh (Z : State) (a0 : Array Value) (h' : Heap) (a : Addr) (K : String) : Prop := ∀ {O nm d : String} {ty : FieldType}, Laid Z a0 K O nm d → parseFieldDescriptor d = some ty → Fld Z h' a O nm d (defaultValue ty)
theorem newO (C : Cx Z W own nm code maxL ret) {K : String} {ix sl k' n' : Nat} (hd : decode code pc = .ok (.new ix, 3)) (w : (Cond.classLink own ix K).before a0 Z = true) (wi : (Cond.instantiable K sl).before a0 Z = true) (wz : (Cond.initialized K).before a0 Z = true) (hc : k + 1 = k') (hl : n + sl = n') (hc' : k' ≤ R.cells) (hl' : n' ≤ R.slots) (hp : pc + 3 = pc')
    (r : ∀ a h', a = h.size → Z.heap.size ≤ a → Ext h h' → Exa Z h' a K → Fresh Z a0 h' a K → Unt h' a → Ext Z.heap h' → Run l R Z W Q h' k' n' (mkF W.m pc' Ls (.ref a :: st))) : Run l R Z W Q h k n (mkF W.m pc Ls st) := by
  subst hp hc hl
  intro T locs X eT N O
  obtain ⟨T', h', X', e', E', A', D', U', s'⟩ := RoadKit.newO X C.hx C.hZ C.ow w wi wz eT (g := mkF W.m pc Ls st) rfl (C.hb hd) hc' hl'
  have O' : Ext Z.heap h' := ((old_of O).ext E').2
  exact Go.step s' (r h.size h' rfl O.1 E' A' D' U' O' T' locs X' e' N O')
theorem newA (C : Cx Z W own nm code maxL ret) {aty : ArrayType} {ty : FieldType} {z : Int32} {k' n' cap : Nat} (hd : decode code pc = .ok (.newarray aty, 2)) (ht : newarray.typeOf aty = ty) (w : (Cond.arrayClass ty).before a0 Z = true) (hz : ¬ z < 0) (hcap : z.toNatClampNeg ≤ cap) (hb : cap * 8 ≤ 536870912) (hc : k + 1 = k') (hl : n + cap = n') (hc' : k' ≤ R.cells) (hl' : n' ≤ R.slots) (hdf : fits ty (defaultValue ty) = true) (hp : pc + 2 = pc')
    (r : ∀ a h', a = h.size → Z.heap.size ≤ a → Ext h h' → Ary Z h' a ty (List.replicate z.toNatClampNeg (defaultValue ty)) → Ext Z.heap h' → Run l R Z W Q h' k' n' (mkF W.m pc' Ls (.ref a :: st))) : Run l R Z W Q h k n (mkF W.m pc Ls (.int z :: st)) := by
  subst hp hc hl ht
  intro T locs X eT N O
  obtain ⟨T', h', cA, X', e', E', A', s'⟩ := newP X C.hx C.hZ w eT (g := mkF W.m pc Ls (.int z :: st)) rfl (C.hb hd) rfl hz hcap hb hc' hl'
  have O' : Ext Z.heap h' := ((old_of O).ext E').2
  have hz2 : z.toNatClampNeg < 2 ^ 31 := (back32 hz).2
  refine Go.step s' (r h.size h' rfl O.1 E' ⟨_, A', ?_, by simpa using hz2, fun v hv => ?_⟩ O' T' locs X' e' N O')
  · show Array.replicate _ _ = _
    simp
  · rw [(List.mem_replicate.mp hv).2]; exact hdf
/-- an array of references to K: its class -/
def RefA (Z : State) (h : Heap) (a : Addr) (K : String) : Prop := ∃ cl : Cell, h[a]? = some cl ∧ Ovr Z cl.cls K
theorem RefA.ext {h' : Heap} {a : Addr} {K : String} (F : RefA Z h a K) (E : Ext h h') : RefA Z h' a K := by
  obtain ⟨cl, h1, r⟩ := F
  exact ⟨cl, E.2 _ _ h1, r⟩
theorem RefA.wr {h' : Heap} {a b : Addr} {K : String} {sl : Nat} {v : Value} (F : RefA Z h a K) (W : Wr h h' b sl v) : RefA Z h' a K := by
  obtain ⟨cl, h1, r⟩ := F
  obtain ⟨d, d1, d2, -⟩ := wr_at W h1
  exact ⟨d, d1, by rw [d2]; exact r⟩
theorem RefA.sto {a y : Addr} {K : String} {ty : FieldType} {vs : List Value} (F : RefA Z h a K) (V : Ary Z h a ty vs) (I : Ins Z h y K true) : Sto Z h a (.ref y) := by
  obtain ⟨cl, h1, r⟩ := F
  obtain ⟨c, A, -⟩ := V
  cases h1.symm.trans A.1
  exact Sto.of A r I
theorem newR (C : Cx Z W own nm code maxL ret) {K ad : String} {z : Int32} {ix k' n' cap : Nat} (hd : decode code pc = .ok (.anewarray ix, 3)) (w1 : (Cond.classLink own ix K).before a0 Z = true) (w2 : (Cond.arrayOver (.object K)).before a0 Z = true) (had : "[" ++ (FieldType.object K).toString = ad) (hz : ¬ z < 0) (hcap : z.toNatClampNeg ≤ cap) (hb : cap * 8 ≤ 536870912) (hc : k + 1 = k') (hl : n + cap = n') (hc' : k' ≤ R.cells) (hl' : n' ≤ R.slots) (hp : pc + 3 = pc')
    (r : ∀ a h', a = h.size → Z.heap.size ≤ a → Ext h h' → Ary Z h' a (.object K) (List.replicate z.toNatClampNeg .null) → Exa Z h' a ad → RefA Z h' a K → Ext Z.heap h' → Run l R Z W Q h' k' n' (mkF W.m pc' Ls (.ref a :: st))) : Run l R Z W Q h k n (mkF W.m pc Ls (.int z :: st)) := by
  subst hp hc hl
  intro T locs X eT N O
  obtain ⟨T', h', cA, X', e', E', A', I', O2, s'⟩ := newRE X C.hx C.hZ C.ow w1 w2 eT (g := mkF W.m pc Ls (.int z :: st)) rfl (C.hb hd) rfl hz hcap hb hc' hl' had
  have O' : Ext Z.heap h' := ((old_of O).ext E').2
  have hz2 : z.toNatClampNeg < 2 ^ 31 := (back32 hz).2
  refine Go.step s' (r h.size h' rfl O.1 E' ⟨_, A', ?_, by simpa using hz2, fun v hv => ?_⟩ I' ⟨_, A'.1, O2⟩ O' T' locs X' e' N O')
  · show Array.replicate _ (defaultValue (.object K)) = _
    rw [show defaultValue (.object K) = Value.null from rfl]
    simp
  · rw [(List.mem_replicate.mp hv).2]; rfl
theorem declOf {y : MethodName} {bytes : ByteArray} {mxL : Nat} {rt : Option FieldType} (w1 : (Cond.instanceMethod y).before a0 Z = true) (w2 : (Cond.code y bytes mxL rt).before a0 Z = true) : (Cond.declares y).before a0 Z = true := by
  obtain ⟨m, meth, h1, h2, h3, -⟩ := Cond.instanceMethod_spec w1
  obtain ⟨meth', c', g1, -, -, -, -, -, -, g2⟩ := Cond.code_spec h1 w2
  cases h2.symm.trans g1
  simp [Cond.before, Cond.holds, Cond.value, h1, h2, h3, g2]
theorem cloneA (C : Cx Z W own nm code maxL ret) {ad : String} {ty : FieldType} {vs : List Value} {ix Wn k' n' : Nat} {a : Addr} (hd : decode code pc = .ok (.invokevirtual ix, 3)) (F : Ary Z h a ty vs) (E : Exa Z h a ad)
    (w1 : (Cond.methodLink own ix ⟨ad, "clone", "()Ljava/lang/Object;"⟩).before a0 Z = true) (w2 : (Cond.sameMethod ad "java/lang/Object" "clone" "()Ljava/lang/Object;").before a0 Z = true) (w3 : (Cond.native ⟨"java/lang/Object", "clone", "()Ljava/lang/Object;"⟩).before a0 Z = true) (w4 : (Cond.instanceMethod ⟨"java/lang/Object", "clone", "()Ljava/lang/Object;"⟩).before a0 Z = true)
    (w5 : (Cond.selects ad ⟨ad, "clone", "()Ljava/lang/Object;"⟩ ⟨"java/lang/Object", "clone", "()Ljava/lang/Object;"⟩).before a0 Z = true) (w6 : (Cond.castable ad "java/lang/Cloneable").before a0 Z = true) (hsz : Ls.size = maxL) (hf : 1 ≤ R.frames) (hW : (st.map fun v => v.category).sum ≤ Wn) (hlo : Wn + 14 ≤ R.locals) (hc : k + 1 = k') (hl : n + vs.length = n') (hc' : k' ≤ R.cells) (hl' : n' ≤ R.slots) (hp : pc + 3 = pc')
    (r : ∀ b h', b = h.size → Z.heap.size ≤ b → Ext h h' → Ary Z h' b ty vs → Exa Z h' b ad → Ext Z.heap h' → Run l R Z W Q h' k' n' (mkF W.m pc' Ls (.ref b :: st))) : Run l R Z W Q h k n (mkF W.m pc Ls (.ref a :: st)) := by
  subst hp hc hl
  intro T locs X eT N O
  obtain ⟨c, A, e, q, f⟩ := F
  have hs : c.slots.size = vs.length := by rw [e]; simp
  obtain ⟨T', h', X', e', E', A', X2, s'⟩ := RoadKit.cloneA X C.hx C.hZ C.ow w1 w2 w3 w4 w5 w6 eT A E (fitC_of A fun i hi v hv => f v (by rw [e] at hv; exact List.mem_of_getElem? (by simpa using hv))) (g := mkF W.m pc Ls (.ref a :: st)) rfl (hsz.trans C.ml.symm) rfl (C.hb hd) hf (W := Wn) (cap := vs.length) (by show 2 * 0 + _ ≤ _; omega) hlo (by omega) hc' hl'
  have O' : Ext Z.heap h' := ((old_of O).ext E').2
  exact Go.step s' (r h.size h' rfl O.1 E' ⟨_, A', e, q, f⟩ X2 O' T' locs X' e' N O')
theorem initO (C : Cx Z W own nm code maxL ret) {ix Wn : Nat} (hd : decode code pc = .ok (.invokespecial ix, 3)) (w1 : (Cond.methodLink own ix Lib.objectInit).before a0 Z = true) (w2 : (Cond.instanceMethod Lib.objectInit).before a0 Z = true) (w3 : (Cond.code Lib.objectInit ⟨#[0xb1]⟩ 1 none).before a0 Z = true) {a : Addr} (hsz : Ls.size = maxL) (hf : 1 ≤ R.frames) (hW : (st.map fun v => v.category).sum ≤ Wn) (hl : Wn + 12 ≤ R.locals) (hp : pc + 3 = pc')
    (r : Run l R Z W Q h k n (mkF W.m pc' Ls st)) : Run l R Z W Q h k n (mkF W.m pc Ls (.ref a :: st)) := by
  subst hp
  exact Run.via (fun T locs X eT => RoadKit.initO X C.hx C.hZ C.ow w1 w2 w3 eT (g := mkF W.m pc Ls (.ref a :: st)) rfl (hsz.trans C.ml.symm) rfl (C.hb hd) hf (W := Wn) (by show 2 * 0 + _ ≤ _; omega) hl) r
/-! ## contracts and calls -/
/-- the method y, called with these arguments at the heap h0, returns with Q -/
def Con (l : Launch) (Z : State) (y : MethodName) (bytes : ByteArray) (maxL : Nat) (ret : Option FieldType) (rm : Room) (as' : Array Value) (h0 : Heap) (Q : Post) : Prop :=
  ∀ ws, MetFree l y (head1 (Jvm.Cond.code y bytes maxL ret :: ws) rm) (fun a U => a = as' ∧ Z.Warmed39 U.vm ∧ U.heap = h0) (fun _ _ _ _ _ => True) (fun _ U o U' => ∃ v L, o = .returned v ∧ (Q v U'.heap ∧ Ext Z.heap U'.heap ∧ Fr Z.heap.size L) ∧ FrameEnd U o U' L rm.cells rm.slots)
theorem Con.intro {y : MethodName} {bytes : ByteArray} {rm : Room} {as' : Array Value} {Ls0 : Array Slot} (hy : plainFor y = true) (O : Ext Z.heap h) (he : ∀ m, entryFrame m as' maxL = mkF m 0 Ls0 [])
    (body : ∀ W : Wd, Cx Z W y.cls y.name bytes maxL ret → Run l rm Z W Q h 0 0 (mkF W.m 0 Ls0 [])) : Con l Z y bytes maxL ret rm as' h Q := by
  intro ws
  refine MetFree.of_bodySF hy hisR ?_
  intro p e s m args below meth c s₁ Bd hml0 hP hK
  obtain ⟨rfl, hZ, hh⟩ := hP
  have e0 : s₁.heap = h := by rw [← hh, Bd.state]; rfl
  have X0 : Stand p l e rm s m args below meth c s₁ [] 0 0 := Stand.of_body Bd
  have r := body (p, e, s, m, args, below, meth, c) ⟨Bd.exec, Bd.bytes, hml0, findClass_of_methodNamed Bd.named, hZ, Bd.returns, (name_of_methodNamed Bd.named Bd.method).1, Bd.notSynchronized⟩ s₁ [] X0 e0 (Fr.nil _) O
  rw [he m]
  exact r
theorem Con.mono {y : MethodName} {bytes : ByteArray} {rm : Room} {as' : Array Value} {Q' : Post} (c : Con l Z y bytes maxL ret rm as' h Q) (f : ∀ v h', Q v h' → Q' v h') : Con l Z y bytes maxL ret rm as' h Q' := by
  intro ws p e ha hc hk s m args below hf happ hP hK
  obtain ⟨n, o, h1, h2, h3, v, L, h4, ⟨h5, h6⟩, h7⟩ := c ws p e ha hc hk s m args below hf happ hP hK
  exact ⟨n, o, h1, h2, h3, v, L, h4, ⟨f _ _ h5, h6⟩, h7⟩
section Calls
variable {y : MethodName} {bytes : ByteArray} {mxL : Nat} {rt : Option FieldType} {rm : Room} {Qc : Post} {argsL : List Value} {as' : Array Value} {ix Wn k' n' kc nc : Nat} {st' : List Value}
/-- a law of the library, or a contract, as a call takes it -/
abbrev Pays (l : Launch) (R : Room) (W : Wd) (y : MethodName) (ln Wn : Nat) (as' : Array Value) (h : Heap) (kc nc : Nat) (Qv : Option Value → Heap → List Loc → Prop) : Prop :=
  Back l R W.p W.e W.b W.s W.a y ln Wn (fun P a => a = as' ∧ P.U.heap = h ∧ P.cells + kc ≤ R.cells ∧ P.slots + nc ≤ R.slots) (fun P _ v B => ∃ L, Qv v B.U.heap L ∧ B.locs = P.locs ++ L ∧ B.cells = P.cells + kc ∧ B.slots = P.slots + nc)
abbrev Clean (Z : State) (Qc : Post) (Qv : Option Value → Heap → List Loc → Prop) : Prop := ∀ v h' L, Qv v h' L → Qc v h' ∧ Ext Z.heap h' ∧ Fr Z.heap.size L
theorem Con.pays (C : Cx Z W own nm code maxL ret) {ln : Nat} (K : Con l Z y bytes mxL rt rm as' h Qc) (w4 : (Cond.code y bytes mxL rt).before a0 Z = true) (wz : (Cond.initialized y.cls).before a0 Z = true) (hf : rm.frames + 1 ≤ R.frames) (hl : Wn + (mxL + 11) + rm.locals ≤ R.locals) :
    Pays l R W y ln Wn as' h rm.cells rm.slots (fun v h' L => Qc v h' ∧ Ext Z.heap h' ∧ Fr Z.heap.size L) := backOf (W := Wn) (Q := fun v h' L => Qc v h' ∧ Ext Z.heap h' ∧ Fr Z.heap.size L) (K []) C.hZ w4 wz hf hl
theorem callS (C : Cx Z W own nm code maxL ret) (hd : decode code pc = .ok (.invokestatic ix, 3)) {Qv : Option Value → Heap → List Loc → Prop} (K : Pays l R W y 3 Wn as' h kc nc Qv) (hQ : Clean Z Qc Qv) (w1 : (Cond.methodLink own ix y).before a0 Z = true) (w2 : (Cond.static y).before a0 Z = true) (w3 : (Cond.initialized y.cls).before a0 Z = true) (w4 : (Cond.code y bytes mxL rt).before a0 Z = true) (hy : y.cls ≠ "java/lang/invoke/MethodHandle" ∧ y.cls ≠ "java/lang/invoke/VarHandle")
    (has : argsL.toArray = as') (hst : argsL.reverse ++ st = st') (hlen : ∀ sig, parseMethodDescriptor y.desc = some sig → argsL.length = sig.parameters.length) (hsz : Ls.size = maxL) (hW : (st.map fun v => v.category).sum ≤ Wn) (hk : k + kc = k') (hn : n + nc = n') (hk' : k' ≤ R.cells) (hn' : n' ≤ R.slots) (hp : pc + 3 = pc')
    (r : ∀ v h', Qc v h' → Ext Z.heap h' → Run l R Z W Q h' k' n' (mkF W.m pc' Ls (v.toList ++ st))) : Run l R Z W Q h k n (mkF W.m pc Ls st') := by
  subst hp hk hn has hst
  intro T locs X eT N O
  obtain ⟨v, vm₁, ⟨T', L', k', n'⟩, -, X', ⟨L, q0, l1, y1, z1⟩, s'⟩ := Jvm.LawKit.callS X C.hx (y := y) C.ow (mvT C.hZ w1) (mvT C.hZ w2) (mvT C.hZ w3) (mvT C.hZ w4) hy K (g := mkF W.m pc Ls (argsL.reverse ++ st)) rfl (hsz.trans C.ml.symm) (argsL := argsL) (rest := st) hlen rfl (by show 2 * 0 + _ ≤ _; omega) (C.hb hd) (fun _ _ => ⟨rfl, eT, hk', hn'⟩)
  dsimp only [Pt.U, Pt.locs, Pt.cells, Pt.slots] at X' l1 y1 z1 s' q0
  subst l1 y1 z1
  obtain ⟨q1, q2, q3⟩ := hQ _ _ _ q0
  exact Go.step s' (r v T'.heap q1 q2 T' _ X' rfl (N.app q3) q2)
theorem callI (C : Cx Z W own nm code maxL ret) (hd : decode code pc = .ok (.invokespecial ix, 3)) {a : Addr} {Qv : Option Value → Heap → List Loc → Prop} (K : Pays l R W y 3 Wn as' h kc nc Qv) (hQ : Clean Z Qc Qv) (hi : y.name = "<init>") (w1 : (Cond.methodLink own ix y).before a0 Z = true) (w2 : (Cond.instanceMethod y).before a0 Z = true) (w4 : (Cond.code y bytes mxL none).before a0 Z = true) (hy : y.cls ≠ "java/lang/invoke/MethodHandle" ∧ y.cls ≠ "java/lang/invoke/VarHandle")
    (has : (Value.ref a :: argsL).toArray = as') (hst : argsL.reverse ++ .ref a :: st = st') (hlen : ∀ sig, parseMethodDescriptor y.desc = some sig → argsL.length = sig.parameters.length) (hsz : Ls.size = maxL) (hW : (st.map fun v => v.category).sum ≤ Wn) (hk : k + kc = k') (hn : n + nc = n') (hk' : k' ≤ R.cells) (hn' : n' ≤ R.slots) (hp : pc + 3 = pc')
    (r : ∀ v h', Qc v h' → Ext Z.heap h' → Run l R Z W Q h' k' n' (mkF W.m pc' Ls (v.toList ++ st))) : Run l R Z W Q h k n (mkF W.m pc Ls st') := by
  subst hp hk hn has hst
  intro T locs X eT N O
  obtain ⟨v, vm₁, ⟨T', L', k', n'⟩, -, X', ⟨L, q0, l1, y1, z1⟩, s'⟩ := X.specialBack C.hx (y := y) hi C.ow (mvT C.hZ w1) (mvT C.hZ w2) (mvT C.hZ w4) hy K (g := mkF W.m pc Ls (argsL.reverse ++ .ref a :: st)) rfl (hsz.trans C.ml.symm) (Steps.refl _) (a := a) (argsL := argsL) (rest := st) hlen rfl (by show 2 * 0 + _ ≤ _; omega) (C.hb hd) (fun _ _ => ⟨rfl, eT, hk', hn'⟩)
  dsimp only [Pt.U, Pt.locs, Pt.cells, Pt.slots] at X' l1 y1 z1 s' q0
  subst l1 y1 z1
  obtain ⟨q1, q2, q3⟩ := hQ _ _ _ q0
  exact Go.step (fun t => s'.trans) (r v T'.heap q1 q2 T' _ X' rfl (N.app q3) q2)
theorem callV (C : Cx Z W own nm code maxL ret) (hd : decode code pc = .ok (.invokevirtual ix, 3)) {y0 : MethodName} {K0 : String} {a : Addr} {Qv : Option Value → Heap → List Loc → Prop} (K : Pays l R W y 3 Wn as' h kc nc Qv) (hQ : Clean Z Qc Qv) (E : Exa Z h a K0) (w1 : (Cond.methodLink own ix y0).before a0 Z = true) (w2 : (Cond.declares y0).before a0 Z = true) (nf : NotFace W.s y0) (w3 : (Cond.selects K0 y0 y).before a0 Z = true) (w5 : (Cond.instanceMethod y).before a0 Z = true) (hy : y0.cls ≠ "java/lang/invoke/MethodHandle" ∧ y0.cls ≠ "java/lang/invoke/VarHandle")
    (has : (Value.ref a :: argsL).toArray = as') (hst : argsL.reverse ++ .ref a :: st = st') (hlen : ∀ sig, parseMethodDescriptor y0.desc = some sig → argsL.length = sig.parameters.length) (hsz : Ls.size = maxL) (hW : (st.map fun v => v.category).sum ≤ Wn) (hk : k + kc = k') (hn : n + nc = n') (hk' : k' ≤ R.cells) (hn' : n' ≤ R.slots) (hp : pc + 3 = pc')
    (r : ∀ v h', Qc v h' → Ext Z.heap h' → Run l R Z W Q h' k' n' (mkF W.m pc' Ls (v.toList ++ st))) : Run l R Z W Q h k n (mkF W.m pc Ls st') := by
  subst hp hk hn has hst
  intro T locs X eT N O
  obtain ⟨cq, kq, qa, qb, qc⟩ := isOf C.hZ eT E
  obtain ⟨v, vm₁, ⟨T', L', k', n'⟩, -, X', ⟨L, q0, l1, y1, z1⟩, s'⟩ := X.virtualBack C.hx (y := y0) (z := y) C.ow (mvT C.hZ w1) (mvT C.hZ w2) nf (mvT C.hZ w3) (mvT C.hZ w5) hy K qa qc (g := mkF W.m pc Ls (argsL.reverse ++ .ref a :: st)) rfl (hsz.trans C.ml.symm) (Steps.refl _) (argsL := argsL) (rest := st) hlen rfl (by show 2 * 0 + _ ≤ _; omega) (C.hb hd) (fun _ _ => ⟨rfl, eT, hk', hn'⟩)
  dsimp only [Pt.U, Pt.locs, Pt.cells, Pt.slots] at X' l1 y1 z1 s' q0
  subst l1 y1 z1
  obtain ⟨q1, q2, q3⟩ := hQ _ _ _ q0
  exact Go.step (fun t => s'.trans) (r v T'.heap q1 q2 T' _ X' rfl (N.app q3) q2)
theorem callVU (C : Cx Z W own nm code maxL ret) (hd : decode code pc = .ok (.invokevirtual ix, 3)) {y0 : MethodName} {K0 owner : String} {a : Addr} {Qv : Option Value → Heap → List Loc → Prop} (K : Pays l R W y 3 Wn as' h kc nc Qv) (hQ : Clean Z Qc Qv) (E : Exa Z h a K0) (w1 : (Cond.methodLink own ix y0).before a0 Z = true) (w0 : (Cond.sameMethod y0.cls owner y0.name y0.desc).before a0 Z = true) (w2 : (Cond.declares ⟨owner, y0.name, y0.desc⟩).before a0 Z = true) (w3 : (Cond.selects K0 y0 y).before a0 Z = true) (w5 : (Cond.instanceMethod y).before a0 Z = true) (hy : owner ≠ "java/lang/invoke/MethodHandle" ∧ owner ≠ "java/lang/invoke/VarHandle")
    (has : (Value.ref a :: argsL).toArray = as') (hst : argsL.reverse ++ .ref a :: st = st') (hlen : ∀ sig, parseMethodDescriptor y0.desc = some sig → argsL.length = sig.parameters.length) (hsz : Ls.size = maxL) (hW : (st.map fun v => v.category).sum ≤ Wn) (hk : k + kc = k') (hn : n + nc = n') (hk' : k' ≤ R.cells) (hn' : n' ≤ R.slots) (hp : pc + 3 = pc')
    (r : ∀ v h', Qc v h' → Ext Z.heap h' → Run l R Z W Q h' k' n' (mkF W.m pc' Ls (v.toList ++ st))) : Run l R Z W Q h k n (mkF W.m pc Ls st') := by
  subst hp hk hn has hst
  intro T locs X eT N O
  obtain ⟨cq, kq, qa, qb, qc⟩ := isOf C.hZ eT E
  obtain ⟨v, vm₁, ⟨T', L', k', n'⟩, -, X', ⟨L, q0, l1, y1, z1⟩, s'⟩ := X.virtualBackUp C.hx (x := y0) (y := y) C.ow (mvT C.hZ w1) (mvT C.hZ w0) (mvT C.hZ w2) hy (mvT C.hZ w3) (mvT C.hZ w5) K qa qc (g := mkF W.m pc Ls (argsL.reverse ++ .ref a :: st)) rfl (hsz.trans C.ml.symm) (Steps.refl _) (argsL := argsL) (rest := st) hlen rfl (by show 2 * 0 + _ ≤ _; omega) (C.hb hd) (fun _ _ => ⟨rfl, eT, hk', hn'⟩)
  dsimp only [Pt.U, Pt.locs, Pt.cells, Pt.slots] at X' l1 y1 z1 s' q0
  subst l1 y1 z1
  obtain ⟨q1, q2, q3⟩ := hQ _ _ _ q0
  exact Go.step (fun t => s'.trans) (r v T'.heap q1 q2 T' _ X' rfl (N.app q3) q2)
/-- invokespecial of a superclass's method -/
theorem callSup (C : Cx Z W own nm code maxL ret) (hd : decode code pc = .ok (.invokespecial ix, 3)) {K0 : String} {a : Addr} {Qv : Option Value → Heap → List Loc → Prop} (K : Pays l R W y 3 Wn as' h kc nc Qv) (hQ : Clean Z Qc Qv) (E : Exa Z h a K0) (w1 : (Cond.methodLink own ix y).before a0 Z = true) (w2 : (Cond.sameMethod y.cls y.cls y.name y.desc).before a0 Z = true) (w3 : (Cond.instanceMethod y).before a0 Z = true) (w4 : (Cond.superclass own y.cls).before a0 Z = true) (wc : (Cond.code y bytes mxL rt).before a0 Z = true) (hi : y.name ≠ "<init>")
    (has : (Value.ref a :: argsL).toArray = as') (hst : argsL.reverse ++ .ref a :: st = st') (hlen : ∀ sig, parseMethodDescriptor y.desc = some sig → argsL.length = sig.parameters.length) (hsz : Ls.size = maxL) (hW : (st.map fun v => v.category).sum ≤ Wn) (hk : k + kc = k') (hn : n + nc = n') (hk' : k' ≤ R.cells) (hn' : n' ≤ R.slots) (hp : pc + 3 = pc')
    (r : ∀ v h', Qc v h' → Ext Z.heap h' → Run l R Z W Q h' k' n' (mkF W.m pc' Ls (v.toList ++ st))) : Run l R Z W Q h k n (mkF W.m pc Ls st') := by
  subst hp hk hn has hst
  intro T locs X eT N O
  obtain ⟨v, vm₁, ⟨T', L', k', n'⟩, -, X', ⟨L, q0, l1, y1, z1⟩, s'⟩ := superBack X C.hx C.hZ (y := y) C.ow w1 w2 w3 w4 hi K eT (Ins.self E) (g := mkF W.m pc Ls (argsL.reverse ++ .ref a :: st)) rfl (hsz.trans C.ml.symm) wc (argsL := argsL) (rest := st) hlen rfl (by show 2 * 0 + _ ≤ _; omega) (C.hb hd) (fun _ _ => ⟨rfl, eT, hk', hn'⟩)
  dsimp only [Pt.U, Pt.locs, Pt.cells, Pt.slots] at X' l1 y1 z1 s' q0
  subst l1 y1 z1
  obtain ⟨q1, q2, q3⟩ := hQ _ _ _ q0
  exact Go.step (fun t => s'.trans) (r v T'.heap q1 q2 T' _ X' rfl (N.app q3) q2)
/-- a class of which one method is selected as its own is no interface -/
theorem sameOf {y g : MethodName} {K : String} (w1 : (Cond.instanceMethod y).before a0 Z = true) (w2 : (Cond.selects K g g).before a0 Z = true) (hc : g.cls = y.cls) (hy : y.cls ≠ "java/lang/invoke/MethodHandle" ∧ y.cls ≠ "java/lang/invoke/VarHandle") : (Cond.sameMethod y.cls y.cls y.name y.desc).before a0 Z = true := by
  obtain ⟨m, meth, h1, -⟩ := Cond.instanceMethod_spec w1
  obtain ⟨-, -, m2, -, -, q3, -, kP, hkP, hkPi⟩ := Cond.selects_spec w2
  have c1 := findClass_of_methodNamed h1
  have c2 := findClass_of_methodNamed q3
  rw [hc, c1] at c2
  have e : m.cls = m2.cls := Option.some.inj c2
  have f := State.methodFound?_of_named h1 hy
  have h2 : Z.methodNamed? ⟨y.cls, y.name, y.desc⟩ = some m := h1
  rw [← e] at hkP
  simp [Cond.before, Cond.holds, Cond.value, c1, f, h2, hkP, hkPi]
theorem nfOf {s : State} {y g : MethodName} {K : String} {args : Array Value} (w2 : (Cond.selects K g g).before args s = true) (hc : g.cls = y.cls) : NotFace s y := fun r0 h0 => by
  obtain ⟨-, -, m2, -, -, q3, -, kP, hkP, hkPi⟩ := Cond.selects_spec w2
  have c1 := findClass_of_methodNamed h0
  have c2 := findClass_of_methodNamed q3
  rw [hc, c1] at c2
  exact ⟨kP, by rw [Option.some.inj c2]; exact hkP, hkPi⟩
theorem clean0 {Qv : Post} (O : Ext Z.heap h) : Clean Z (fun v h' => Qv v h' ∧ h' = h) (fun v h' L => (Qv v h' ∧ h' = h) ∧ L = []) := fun v h' L q => by
  obtain ⟨⟨q1, rfl⟩, rfl⟩ := q
  exact ⟨⟨q1, rfl⟩, O, Fr.nil _⟩
theorem cleanC {Qc : Post} : Clean Z Qc (fun v h' L => Qc v h' ∧ Ext Z.heap h' ∧ Fr Z.heap.size L) := fun v h' L q => q
end Calls
theorem Ext.refl (h : Heap) : Ext h h := ⟨Nat.le_refl _, fun _ _ q => q⟩
theorem Ext.trans {h1 h2 h3 : Heap} (A : Ext h1 h2) (B : Ext h2 h3) : Ext h1 h3 := ⟨Nat.le_trans A.1 B.1, fun a c q => B.2 a c (A.2 a c q)⟩
theorem Ext.wr {Z : State} {h1 h2 h3 : Heap} {a : Addr} {sl : Nat} {v : Value} (A : Ext h1 h2) (B : Wr h2 h3 a sl v) (q : h1.size ≤ a) : Ext h1 h3 := ((old_of (Z := { Z with heap := h1 }) A).wr B q).2
theorem Ext.keep1 {Z : State} {h1 h2 h3 : Heap} {a : Addr} (A : Ext h1 h2) (B : Keep h2 h3 [a]) (q : h1.size ≤ a) : Ext h1 h3 := ((old_of (Z := { Z with heap := h1 }) A).keep B (allS q all0)).2
theorem Ext.keepN {Z : State} {h1 h2 h3 : Heap} {ws : List Addr} (A : Ext h1 h2) (B : Keep h2 h3 ws) (q : ∀ x ∈ ws, h1.size ≤ x) : Ext h1 h3 := ((old_of (Z := { Z with heap := h1 }) A).keep B q).2
theorem Keep.toExt {h1 h2 : Heap} (A : Keep h1 h2 []) : Ext h1 h2 := ⟨A.1, fun a c q => A.2.1 a c q nin0⟩
/-- System.arraycopy of primitive components, between two arrays -/
theorem acopy (C : Cx Z W own nm code maxL ret) {ix Wn : Nat} (hd : decode code pc = .ok (.invokestatic ix, 3)) (w1 : (Cond.methodLink own ix Jvm.Stand.acN).before a0 Z = true) (w2 : (Cond.native Jvm.Stand.acN).before a0 Z = true) (w3 : (Cond.static Jvm.Stand.acN).before a0 Z = true) (w4 : (Cond.initialized "java/lang/System").before a0 Z = true)
    {a b : Addr} {ty : FieldType} {vs vd vd' : List Value} {sp dp nn : Int32} (F : Ary Z h a ty vs) (G : Ary Z h b ty vd) (hty : refKind ty = false) (h1 : ¬ sp < 0) (h2 : ¬ dp < 0) (h3 : ¬ nn < 0) (h4 : sp.toNatClampNeg + nn.toNatClampNeg ≤ vs.length) (h5 : dp.toNatClampNeg + nn.toNatClampNeg ≤ vd.length)
    (hv : vd.take dp.toNatClampNeg ++ (vs.drop sp.toNatClampNeg).take nn.toNatClampNeg ++ vd.drop (dp.toNatClampNeg + nn.toNatClampNeg) = vd') (ha : Z.heap.size ≤ b) (hsz : Ls.size = maxL) (hf : 1 ≤ R.frames) (hW : (st.map fun v => v.category).sum ≤ Wn) (hlo : Wn + 18 ≤ R.locals) (hp : pc + 3 = pc')
    (r : ∀ h', Keep h h' [b] → Ary Z h' b ty vd' → Ext Z.heap h' → Run l R Z W Q h' k n (mkF W.m pc' Ls st)) : Run l R Z W Q h k n (mkF W.m pc Ls (.int nn :: .int dp :: .ref b :: .int sp :: .ref a :: st)) := by
  subst hp
  intro T locs X eT N O
  have l1 : vs.length < 2 ^ 31 := by obtain ⟨_, _, _, q, _⟩ := F; exact q
  have l2 : vd.length < 2 ^ 31 := by obtain ⟨_, _, _, q, _⟩ := G; exact q
  obtain ⟨ka, A⟩ := F.arv (d := .int 0)
  obtain ⟨kb, B⟩ := G.arv (d := .int 0)
  have n1 : (Int32.ofNat vs.length).toNatClampNeg = vs.length := Int32.toNatClampNeg_ofNat_of_lt l1
  have n2 : (Int32.ofNat vd.length).toNatClampNeg = vd.length := Int32.toNatClampNeg_ofNat_of_lt l2
  obtain ⟨T', h', L, X', e', N', K', V', s'⟩ := cpA X C.hx C.hZ C.ow w1 w2 w3 w4 eT A B (Or.inl ⟨rfl, hty⟩) h1 h2 h3 (by rw [n1]; exact h4) (by rw [n2]; exact h5) rfl h5 N ha (g := mkF W.m pc Ls (.int nn :: .int dp :: .ref b :: .int sp :: .ref a :: st)) rfl (hsz.trans C.ml.symm) rfl (C.hb hd) hf (W := Wn) (by show 2 * 0 + _ ≤ _; omega) hlo
  have O' : Ext Z.heap h' := Ext.keep1 (Z := Z) O K' ha
  have eu : ((List.range nn.toNatClampNeg).map fun i => vs.getD (sp.toNatClampNeg + i) (.int 0)) = (vs.drop sp.toNatClampNeg).take nn.toNatClampNeg := by
    apply List.ext_getElem
    · simp; omega
    · intro i q1 q2
      have q3 : sp.toNatClampNeg + i < vs.length := by simp at q1; omega
      simp [List.getD_eq_getElem?_getD, q3]
  rw [eu, hv] at V'
  have hlen : (Int32.ofNat vd.length).toNatClampNeg = vd'.length := by rw [n2, ← hv]; simp; omega
  exact Go.step s' (r h' K' (Ary.of_arv V' hlen) O' T' L X' e' N' O')
/-! ## returns -/
theorem Run.leave (C : Cx Z W own nm code maxL ret) {v : Option Value} {f : JFrame} (hv : ret = none → v = none) (q : Q v h) (hk : k ≤ R.cells) (hn : n ≤ R.slots)
    (s' : ∀ T locs, Std l R W T locs k n → ∀ fs, (∀ (f : JFrame) (acts : List Action), f.method = W.m → f.locked = none → f.entered = [] → (doReturn W.e (T.setTop f) acts v).1 = T.setFrames fs) → Steps W.p.tables W.e W.b (T.setTop f) (T.setFrames fs)) : Run l R Z W Q h k n f := by
  intro T locs X eT N O
  have hlk : W.t.locks = false := C.lk
  obtain ⟨fs, hr, hrun, hended, hW, hsame⟩ := X.leave (v := v) (fun hh => hv (C.rt.symm.trans hh))
  have e2 : (T.setFrames fs).heap = h := eT
  exact ⟨_, _, s' T locs X fs hr, hrun, hended, _, _, rfl, ⟨by rw [e2]; exact q, by rw [e2]; exact O, N⟩, ⟨_, rfl⟩, hW, hsame.mono hk hn⟩
theorem retV (C : Cx Z W own nm code maxL none) (hd : decode code pc = .ok (.return_, 1)) (hk : k ≤ R.cells) (hn : n ≤ R.slots) (q : Q none h) : Run l R Z W Q h k n (mkF W.m pc Ls []) :=
  Run.leave C (fun _ => rfl) q hk hn (fun T locs X fs hr => X.returnOut C.hx C.rt (C.hb hd) hr)
theorem retI (C : Cx Z W own nm code maxL (some .int)) (hd : decode code pc = .ok (.ireturn, 1)) {z : Int32} (hk : k ≤ R.cells) (hn : n ≤ R.slots) (q : Q (some (.int z)) h) : Run l R Z W Q h k n (mkF W.m pc Ls (.int z :: st)) :=
  Run.leave C (fun hh => nomatch hh) q hk hn (fun T locs X fs hr => retOut X C.hx C.rt rfl (Or.inl ⟨rfl, Or.inl rfl, z, rfl⟩) (C.hb hd) hr)
theorem retNar {ty : FieldType} (C : Cx Z W own nm code maxL (some ty)) (ht : ty = .boolean ∨ ty = .byte ∨ ty = .char ∨ ty = .short) (hd : decode code pc = .ok (.ireturn, 1)) {z z' : Int32} (hz : nar ty z = z') (hk : k ≤ R.cells) (hn : n ≤ R.slots) (q : Q (some (.int z')) h) : Run l R Z W Q h k n (mkF W.m pc Ls (.int z :: st)) := by
  subst hz
  exact Run.leave C (fun hh => nomatch hh) q hk hn (fun T locs X fs hr => retN X C.hx C.rt ht (C.hb hd) hr)
theorem retL (C : Cx Z W own nm code maxL (some .long)) (hd : decode code pc = .ok (.lreturn, 1)) {z : Int64} (hk : k ≤ R.cells) (hn : n ≤ R.slots) (q : Q (some (.long z)) h) : Run l R Z W Q h k n (mkF W.m pc Ls (.long z :: st)) :=
  Run.leave C (fun hh => nomatch hh) q hk hn (fun T locs X fs hr => retOut X C.hx C.rt rfl (Or.inr (Or.inl ⟨rfl, rfl, z, rfl⟩)) (C.hb hd) hr)
theorem retA {ty : FieldType} {v : Value} (C : Cx Z W own nm code maxL (some ty)) (ht : ty.isReference = true) (hv : v.isRef = true) (hd : decode code pc = .ok (.areturn, 1)) (hk : k ≤ R.cells) (hn : n ≤ R.slots) (q : Q (some v) h) : Run l R Z W Q h k n (mkF W.m pc Ls (v :: st)) :=
  Run.leave C (fun hh => nomatch hh) q hk hn (fun T locs X fs hr => retOut X C.hx C.rt (by rcases ref_cases hv with rfl | ⟨a, rfl⟩ <;> cases ty <;> simp [FieldType.isReference] at ht <;> rfl) (Or.inr (Or.inr (Or.inr (Or.inr ⟨rfl, ht, hv⟩)))) (C.hb hd) hr)
end Kit
end Wk

def Ws (a0 : Array Value) (Z : State) : Prop := ∀ d ∈ tables_1, d.before a0 Z = true
theorem Wk.nar_i2c {x v : Int32} (h : x.toUInt32.toUInt16.toUInt32.toInt32 = v) : nar .char v = v := by subst h; simp only [nar, UInt32.toUInt32_toInt32, UInt16.toUInt16_toUInt32]
theorem Wk.nar_i2b {x v : Int32} (h : x.toInt8.toInt32 = v) : nar .byte v = v := by
  subst h
  show x.toInt8.toInt32.toInt8.toInt32 = _
  simp
theorem Wk.catR {v : Value} (h : v.isRef = true) : v.category = 1 := by rcases ref_cases h with rfl | ⟨a, rfl⟩ <;> rfl
theorem Wk.narR {v : Value} {t : FieldType} (h : v.isRef = true) (ht : t.isReference = true) : narrow t v = v := by rcases ref_cases h with rfl | ⟨a, rfl⟩ <;> cases t <;> simp [FieldType.isReference] at ht <;> rfl
theorem Wk.fitR {v : Value} {t : FieldType} (h : v.isRef = true) (ht : t.isReference = true) : fits t v = true := by rcases ref_cases h with rfl | ⟨a, rfl⟩ <;> cases t <;> simp [FieldType.isReference] at ht <;> rfl
theorem Wk.rng255 {p v w : Int32} (h : p &&& 255 = v) (h' : v.toUInt32.toUInt16.toUInt32.toInt32 = w) : ¬ w < 0 ∧ ¬ (255 : Int32) < w := by
  subst h h'
  rw [i2c_mask, Int32.lt_iff_toInt_lt, Int32.lt_iff_toInt_lt, c_mask p 255 8 (by decide) (by decide)]
  have : (0 : Int32).toInt = 0 := by decide
  have : (255 : Int32).toInt = 255 := by decide
  omega
theorem Wk.rng255L {p a : Int64} {b w : Int32} (h : p &&& 255 = a) (h1 : a.toInt32 = b) (h' : b.toUInt32.toUInt16.toUInt32.toInt32 = w) : ¬ w < 0 ∧ ¬ (255 : Int32) < w := by
  subst h h1 h'
  have a1 := c_maskL p 255 8 (by decide) (by decide)
  have a2 := c_l2i (p &&& 255)
  have a3 := c_i2c (p &&& 255).toInt32
  have a4 := rng32 (p &&& 255).toInt32
  have e0 : (0 : Int32).toInt = 0 := by decide
  have e1 : (255 : Int32).toInt = 255 := by decide
  rw [Int32.lt_iff_toInt_lt, Int32.lt_iff_toInt_lt]
  omega
theorem Wk.ord {args : Array Value} {s : State} {t : Term} {a : Addr} {C n : String} {k : Int32} (ht : t.eval args s none [] s = some (.ref a)) (h : (Jvm.Cond.eq (.field t C n "I") (.int k)).value args s none s [] = some true) : Fld s s.heap a C n "I" (.int k) := by
  obtain ⟨x, y, e1, e2, -, kin⟩ := cmp_v (Or.inl h)
  cases (Term.int_eval k).symm.trans e2
  obtain ⟨z, rfl⟩ := kin
  cases gotT (Cond.eq_ints e1 e2) h
  exact Fld.start ((fld_at ht).symm.trans e1)
theorem Wk.ordB {args : Array Value} {s : State} {t : Term} {a : Addr} {C n : String} {k : Int32} (ht : t.eval args s none [] s = some (.ref a)) (h : (Jvm.Cond.eq (.field t C n "B") (.int k)).value args s none s [] = some true) : Fld s s.heap a C n "B" (.int k) := by
  obtain ⟨x, y, e1, e2, -, kin⟩ := cmp_v (Or.inl h)
  cases (Term.int_eval k).symm.trans e2
  obtain ⟨z, rfl⟩ := kin
  cases gotT (Cond.eq_ints e1 e2) h
  exact Fld.start ((fld_at ht).symm.trans e1)
theorem Wk.nar_rng {c : Int32} (h : ¬ c < 0 ∧ ¬ (255 : Int32) < c) : nar .char c = c := by
  show c.toUInt32.toUInt16.toUInt32.toInt32 = c
  have h1 := c_i2c c
  obtain ⟨h2, h3⟩ := h
  rw [Int32.lt_iff_toInt_lt] at h2 h3
  have e0 : (0 : Int32).toInt = 0 := by decide
  have e1 : (255 : Int32).toInt = 255 := by decide
  exact Int32.toInt_inj.mp (by omega)
theorem Wk.mask31 {f v : Int32} (h : f &&& 2147483647 = v) : 0 ≤ v.toInt := by
  subst h
  rw [c_mask f 2147483647 31 (by decide) (by decide)]
  omega
theorem Wk.modr {v d w : Int32} (h0 : 0 ≤ v.toInt) (hd : 0 < d.toInt) (h : v % d = w) : 0 ≤ w.toInt ∧ w.toInt < d.toInt := by
  subst h
  have q := (c_iremV v d).1 h0 hd
  exact ⟨q.1, q.2.1⟩
theorem Wk.addI {x y v : Int32} (h : x + y = v) : (v.toInt - (x.toInt + y.toInt)) % 4294967296 = 0 := h ▸ c_iadd x y
theorem Wk.subI {x y v : Int32} (h : x - y = v) : (v.toInt - (x.toInt - y.toInt)) % 4294967296 = 0 := h ▸ c_isub x y
theorem Wk.mulI {x y v : Int32} (h : x * y = v) : (v.toInt - (x.toInt * y.toInt)) % 4294967296 = 0 := h ▸ c_imul x y
theorem Wk.eqI {x y : Int32} (h : x.toInt = y.toInt) : x = y := Int32.toInt_inj.mp h
theorem Wk.ltI {x y : Int32} : x < y ↔ x.toInt < y.toInt := Int32.lt_iff_toInt_lt
theorem Wk.nn {x : Int32} (h : 0 ≤ x.toInt) : ¬ x < 0 := by
  have e0 : (0 : Int32).toInt = 0 := by decide
  rw [Wk.ltI]; omega
theorem Wk.clamp {x : Int32} (h : 0 ≤ x.toInt) : (x.toNatClampNeg : Int) = x.toInt := (nat_of (Wk.nn h)).symm
theorem Wk.ofNat {x : Int32} (h : 0 ≤ x.toInt) : x = Int32.ofNat x.toNatClampNeg := ((back32 (Wk.nn h)).1).symm
theorem Wk.getd {cs : List Int32} {i : Nat} (h : i < cs.length) : (cs.map Value.int)[i]? = some (.int (cs.getD i 0)) := by simp [List.getD_eq_getElem?_getD, h]
theorem Wk.nat32 {n : Nat} (h : n ≤ 4000) : (Int32.ofNat n).toInt = n ∧ (Int32.ofNat n).toNatClampNeg = n := ⟨Int32.toInt_ofNat_of_lt (by omega), Int32.toNatClampNeg_ofNat_of_lt (by omega)⟩
theorem Wk.succ32 {n : Nat} (h : n < 4000) : Int32.ofNat n + Int32.ofInt 1 = Int32.ofNat (n + 1) := by
  have a := c_iadd (Int32.ofNat n) 1
  have b := rng32 (Int32.ofNat n + 1)
  have c1 : (1 : Int32).toInt = 1 := by decide
  have c2 := (Wk.nat32 (n := n) (by omega)).1
  have c3 := (Wk.nat32 (n := n + 1) (by omega)).1
  exact Wk.eqI (by show (Int32.ofNat n + 1).toInt = _; omega)
theorem Wk.lt32 {a b : Nat} (ha : a ≤ 4000) (hb : b ≤ 4000) : Int32.ofNat a < Int32.ofNat b ↔ a < b := by rw [Wk.ltI, (Wk.nat32 ha).1, (Wk.nat32 hb).1]; omega
theorem Wk.eq32 {a b : Nat} (ha : a ≤ 4000) (hb : b ≤ 4000) : Int32.ofNat a = Int32.ofNat b ↔ a = b := by
  constructor
  · intro h; have q := congrArg Int32.toInt h; rw [(Wk.nat32 ha).1, (Wk.nat32 hb).1] at q; omega
  · rintro rfl; rfl
theorem Wk.sub32 {a b : Nat} {v : Int32} (h : b ≤ a) (ha : a ≤ 4000) (hv : Int32.ofNat a - Int32.ofNat b = v) : v = Int32.ofNat (a - b) := by
  have q := Wk.subI hv
  have r := rng32 v
  rw [(Wk.nat32 ha).1, (Wk.nat32 (n := b) (by omega)).1] at q
  exact Wk.eqI (by rw [(Wk.nat32 (n := a - b) (by omega)).1]; omega)
theorem Wk.add32 {a b : Nat} {v : Int32} (h : a + b ≤ 4000) (hv : Int32.ofNat a + Int32.ofNat b = v) : v = Int32.ofNat (a + b) := by
  have q := Wk.addI hv
  have r := rng32 v
  rw [(Wk.nat32 (n := a) (by omega)).1, (Wk.nat32 (n := b) (by omega)).1] at q
  exact Wk.eqI (by rw [(Wk.nat32 (n := a + b) (by omega)).1]; omega)
theorem Wk.dec32 {a : Nat} {v : Int32} (ha : a < 4000) (hv : Int32.ofNat (a + 1) + Int32.ofInt (-1) = v) : v = Int32.ofNat a := by
  have q := Wk.addI hv
  have r := rng32 v
  have c : (Int32.ofInt (-1)).toInt = -1 := by decide
  rw [(Wk.nat32 (n := a + 1) (by omega)).1, c] at q
  exact Wk.eqI (by rw [(Wk.nat32 (n := a) (by omega)).1]; omega)
theorem Wk.nn32 {a : Nat} (ha : a ≤ 4000) : ¬ Int32.ofNat a < 0 := Wk.nn (by rw [(Wk.nat32 ha).1]; omega)
theorem Wk.orE {args : Array Value} {s : State} {idx : List Nat} {c d : Cond} (h : (Cond.or c d).value args s none s idx = some true) : c.value args s none s idx = some true ∨ d.value args s none s idx = some true := by
  simp only [Cond.value] at h
  cases h1 : c.value args s none s idx with
  | none => simp [h1] at h
  | some x => cases x <;> simp [h1] at h ⊢ <;> exact h
theorem Wk.elemI {args : Array Value} {s : State} {t u : Term} {a : Addr} {cl : Cell} {ty : FieldType} {i : Nat} {v : Int32} (ht : t.eval args s none [i] s = some (.ref a)) (A : Arr s s.heap a cl ty) (hu : u.eval args s none [i] s = some (.int v)) (hi : i.toInt32.toNatClampNeg = i) (h : (Jvm.Cond.eq (.elem t (.index 0)) u).value args s none s [i] = some true) : cl.slots[i]? = some (.int v) := by
  obtain ⟨x, y, e1, e2, -, kin⟩ := cmp_v (Or.inl h)
  cases hu.symm.trans e2
  obtain ⟨z, rfl⟩ := kin
  cases gotT (Cond.eq_ints e1 e2) h
  have q := (elem_in e1 ht (show (Term.index 0).eval args s none [i] s = some (.int i.toInt32) from rfl) A.1).2
  rwa [hi] at q
theorem Wk.elemL {args : Array Value} {s : State} {t : Term} {a : Addr} {cl : Cell} {ty : FieldType} {i : Nat} {v : Int32} {m : Int64} (ht : t.eval args s none [i] s = some (.ref a)) (A : Arr s s.heap a cl ty) (hv : i.toInt32.toInt64 + m = v.toInt64) (hi : i.toInt32.toNatClampNeg = i) (h : (Jvm.Cond.eq (.op1 .i2l (.elem t (.index 0))) (.op2 .ladd (.op1 .i2l (.index 0)) (.long m))).value args s none s [i] = some true) : cl.slots[i]? = some (.int v) := by
  have e2 : (Term.op2 .ladd (.op1 .i2l (.index 0)) (.long m)).eval args s none [i] s = some (.long (i.toInt32.toInt64 + m)) := rfl
  obtain ⟨x', y', e3, e4, -, kin⟩ := cmp_v (Or.inl h)
  cases e0 : (Term.elem t (.index 0)).eval args s none [i] s with
  | none =>
    rw [show (Term.op1 .i2l (.elem t (.index 0))).eval args s none [i] s = ((Term.elem t (.index 0)).eval args s none [i] s).bind (Unary.apply .i2l) from rfl, e0] at e3
    cases e3
  | some x =>
    have e1 := op1_f (f := .i2l) e0
    rw [e1] at e3
    have : ∃ z, x = .int z := by cases x <;> simp [Unary.apply] at e3 ⊢
    obtain ⟨z, rfl⟩ := this
    have e5 : (Term.op1 .i2l (.elem t (.index 0))).eval args s none [i] s = some (.long z.toInt64) := e1
    have e6 := gotT (eq_L e5 e2) h
    have e7 : z = v := by
      have q := congrArg Int64.toInt (e6.trans hv)
      rw [Int32.toInt_toInt64, Int32.toInt_toInt64] at q
      exact Wk.eqI q
    subst e7
    have q := (elem_in e0 ht (show (Term.index 0).eval args s none [i] s = some (.int i.toInt32) from rfl) A.1).2
    rwa [hi] at q
theorem Wk.aryT {Z : State} {h : Heap} {a : Addr} {cl : Cell} {ty : FieldType} {f : Nat → Int32} {n : Nat} {z : Int32} (A : Arr Z h a cl ty) (hn : cl.slots.size < 2 ^ 31 ∧ cl.slots.size.toInt32 = z) (hl : z.toNatClampNeg = n) (H : ∀ i, i < n → cl.slots[i]? = some (.int (f i))) (hf : ∀ i, i < n → fits ty (.int (f i)) = true) : Wk.Ary Z h a ty ((List.range n).map fun i => .int (f i)) := by
  have hs : cl.slots.size = n := by
    rw [← hl, ← hn.2]
    exact (Int32.toNatClampNeg_ofNat_of_lt hn.1).symm
  refine ⟨cl, A, ?_, by simpa [hs] using hn.1, ?_⟩
  · apply Array.ext
    · simpa using hs
    · intro i h1 h2
      have q := H i (by omega)
      rw [Array.getElem?_eq_getElem h1] at q
      simpa using q
  · intro v hv
    obtain ⟨i, hi, rfl⟩ := List.mem_map.mp hv
    exact hf i (List.mem_range.mp hi)
theorem Wk.lenS {args : Array Value} {s : State} {t : Term} {a : Addr} {cl : Cell} {ty : FieldType} {n : Int32} (ht : t.eval args s none [] s = some (.ref a)) (A : Arr s s.heap a cl ty) (h : (Jvm.Cond.eq (.length t) (.int n)).value args s none s [] = some true) : cl.slots.size < 2 ^ 31 ∧ cl.slots.size.toInt32 = n := by
  obtain ⟨x, y, e1, e2, -, kin⟩ := cmp_v (Or.inl h)
  cases (Term.int_eval n).symm.trans e2
  obtain ⟨z, rfl⟩ := kin
  have e3 := gotT (Cond.eq_ints e1 e2) h
  have ha : s.arrayAt? a = some cl := A.fin (Vm.Alike.refl _)
  by_cases q : cl.slots.size < 2 ^ 31
  · refine ⟨q, ?_⟩
    have e4 := len_f ht ha q
    rw [e4] at e1
    cases e1
    exact e3
  · simp [Term.eval, ht, ha, q] at e1
theorem Wk.elemS {args : Array Value} {s : State} {t : Term} {a : Addr} {cl : Cell} {ty : FieldType} {j v : Int32} (ht : t.eval args s none [] s = some (.ref a)) (A : Arr s s.heap a cl ty) (h : (Jvm.Cond.eq (.elem t (.int j)) (.int v)).value args s none s [] = some true) : cl.slots[j.toNatClampNeg]? = some (.int v) := by
  obtain ⟨x, y, e1, e2, -, kin⟩ := cmp_v (Or.inl h)
  cases (Term.int_eval v).symm.trans e2
  obtain ⟨z, rfl⟩ := kin
  cases gotT (Cond.eq_ints e1 e2) h
  exact (elem_in e1 ht (Term.int_eval j) A.1).2
theorem Wk.elemR {args : Array Value} {s : State} {t u : Term} {a b : Addr} {cl : Cell} {ty : FieldType} {j : Int32} (ht : t.eval args s none [] s = some (.ref a)) (hu : u.eval args s none [] s = some (.ref b)) (A : Arr s s.heap a cl ty) (h : (Jvm.Cond.eq (.elem t (.int j)) u).value args s none s [] = some true) : cl.slots[j.toNatClampNeg]? = some (.ref b) := by
  obtain ⟨x, y, e1, e2, -, kin⟩ := cmp_v (Or.inl h)
  cases hu.symm.trans e2
  cases gotT (eq_R e1 e2 kin.2 rfl) h
  exact (elem_in e1 ht (Term.int_eval j) A.1).2
theorem Wk.aryS {Z : State} {h : Heap} {a : Addr} {cl : Cell} {ty : FieldType} {vs : List Value} {n : Int32} (A : Arr Z h a cl ty) (hn : cl.slots.size < 2 ^ 31 ∧ cl.slots.size.toInt32 = n) (hl : n.toNatClampNeg = vs.length) (H : HasL cl 0 vs) (hf : ∀ v ∈ vs, fits ty v = true) : Wk.Ary Z h a ty vs := by
  have hs : cl.slots.size = vs.length := by
    rw [← hl, ← hn.2]
    exact (Int32.toNatClampNeg_ofNat_of_lt hn.1).symm
  refine ⟨cl, A, ?_, by omega, hf⟩
  apply Array.ext
  · simpa using hs
  · intro i h1 h2
    have q := HasL.at (dv := .null) vs 0 H i (by omega)
    rw [Nat.zero_add, Array.getElem?_eq_getElem h1] at q
    have h3 : i < vs.length := by omega
    simpa [List.getD_eq_getElem?_getD, h3] using q
abbrev StN : String := "java/lang/String"
abbrev PcN : String := "jdk/internal/util/Preconditions"
/-- null, or a String -/
def SN (Z : State) (h : Heap) (v : Value) : Prop := v = .null ∨ ∃ x, v = .ref x ∧ Exa Z h x StN
theorem SN.ext {Z : State} {h h' : Heap} {v : Value} (F : SN Z h v) (E : Ext h h') : SN Z h' v := F.imp id fun ⟨x, e, A⟩ => ⟨x, e, A.ext E⟩
theorem SN.wr {Z : State} {h h' : Heap} {v u : Value} {b : Addr} {sl : Nat} (F : SN Z h v) (W : Wr h h' b sl u) : SN Z h' v := F.imp id fun ⟨x, e, A⟩ => ⟨x, e, A.wr W⟩
theorem SN.keep {Z : State} {h h' : Heap} {v : Value} {ws : List Addr} (F : SN Z h v) (K : Keep h h' ws) : SN Z h' v := F.imp id fun ⟨x, e, A⟩ => ⟨x, e, A.keep K⟩
theorem SN.ref {Z : State} {h : Heap} {v : Value} (F : SN Z h v) : v.isRef = true := by rcases F with rfl | ⟨x, rfl, -⟩ <;> rfl
theorem Wk.conjB {a0 : Array Value} {Z : State} : ∀ {L : List Cond}, (∀ w ∈ L, w.before a0 Z = true) → (Jvm.Free.Exc.conj L).before a0 Z = true
  | [], _ => rfl
  | c :: L, h => by
    show (Cond.and c (Jvm.Free.Exc.conj L)).before a0 Z = true
    rw [Cond.before_and, Bool.and_eq_true]
    exact ⟨h c (List.mem_cons_self ..), Wk.conjB fun w hw => h w (List.mem_cons_of_mem _ hw)⟩
/-- the named sets of the JDK's statics, at the start -/
def Sets (Z : State) : Prop := ∃ (z : Int32) (fm : Value), Sta Z Z.heap StN "COMPACT_STRINGS" "Z" (.int z) ∧ ¬ z = 0 ∧ Sta Z Z.heap PcN "SIOOBE_FORMATTER" "Ljava/util/function/BiFunction;" fm ∧ fm.isRef = true
theorem w0 {a0 : Array Value} {Z : State} (hw : Ws a0 Z) : (Jvm.Cond.methodLink "com/example/isomorph/isomorph/MethodNameToStringPinLaw" (12 : Nat) ({ cls := "com/example/isomorph/isomorph/MethodNameToStringPinLaw", name := "str", desc := "(ICCC)Ljava/lang/String;" } : Jvm.MethodName)).before a0 Z = true := hw _ (List.mem_of_getElem? (i := 0) rfl)
theorem w1 {a0 : Array Value} {Z : State} (hw : Ws a0 Z) : (Jvm.Cond.static ({ cls := "com/example/isomorph/isomorph/MethodNameToStringPinLaw", name := "str", desc := "(ICCC)Ljava/lang/String;" } : Jvm.MethodName)).before a0 Z = true := hw _ (List.mem_of_getElem? (i := 1) rfl)
theorem w2 {a0 : Array Value} {Z : State} (hw : Ws a0 Z) : (Jvm.Cond.initialized "com/example/isomorph/isomorph/MethodNameToStringPinLaw").before a0 Z = true := hw _ (List.mem_of_getElem? (i := 2) rfl)
theorem w3 {a0 : Array Value} {Z : State} (hw : Ws a0 Z) : (Jvm.Cond.code ({ cls := "com/example/isomorph/isomorph/MethodNameToStringPinLaw", name := "str", desc := "(ICCC)Ljava/lang/String;" } : Jvm.MethodName) method_2_code (4 : Nat) (Option.some (Jvm.ClassFile.FieldType.object "java/lang/String"))).before a0 Z = true := hw _ (List.mem_of_getElem? (i := 3) rfl)
theorem w4 {a0 : Array Value} {Z : State} (hw : Ws a0 Z) : (Jvm.Cond.classLink "com/example/isomorph/isomorph/MethodNameToStringPinLaw" (7 : Nat) "java/lang/String").before a0 Z = true := hw _ (List.mem_of_getElem? (i := 4) rfl)
theorem w5 {a0 : Array Value} {Z : State} (hw : Ws a0 Z) : (Jvm.Cond.instantiable "java/lang/String" (4 : Nat)).before a0 Z = true := hw _ (List.mem_of_getElem? (i := 5) rfl)
theorem w6 {a0 : Array Value} {Z : State} (hw : Ws a0 Z) : (Jvm.Cond.initialized "java/lang/String").before a0 Z = true := hw _ (List.mem_of_getElem? (i := 6) rfl)
theorem w7 {a0 : Array Value} {Z : State} (hw : Ws a0 Z) : (Jvm.Cond.arrayClass Jvm.ClassFile.FieldType.char).before a0 Z = true := hw _ (List.mem_of_getElem? (i := 7) rfl)
theorem w8 {a0 : Array Value} {Z : State} (hw : Ws a0 Z) : (Jvm.Cond.methodLink "com/example/isomorph/isomorph/MethodNameToStringPinLaw" (9 : Nat) ({ cls := "java/lang/String", name := "<init>", desc := "([C)V" } : Jvm.MethodName)).before a0 Z = true := hw _ (List.mem_of_getElem? (i := 8) rfl)
theorem w9 {a0 : Array Value} {Z : State} (hw : Ws a0 Z) : (Jvm.Cond.instanceMethod ({ cls := "java/lang/String", name := "<init>", desc := "([C)V" } : Jvm.MethodName)).before a0 Z = true := hw _ (List.mem_of_getElem? (i := 9) rfl)
theorem w10 {a0 : Array Value} {Z : State} (hw : Ws a0 Z) : (Jvm.Cond.code ({ cls := "java/lang/String", name := "<init>", desc := "([C)V" } : Jvm.MethodName) jdk_42_method_3_code (2 : Nat) (Option.none : Option Jvm.ClassFile.FieldType)).before a0 Z = true := hw _ (List.mem_of_getElem? (i := 10) rfl)
theorem w11 {a0 : Array Value} {Z : State} (hw : Ws a0 Z) : (Jvm.Cond.methodLink "java/lang/String" (27 : Nat) ({ cls := "java/lang/String", name := "<init>", desc := "([CIILjava/lang/Void;)V" } : Jvm.MethodName)).before a0 Z = true := hw _ (List.mem_of_getElem? (i := 11) rfl)
theorem w12 {a0 : Array Value} {Z : State} (hw : Ws a0 Z) : (Jvm.Cond.instanceMethod ({ cls := "java/lang/String", name := "<init>", desc := "([CIILjava/lang/Void;)V" } : Jvm.MethodName)).before a0 Z = true := hw _ (List.mem_of_getElem? (i := 12) rfl)
theorem w14 {a0 : Array Value} {Z : State} (hw : Ws a0 Z) : (Jvm.Cond.code ({ cls := "java/lang/String", name := "<init>", desc := "([CIILjava/lang/Void;)V" } : Jvm.MethodName) jdk_42_method_149_code (6 : Nat) (Option.none : Option Jvm.ClassFile.FieldType)).before a0 Z = true := hw _ (List.mem_of_getElem? (i := 14) rfl)
theorem w15 {a0 : Array Value} {Z : State} (hw : Ws a0 Z) : (Jvm.Cond.methodLink "java/lang/String" (1 : Nat) ({ cls := "java/lang/Object", name := "<init>", desc := "()V" } : Jvm.MethodName)).before a0 Z = true := hw _ (List.mem_of_getElem? (i := 15) rfl)
theorem w16 {a0 : Array Value} {Z : State} (hw : Ws a0 Z) : (Jvm.Cond.instanceMethod ({ cls := "java/lang/Object", name := "<init>", desc := "()V" } : Jvm.MethodName)).before a0 Z = true := hw _ (List.mem_of_getElem? (i := 16) rfl)
theorem w17 {a0 : Array Value} {Z : State} (hw : Ws a0 Z) : (Jvm.Cond.code ({ cls := "java/lang/Object", name := "<init>", desc := "()V" } : Jvm.MethodName) object_method_1_code (1 : Nat) (Option.none : Option Jvm.ClassFile.FieldType)).before a0 Z = true := hw _ (List.mem_of_getElem? (i := 17) rfl)
theorem w18 {a0 : Array Value} {Z : State} (hw : Ws a0 Z) : (Jvm.Cond.fieldLink "java/lang/String" (38 : Nat) "java/lang/String" "COMPACT_STRINGS" "Z").before a0 Z = true := hw _ (List.mem_of_getElem? (i := 18) rfl)
theorem w23 {a0 : Array Value} {Z : State} (hw : Ws a0 Z) : (Jvm.Cond.arrayClass Jvm.ClassFile.FieldType.byte).before a0 Z = true := hw _ (List.mem_of_getElem? (i := 23) rfl)
theorem w30 {a0 : Array Value} {Z : State} (hw : Ws a0 Z) : (Jvm.Cond.fieldLink "java/lang/String" (15 : Nat) "java/lang/String" "coder" "B").before a0 Z = true := hw _ (List.mem_of_getElem? (i := 30) rfl)
theorem w31 {a0 : Array Value} {Z : State} (hw : Ws a0 Z) : (Jvm.Cond.laysFinal "java/lang/String" "java/lang/String" "coder" "B").before a0 Z = true := hw _ (List.mem_of_getElem? (i := 31) rfl)
theorem w32 {a0 : Array Value} {Z : State} (hw : Ws a0 Z) : (Jvm.Cond.fieldLink "java/lang/String" (9 : Nat) "java/lang/String" "value" "[B").before a0 Z = true := hw _ (List.mem_of_getElem? (i := 32) rfl)
theorem w33 {a0 : Array Value} {Z : State} (hw : Ws a0 Z) : (Jvm.Cond.laysFinal "java/lang/String" "java/lang/String" "value" "[B").before a0 Z = true := hw _ (List.mem_of_getElem? (i := 33) rfl)
theorem w34 {a0 : Array Value} {Z : State} (hw : Ws a0 Z) : (Jvm.Cond.stringLink "java/lang/String" (7 : Nat) "").before a0 Z = true := hw _ (List.mem_of_getElem? (i := 34) rfl)
theorem w35 {a0 : Array Value} {Z : State} (hw : Ws a0 Z) : (Jvm.Cond.soleField "java/lang/String" "value").before a0 Z = true := hw _ (List.mem_of_getElem? (i := 35) rfl)
theorem w36 {a0 : Array Value} {Z : State} (hw : Ws a0 Z) : (Jvm.Cond.soleField "java/lang/String" "coder").before a0 Z = true := hw _ (List.mem_of_getElem? (i := 36) rfl)
theorem w37 {a0 : Array Value} {Z : State} (hw : Ws a0 Z) : (Jvm.Cond.classLink "com/example/isomorph/isomorph/MethodNameToStringPinLaw" (18 : Nat) "com/example/isomorph/isomorph/MethodName").before a0 Z = true := hw _ (List.mem_of_getElem? (i := 37) rfl)
theorem w38 {a0 : Array Value} {Z : State} (hw : Ws a0 Z) : (Jvm.Cond.instantiable "com/example/isomorph/isomorph/MethodName" (2 : Nat)).before a0 Z = true := hw _ (List.mem_of_getElem? (i := 38) rfl)
theorem w39 {a0 : Array Value} {Z : State} (hw : Ws a0 Z) : (Jvm.Cond.initialized "com/example/isomorph/isomorph/MethodName").before a0 Z = true := hw _ (List.mem_of_getElem? (i := 39) rfl)
theorem w40 {a0 : Array Value} {Z : State} (hw : Ws a0 Z) : (Jvm.Cond.methodLink "com/example/isomorph/isomorph/MethodNameToStringPinLaw" (20 : Nat) ({ cls := "com/example/isomorph/isomorph/MethodName", name := "<init>", desc := "(Ljava/lang/String;Ljava/lang/String;)V" } : Jvm.MethodName)).before a0 Z = true := hw _ (List.mem_of_getElem? (i := 40) rfl)
theorem w41 {a0 : Array Value} {Z : State} (hw : Ws a0 Z) : (Jvm.Cond.instanceMethod ({ cls := "com/example/isomorph/isomorph/MethodName", name := "<init>", desc := "(Ljava/lang/String;Ljava/lang/String;)V" } : Jvm.MethodName)).before a0 Z = true := hw _ (List.mem_of_getElem? (i := 41) rfl)
theorem w42 {a0 : Array Value} {Z : State} (hw : Ws a0 Z) : (Jvm.Cond.code ({ cls := "com/example/isomorph/isomorph/MethodName", name := "<init>", desc := "(Ljava/lang/String;Ljava/lang/String;)V" } : Jvm.MethodName) prog_2_method_1_code (3 : Nat) (Option.none : Option Jvm.ClassFile.FieldType)).before a0 Z = true := hw _ (List.mem_of_getElem? (i := 42) rfl)
theorem w43 {a0 : Array Value} {Z : State} (hw : Ws a0 Z) : (Jvm.Cond.methodLink "com/example/isomorph/isomorph/MethodName" (1 : Nat) ({ cls := "java/lang/Record", name := "<init>", desc := "()V" } : Jvm.MethodName)).before a0 Z = true := hw _ (List.mem_of_getElem? (i := 43) rfl)
theorem w44 {a0 : Array Value} {Z : State} (hw : Ws a0 Z) : (Jvm.Cond.instanceMethod ({ cls := "java/lang/Record", name := "<init>", desc := "()V" } : Jvm.MethodName)).before a0 Z = true := hw _ (List.mem_of_getElem? (i := 44) rfl)
theorem w46 {a0 : Array Value} {Z : State} (hw : Ws a0 Z) : (Jvm.Cond.initialized "java/lang/Record").before a0 Z = true := hw _ (List.mem_of_getElem? (i := 46) rfl)
theorem w47 {a0 : Array Value} {Z : State} (hw : Ws a0 Z) : (Jvm.Cond.code ({ cls := "java/lang/Record", name := "<init>", desc := "()V" } : Jvm.MethodName) jdk_30_method_1_code (1 : Nat) (Option.none : Option Jvm.ClassFile.FieldType)).before a0 Z = true := hw _ (List.mem_of_getElem? (i := 47) rfl)
theorem w48 {a0 : Array Value} {Z : State} (hw : Ws a0 Z) : (Jvm.Cond.methodLink "java/lang/Record" (1 : Nat) ({ cls := "java/lang/Object", name := "<init>", desc := "()V" } : Jvm.MethodName)).before a0 Z = true := hw _ (List.mem_of_getElem? (i := 48) rfl)
theorem w49 {a0 : Array Value} {Z : State} (hw : Ws a0 Z) : (Jvm.Cond.fieldLink "com/example/isomorph/isomorph/MethodName" (7 : Nat) "com/example/isomorph/isomorph/MethodName" "className" "Ljava/lang/String;").before a0 Z = true := hw _ (List.mem_of_getElem? (i := 49) rfl)
theorem w50 {a0 : Array Value} {Z : State} (hw : Ws a0 Z) : (Jvm.Cond.laysFinal "com/example/isomorph/isomorph/MethodName" "com/example/isomorph/isomorph/MethodName" "className" "Ljava/lang/String;").before a0 Z = true := hw _ (List.mem_of_getElem? (i := 50) rfl)
theorem w51 {a0 : Array Value} {Z : State} (hw : Ws a0 Z) : (Jvm.Cond.fieldLink "com/example/isomorph/isomorph/MethodName" (13 : Nat) "com/example/isomorph/isomorph/MethodName" "methodName" "Ljava/lang/String;").before a0 Z = true := hw _ (List.mem_of_getElem? (i := 51) rfl)
theorem w52 {a0 : Array Value} {Z : State} (hw : Ws a0 Z) : (Jvm.Cond.laysFinal "com/example/isomorph/isomorph/MethodName" "com/example/isomorph/isomorph/MethodName" "methodName" "Ljava/lang/String;").before a0 Z = true := hw _ (List.mem_of_getElem? (i := 52) rfl)
theorem w53 {a0 : Array Value} {Z : State} (hw : Ws a0 Z) : (Jvm.Cond.methodLink "com/example/isomorph/isomorph/MethodNameToStringPinLaw" (23 : Nat) ({ cls := "com/example/isomorph/isomorph/MethodName", name := "toString", desc := "()Ljava/lang/String;" } : Jvm.MethodName)).before a0 Z = true := hw _ (List.mem_of_getElem? (i := 53) rfl)
theorem w54 {a0 : Array Value} {Z : State} (hw : Ws a0 Z) : (Jvm.Cond.declares ({ cls := "com/example/isomorph/isomorph/MethodName", name := "toString", desc := "()Ljava/lang/String;" } : Jvm.MethodName)).before a0 Z = true := hw _ (List.mem_of_getElem? (i := 54) rfl)
theorem w55 {a0 : Array Value} {Z : State} (hw : Ws a0 Z) : (Jvm.Cond.instanceMethod ({ cls := "com/example/isomorph/isomorph/MethodName", name := "toString", desc := "()Ljava/lang/String;" } : Jvm.MethodName)).before a0 Z = true := hw _ (List.mem_of_getElem? (i := 55) rfl)
theorem w56 {a0 : Array Value} {Z : State} (hw : Ws a0 Z) : (Jvm.Cond.selects "com/example/isomorph/isomorph/MethodName" ({ cls := "com/example/isomorph/isomorph/MethodName", name := "toString", desc := "()Ljava/lang/String;" } : Jvm.MethodName) ({ cls := "com/example/isomorph/isomorph/MethodName", name := "toString", desc := "()Ljava/lang/String;" } : Jvm.MethodName)).before a0 Z = true := hw _ (List.mem_of_getElem? (i := 56) rfl)
theorem w57 {a0 : Array Value} {Z : State} (hw : Ws a0 Z) : (Jvm.Cond.code ({ cls := "com/example/isomorph/isomorph/MethodName", name := "toString", desc := "()Ljava/lang/String;" } : Jvm.MethodName) prog_2_method_5_code (1 : Nat) (Option.some (Jvm.ClassFile.FieldType.object "java/lang/String"))).before a0 Z = true := hw _ (List.mem_of_getElem? (i := 57) rfl)
theorem w58 {a0 : Array Value} {Z : State} (hw : Ws a0 Z) : (Jvm.Cond.classLink "com/example/isomorph/isomorph/MethodName" (44 : Nat) "java/lang/StringBuilder").before a0 Z = true := hw _ (List.mem_of_getElem? (i := 58) rfl)
theorem w59 {a0 : Array Value} {Z : State} (hw : Ws a0 Z) : (Jvm.Cond.instantiable "java/lang/StringBuilder" (4 : Nat)).before a0 Z = true := hw _ (List.mem_of_getElem? (i := 59) rfl)
theorem w60 {a0 : Array Value} {Z : State} (hw : Ws a0 Z) : (Jvm.Cond.initialized "java/lang/StringBuilder").before a0 Z = true := hw _ (List.mem_of_getElem? (i := 60) rfl)
theorem w61 {a0 : Array Value} {Z : State} (hw : Ws a0 Z) : (Jvm.Cond.methodLink "com/example/isomorph/isomorph/MethodName" (46 : Nat) ({ cls := "java/lang/StringBuilder", name := "<init>", desc := "()V" } : Jvm.MethodName)).before a0 Z = true := hw _ (List.mem_of_getElem? (i := 61) rfl)
theorem w62 {a0 : Array Value} {Z : State} (hw : Ws a0 Z) : (Jvm.Cond.instanceMethod ({ cls := "java/lang/StringBuilder", name := "<init>", desc := "()V" } : Jvm.MethodName)).before a0 Z = true := hw _ (List.mem_of_getElem? (i := 62) rfl)
theorem w63 {a0 : Array Value} {Z : State} (hw : Ws a0 Z) : (Jvm.Cond.code ({ cls := "java/lang/StringBuilder", name := "<init>", desc := "()V" } : Jvm.MethodName) jdk_67_method_1_code (1 : Nat) (Option.none : Option Jvm.ClassFile.FieldType)).before a0 Z = true := hw _ (List.mem_of_getElem? (i := 63) rfl)
theorem w64 {a0 : Array Value} {Z : State} (hw : Ws a0 Z) : (Jvm.Cond.methodLink "java/lang/StringBuilder" (1 : Nat) ({ cls := "java/lang/AbstractStringBuilder", name := "<init>", desc := "(I)V" } : Jvm.MethodName)).before a0 Z = true := hw _ (List.mem_of_getElem? (i := 64) rfl)
theorem w65 {a0 : Array Value} {Z : State} (hw : Ws a0 Z) : (Jvm.Cond.instanceMethod ({ cls := "java/lang/AbstractStringBuilder", name := "<init>", desc := "(I)V" } : Jvm.MethodName)).before a0 Z = true := hw _ (List.mem_of_getElem? (i := 65) rfl)
theorem w68 {a0 : Array Value} {Z : State} (hw : Ws a0 Z) : (Jvm.Cond.initialized "java/lang/AbstractStringBuilder").before a0 Z = true := hw _ (List.mem_of_getElem? (i := 68) rfl)
theorem w69 {a0 : Array Value} {Z : State} (hw : Ws a0 Z) : (Jvm.Cond.code ({ cls := "java/lang/AbstractStringBuilder", name := "<init>", desc := "(I)V" } : Jvm.MethodName) jdk_68_method_2_code (2 : Nat) (Option.none : Option Jvm.ClassFile.FieldType)).before a0 Z = true := hw _ (List.mem_of_getElem? (i := 69) rfl)
theorem w70 {a0 : Array Value} {Z : State} (hw : Ws a0 Z) : (Jvm.Cond.methodLink "java/lang/AbstractStringBuilder" (3 : Nat) ({ cls := "java/lang/Object", name := "<init>", desc := "()V" } : Jvm.MethodName)).before a0 Z = true := hw _ (List.mem_of_getElem? (i := 70) rfl)
theorem w71 {a0 : Array Value} {Z : State} (hw : Ws a0 Z) : (Jvm.Cond.fieldLink "java/lang/AbstractStringBuilder" (18 : Nat) "java/lang/String" "COMPACT_STRINGS" "Z").before a0 Z = true := hw _ (List.mem_of_getElem? (i := 71) rfl)
theorem w72 {a0 : Array Value} {Z : State} (hw : Ws a0 Z) : (Jvm.Cond.fieldLink "java/lang/AbstractStringBuilder" (15 : Nat) "java/lang/AbstractStringBuilder" "value" "[B").before a0 Z = true := hw _ (List.mem_of_getElem? (i := 72) rfl)
theorem w73 {a0 : Array Value} {Z : State} (hw : Ws a0 Z) : (Jvm.Cond.lays "java/lang/StringBuilder" "java/lang/AbstractStringBuilder" "value" "[B").before a0 Z = true := hw _ (List.mem_of_getElem? (i := 73) rfl)
theorem w74 {a0 : Array Value} {Z : State} (hw : Ws a0 Z) : (Jvm.Cond.fieldLink "java/lang/AbstractStringBuilder" (22 : Nat) "java/lang/AbstractStringBuilder" "coder" "B").before a0 Z = true := hw _ (List.mem_of_getElem? (i := 74) rfl)
theorem w75 {a0 : Array Value} {Z : State} (hw : Ws a0 Z) : (Jvm.Cond.lays "java/lang/StringBuilder" "java/lang/AbstractStringBuilder" "coder" "B").before a0 Z = true := hw _ (List.mem_of_getElem? (i := 75) rfl)
theorem w76 {a0 : Array Value} {Z : State} (hw : Ws a0 Z) : (Jvm.Cond.methodLink "com/example/isomorph/isomorph/MethodName" (49 : Nat) ({ cls := "java/lang/StringBuilder", name := "append", desc := "(Ljava/lang/String;)Ljava/lang/StringBuilder;" } : Jvm.MethodName)).before a0 Z = true := hw _ (List.mem_of_getElem? (i := 76) rfl)
theorem w77 {a0 : Array Value} {Z : State} (hw : Ws a0 Z) : (Jvm.Cond.declares ({ cls := "java/lang/StringBuilder", name := "append", desc := "(Ljava/lang/String;)Ljava/lang/StringBuilder;" } : Jvm.MethodName)).before a0 Z = true := hw _ (List.mem_of_getElem? (i := 77) rfl)
theorem w78 {a0 : Array Value} {Z : State} (hw : Ws a0 Z) : (Jvm.Cond.instanceMethod ({ cls := "java/lang/StringBuilder", name := "append", desc := "(Ljava/lang/String;)Ljava/lang/StringBuilder;" } : Jvm.MethodName)).before a0 Z = true := hw _ (List.mem_of_getElem? (i := 78) rfl)
theorem w79 {a0 : Array Value} {Z : State} (hw : Ws a0 Z) : (Jvm.Cond.selects "java/lang/StringBuilder" ({ cls := "java/lang/StringBuilder", name := "append", desc := "(Ljava/lang/String;)Ljava/lang/StringBuilder;" } : Jvm.MethodName) ({ cls := "java/lang/StringBuilder", name := "append", desc := "(Ljava/lang/String;)Ljava/lang/StringBuilder;" } : Jvm.MethodName)).before a0 Z = true := hw _ (List.mem_of_getElem? (i := 79) rfl)
theorem w80 {a0 : Array Value} {Z : State} (hw : Ws a0 Z) : (Jvm.Cond.code ({ cls := "java/lang/StringBuilder", name := "append", desc := "(Ljava/lang/String;)Ljava/lang/StringBuilder;" } : Jvm.MethodName) jdk_67_method_7_code (2 : Nat) (Option.some (Jvm.ClassFile.FieldType.object "java/lang/StringBuilder"))).before a0 Z = true := hw _ (List.mem_of_getElem? (i := 80) rfl)
theorem w81 {a0 : Array Value} {Z : State} (hw : Ws a0 Z) : (Jvm.Cond.methodLink "java/lang/StringBuilder" (29 : Nat) ({ cls := "java/lang/AbstractStringBuilder", name := "append", desc := "(Ljava/lang/String;)Ljava/lang/AbstractStringBuilder;" } : Jvm.MethodName)).before a0 Z = true := hw _ (List.mem_of_getElem? (i := 81) rfl)
theorem w82 {a0 : Array Value} {Z : State} (hw : Ws a0 Z) : (Jvm.Cond.instanceMethod ({ cls := "java/lang/AbstractStringBuilder", name := "append", desc := "(Ljava/lang/String;)Ljava/lang/AbstractStringBuilder;" } : Jvm.MethodName)).before a0 Z = true := hw _ (List.mem_of_getElem? (i := 82) rfl)
theorem w83 {a0 : Array Value} {Z : State} (hw : Ws a0 Z) : (Jvm.Cond.superclass "java/lang/StringBuilder" "java/lang/AbstractStringBuilder").before a0 Z = true := hw _ (List.mem_of_getElem? (i := 83) rfl)
theorem w85 {a0 : Array Value} {Z : State} (hw : Ws a0 Z) : (Jvm.Cond.code ({ cls := "java/lang/AbstractStringBuilder", name := "append", desc := "(Ljava/lang/String;)Ljava/lang/AbstractStringBuilder;" } : Jvm.MethodName) jdk_68_method_22_code (3 : Nat) (Option.some (Jvm.ClassFile.FieldType.object "java/lang/AbstractStringBuilder"))).before a0 Z = true := hw _ (List.mem_of_getElem? (i := 85) rfl)
theorem w86 {a0 : Array Value} {Z : State} (hw : Ws a0 Z) : (Jvm.Cond.methodLink "java/lang/AbstractStringBuilder" (32 : Nat) ({ cls := "java/lang/String", name := "length", desc := "()I" } : Jvm.MethodName)).before a0 Z = true := hw _ (List.mem_of_getElem? (i := 86) rfl)
theorem w87 {a0 : Array Value} {Z : State} (hw : Ws a0 Z) : (Jvm.Cond.declares ({ cls := "java/lang/String", name := "length", desc := "()I" } : Jvm.MethodName)).before a0 Z = true := hw _ (List.mem_of_getElem? (i := 87) rfl)
theorem w88 {a0 : Array Value} {Z : State} (hw : Ws a0 Z) : (Jvm.Cond.instanceMethod ({ cls := "java/lang/String", name := "length", desc := "()I" } : Jvm.MethodName)).before a0 Z = true := hw _ (List.mem_of_getElem? (i := 88) rfl)
theorem w89 {a0 : Array Value} {Z : State} (hw : Ws a0 Z) : (Jvm.Cond.selects "java/lang/String" ({ cls := "java/lang/String", name := "length", desc := "()I" } : Jvm.MethodName) ({ cls := "java/lang/String", name := "length", desc := "()I" } : Jvm.MethodName)).before a0 Z = true := hw _ (List.mem_of_getElem? (i := 89) rfl)
theorem w90 {a0 : Array Value} {Z : State} (hw : Ws a0 Z) : (Jvm.Cond.code ({ cls := "java/lang/String", name := "length", desc := "()I" } : Jvm.MethodName) jdk_42_method_54_code (1 : Nat) (Option.some Jvm.ClassFile.FieldType.int)).before a0 Z = true := hw _ (List.mem_of_getElem? (i := 90) rfl)
theorem w91 {a0 : Array Value} {Z : State} (hw : Ws a0 Z) : (Jvm.Cond.methodLink "java/lang/String" (335 : Nat) ({ cls := "java/lang/String", name := "coder", desc := "()B" } : Jvm.MethodName)).before a0 Z = true := hw _ (List.mem_of_getElem? (i := 91) rfl)
theorem w92 {a0 : Array Value} {Z : State} (hw : Ws a0 Z) : (Jvm.Cond.declares ({ cls := "java/lang/String", name := "coder", desc := "()B" } : Jvm.MethodName)).before a0 Z = true := hw _ (List.mem_of_getElem? (i := 92) rfl)
theorem w93 {a0 : Array Value} {Z : State} (hw : Ws a0 Z) : (Jvm.Cond.instanceMethod ({ cls := "java/lang/String", name := "coder", desc := "()B" } : Jvm.MethodName)).before a0 Z = true := hw _ (List.mem_of_getElem? (i := 93) rfl)
theorem w94 {a0 : Array Value} {Z : State} (hw : Ws a0 Z) : (Jvm.Cond.selects "java/lang/String" ({ cls := "java/lang/String", name := "coder", desc := "()B" } : Jvm.MethodName) ({ cls := "java/lang/String", name := "coder", desc := "()B" } : Jvm.MethodName)).before a0 Z = true := hw _ (List.mem_of_getElem? (i := 94) rfl)
theorem w95 {a0 : Array Value} {Z : State} (hw : Ws a0 Z) : (Jvm.Cond.code ({ cls := "java/lang/String", name := "coder", desc := "()B" } : Jvm.MethodName) jdk_42_method_152_code (1 : Nat) (Option.some Jvm.ClassFile.FieldType.byte)).before a0 Z = true := hw _ (List.mem_of_getElem? (i := 95) rfl)
theorem w96 {a0 : Array Value} {Z : State} (hw : Ws a0 Z) : (Jvm.Cond.fieldLink "java/lang/AbstractStringBuilder" (79 : Nat) "java/lang/AbstractStringBuilder" "count" "I").before a0 Z = true := hw _ (List.mem_of_getElem? (i := 96) rfl)
theorem w97 {a0 : Array Value} {Z : State} (hw : Ws a0 Z) : (Jvm.Cond.lays "java/lang/StringBuilder" "java/lang/AbstractStringBuilder" "count" "I").before a0 Z = true := hw _ (List.mem_of_getElem? (i := 97) rfl)
theorem w98 {a0 : Array Value} {Z : State} (hw : Ws a0 Z) : (Jvm.Cond.methodLink "java/lang/AbstractStringBuilder" (100 : Nat) ({ cls := "java/lang/AbstractStringBuilder", name := "ensureCapacityInternal", desc := "(I)V" } : Jvm.MethodName)).before a0 Z = true := hw _ (List.mem_of_getElem? (i := 98) rfl)
theorem w99 {a0 : Array Value} {Z : State} (hw : Ws a0 Z) : (Jvm.Cond.instanceMethod ({ cls := "java/lang/AbstractStringBuilder", name := "ensureCapacityInternal", desc := "(I)V" } : Jvm.MethodName)).before a0 Z = true := hw _ (List.mem_of_getElem? (i := 99) rfl)
theorem w101 {a0 : Array Value} {Z : State} (hw : Ws a0 Z) : (Jvm.Cond.selects "java/lang/StringBuilder" ({ cls := "java/lang/AbstractStringBuilder", name := "ensureCapacityInternal", desc := "(I)V" } : Jvm.MethodName) ({ cls := "java/lang/AbstractStringBuilder", name := "ensureCapacityInternal", desc := "(I)V" } : Jvm.MethodName)).before a0 Z = true := hw _ (List.mem_of_getElem? (i := 101) rfl)
theorem w102 {a0 : Array Value} {Z : State} (hw : Ws a0 Z) : (Jvm.Cond.code ({ cls := "java/lang/AbstractStringBuilder", name := "ensureCapacityInternal", desc := "(I)V" } : Jvm.MethodName) jdk_68_method_9_code (3 : Nat) (Option.none : Option Jvm.ClassFile.FieldType)).before a0 Z = true := hw _ (List.mem_of_getElem? (i := 102) rfl)
theorem w103 {a0 : Array Value} {Z : State} (hw : Ws a0 Z) : (Jvm.Cond.methodLink "java/lang/AbstractStringBuilder" (208 : Nat) ({ cls := "java/lang/AbstractStringBuilder", name := "putStringAt", desc := "(ILjava/lang/String;)V" } : Jvm.MethodName)).before a0 Z = true := hw _ (List.mem_of_getElem? (i := 103) rfl)
theorem w104 {a0 : Array Value} {Z : State} (hw : Ws a0 Z) : (Jvm.Cond.instanceMethod ({ cls := "java/lang/AbstractStringBuilder", name := "putStringAt", desc := "(ILjava/lang/String;)V" } : Jvm.MethodName)).before a0 Z = true := hw _ (List.mem_of_getElem? (i := 104) rfl)
theorem w106 {a0 : Array Value} {Z : State} (hw : Ws a0 Z) : (Jvm.Cond.selects "java/lang/StringBuilder" ({ cls := "java/lang/AbstractStringBuilder", name := "putStringAt", desc := "(ILjava/lang/String;)V" } : Jvm.MethodName) ({ cls := "java/lang/AbstractStringBuilder", name := "putStringAt", desc := "(ILjava/lang/String;)V" } : Jvm.MethodName)).before a0 Z = true := hw _ (List.mem_of_getElem? (i := 106) rfl)
theorem w107 {a0 : Array Value} {Z : State} (hw : Ws a0 Z) : (Jvm.Cond.code ({ cls := "java/lang/AbstractStringBuilder", name := "putStringAt", desc := "(ILjava/lang/String;)V" } : Jvm.MethodName) jdk_68_method_73_code (3 : Nat) (Option.none : Option Jvm.ClassFile.FieldType)).before a0 Z = true := hw _ (List.mem_of_getElem? (i := 107) rfl)
theorem w108 {a0 : Array Value} {Z : State} (hw : Ws a0 Z) : (Jvm.Cond.methodLink "java/lang/AbstractStringBuilder" (397 : Nat) ({ cls := "java/lang/AbstractStringBuilder", name := "inflateIfNeededFor", desc := "(Ljava/lang/String;)V" } : Jvm.MethodName)).before a0 Z = true := hw _ (List.mem_of_getElem? (i := 108) rfl)
theorem w109 {a0 : Array Value} {Z : State} (hw : Ws a0 Z) : (Jvm.Cond.instanceMethod ({ cls := "java/lang/AbstractStringBuilder", name := "inflateIfNeededFor", desc := "(Ljava/lang/String;)V" } : Jvm.MethodName)).before a0 Z = true := hw _ (List.mem_of_getElem? (i := 109) rfl)
theorem w111 {a0 : Array Value} {Z : State} (hw : Ws a0 Z) : (Jvm.Cond.selects "java/lang/StringBuilder" ({ cls := "java/lang/AbstractStringBuilder", name := "inflateIfNeededFor", desc := "(Ljava/lang/String;)V" } : Jvm.MethodName) ({ cls := "java/lang/AbstractStringBuilder", name := "inflateIfNeededFor", desc := "(Ljava/lang/String;)V" } : Jvm.MethodName)).before a0 Z = true := hw _ (List.mem_of_getElem? (i := 111) rfl)
theorem w112 {a0 : Array Value} {Z : State} (hw : Ws a0 Z) : (Jvm.Cond.code ({ cls := "java/lang/AbstractStringBuilder", name := "inflateIfNeededFor", desc := "(Ljava/lang/String;)V" } : Jvm.MethodName) jdk_68_method_71_code (2 : Nat) (Option.none : Option Jvm.ClassFile.FieldType)).before a0 Z = true := hw _ (List.mem_of_getElem? (i := 112) rfl)
theorem w113 {a0 : Array Value} {Z : State} (hw : Ws a0 Z) : (Jvm.Cond.methodLink "java/lang/AbstractStringBuilder" (40 : Nat) ({ cls := "java/lang/String", name := "coder", desc := "()B" } : Jvm.MethodName)).before a0 Z = true := hw _ (List.mem_of_getElem? (i := 113) rfl)
theorem w114 {a0 : Array Value} {Z : State} (hw : Ws a0 Z) : (Jvm.Cond.methodLink "java/lang/AbstractStringBuilder" (399 : Nat) ({ cls := "java/lang/String", name := "getBytes", desc := "([BIB)V" } : Jvm.MethodName)).before a0 Z = true := hw _ (List.mem_of_getElem? (i := 114) rfl)
theorem w115 {a0 : Array Value} {Z : State} (hw : Ws a0 Z) : (Jvm.Cond.declares ({ cls := "java/lang/String", name := "getBytes", desc := "([BIB)V" } : Jvm.MethodName)).before a0 Z = true := hw _ (List.mem_of_getElem? (i := 115) rfl)
theorem w116 {a0 : Array Value} {Z : State} (hw : Ws a0 Z) : (Jvm.Cond.instanceMethod ({ cls := "java/lang/String", name := "getBytes", desc := "([BIB)V" } : Jvm.MethodName)).before a0 Z = true := hw _ (List.mem_of_getElem? (i := 116) rfl)
theorem w117 {a0 : Array Value} {Z : State} (hw : Ws a0 Z) : (Jvm.Cond.selects "java/lang/String" ({ cls := "java/lang/String", name := "getBytes", desc := "([BIB)V" } : Jvm.MethodName) ({ cls := "java/lang/String", name := "getBytes", desc := "([BIB)V" } : Jvm.MethodName)).before a0 Z = true := hw _ (List.mem_of_getElem? (i := 117) rfl)
theorem w118 {a0 : Array Value} {Z : State} (hw : Ws a0 Z) : (Jvm.Cond.code ({ cls := "java/lang/String", name := "getBytes", desc := "([BIB)V" } : Jvm.MethodName) jdk_42_method_147_code (4 : Nat) (Option.none : Option Jvm.ClassFile.FieldType)).before a0 Z = true := hw _ (List.mem_of_getElem? (i := 118) rfl)
theorem w119 {a0 : Array Value} {Z : State} (hw : Ws a0 Z) : (Jvm.Cond.methodLink "java/lang/String" (212 : Nat) ({ cls := "java/lang/System", name := "arraycopy", desc := "(Ljava/lang/Object;ILjava/lang/Object;II)V" } : Jvm.MethodName)).before a0 Z = true := hw _ (List.mem_of_getElem? (i := 119) rfl)
theorem w120 {a0 : Array Value} {Z : State} (hw : Ws a0 Z) : (Jvm.Cond.static ({ cls := "java/lang/System", name := "arraycopy", desc := "(Ljava/lang/Object;ILjava/lang/Object;II)V" } : Jvm.MethodName)).before a0 Z = true := hw _ (List.mem_of_getElem? (i := 120) rfl)
theorem w121 {a0 : Array Value} {Z : State} (hw : Ws a0 Z) : (Jvm.Cond.initialized "java/lang/System").before a0 Z = true := hw _ (List.mem_of_getElem? (i := 121) rfl)
theorem w122 {a0 : Array Value} {Z : State} (hw : Ws a0 Z) : (Jvm.Cond.native ({ cls := "java/lang/System", name := "arraycopy", desc := "(Ljava/lang/Object;ILjava/lang/Object;II)V" } : Jvm.MethodName)).before a0 Z = true := hw _ (List.mem_of_getElem? (i := 122) rfl)
theorem w123 {a0 : Array Value} {Z : State} (hw : Ws a0 Z) : (Jvm.Cond.stringLink "com/example/isomorph/isomorph/MethodName" (83 : Nat) ".").before a0 Z = true := hw _ (List.mem_of_getElem? (i := 123) rfl)
theorem w124 {a0 : Array Value} {Z : State} (hw : Ws a0 Z) : (Jvm.Cond.methodLink "com/example/isomorph/isomorph/MethodName" (55 : Nat) ({ cls := "java/lang/StringBuilder", name := "toString", desc := "()Ljava/lang/String;" } : Jvm.MethodName)).before a0 Z = true := hw _ (List.mem_of_getElem? (i := 124) rfl)
theorem w125 {a0 : Array Value} {Z : State} (hw : Ws a0 Z) : (Jvm.Cond.declares ({ cls := "java/lang/StringBuilder", name := "toString", desc := "()Ljava/lang/String;" } : Jvm.MethodName)).before a0 Z = true := hw _ (List.mem_of_getElem? (i := 125) rfl)
theorem w126 {a0 : Array Value} {Z : State} (hw : Ws a0 Z) : (Jvm.Cond.instanceMethod ({ cls := "java/lang/StringBuilder", name := "toString", desc := "()Ljava/lang/String;" } : Jvm.MethodName)).before a0 Z = true := hw _ (List.mem_of_getElem? (i := 126) rfl)
theorem w127 {a0 : Array Value} {Z : State} (hw : Ws a0 Z) : (Jvm.Cond.selects "java/lang/StringBuilder" ({ cls := "java/lang/StringBuilder", name := "toString", desc := "()Ljava/lang/String;" } : Jvm.MethodName) ({ cls := "java/lang/StringBuilder", name := "toString", desc := "()Ljava/lang/String;" } : Jvm.MethodName)).before a0 Z = true := hw _ (List.mem_of_getElem? (i := 127) rfl)
theorem w128 {a0 : Array Value} {Z : State} (hw : Ws a0 Z) : (Jvm.Cond.code ({ cls := "java/lang/StringBuilder", name := "toString", desc := "()Ljava/lang/String;" } : Jvm.MethodName) jdk_67_method_42_code (1 : Nat) (Option.some (Jvm.ClassFile.FieldType.object "java/lang/String"))).before a0 Z = true := hw _ (List.mem_of_getElem? (i := 128) rfl)
theorem w129 {a0 : Array Value} {Z : State} (hw : Ws a0 Z) : (Jvm.Cond.classLink "java/lang/StringBuilder" (18 : Nat) "java/lang/String").before a0 Z = true := hw _ (List.mem_of_getElem? (i := 129) rfl)
theorem w130 {a0 : Array Value} {Z : State} (hw : Ws a0 Z) : (Jvm.Cond.methodLink "java/lang/StringBuilder" (137 : Nat) ({ cls := "java/lang/String", name := "<init>", desc := "(Ljava/lang/StringBuilder;)V" } : Jvm.MethodName)).before a0 Z = true := hw _ (List.mem_of_getElem? (i := 130) rfl)
theorem w131 {a0 : Array Value} {Z : State} (hw : Ws a0 Z) : (Jvm.Cond.instanceMethod ({ cls := "java/lang/String", name := "<init>", desc := "(Ljava/lang/StringBuilder;)V" } : Jvm.MethodName)).before a0 Z = true := hw _ (List.mem_of_getElem? (i := 131) rfl)
theorem w132 {a0 : Array Value} {Z : State} (hw : Ws a0 Z) : (Jvm.Cond.code ({ cls := "java/lang/String", name := "<init>", desc := "(Ljava/lang/StringBuilder;)V" } : Jvm.MethodName) jdk_42_method_53_code (2 : Nat) (Option.none : Option Jvm.ClassFile.FieldType)).before a0 Z = true := hw _ (List.mem_of_getElem? (i := 132) rfl)
theorem w133 {a0 : Array Value} {Z : State} (hw : Ws a0 Z) : (Jvm.Cond.methodLink "java/lang/String" (489 : Nat) ({ cls := "java/lang/String", name := "<init>", desc := "(Ljava/lang/AbstractStringBuilder;Ljava/lang/Void;)V" } : Jvm.MethodName)).before a0 Z = true := hw _ (List.mem_of_getElem? (i := 133) rfl)
theorem w134 {a0 : Array Value} {Z : State} (hw : Ws a0 Z) : (Jvm.Cond.instanceMethod ({ cls := "java/lang/String", name := "<init>", desc := "(Ljava/lang/AbstractStringBuilder;Ljava/lang/Void;)V" } : Jvm.MethodName)).before a0 Z = true := hw _ (List.mem_of_getElem? (i := 134) rfl)
theorem w135 {a0 : Array Value} {Z : State} (hw : Ws a0 Z) : (Jvm.Cond.code ({ cls := "java/lang/String", name := "<init>", desc := "(Ljava/lang/AbstractStringBuilder;Ljava/lang/Void;)V" } : Jvm.MethodName) jdk_42_method_150_code (5 : Nat) (Option.none : Option Jvm.ClassFile.FieldType)).before a0 Z = true := hw _ (List.mem_of_getElem? (i := 135) rfl)
theorem w136 {a0 : Array Value} {Z : State} (hw : Ws a0 Z) : (Jvm.Cond.methodLink "java/lang/String" (552 : Nat) ({ cls := "java/lang/AbstractStringBuilder", name := "getValue", desc := "()[B" } : Jvm.MethodName)).before a0 Z = true := hw _ (List.mem_of_getElem? (i := 136) rfl)
theorem w137 {a0 : Array Value} {Z : State} (hw : Ws a0 Z) : (Jvm.Cond.declares ({ cls := "java/lang/AbstractStringBuilder", name := "getValue", desc := "()[B" } : Jvm.MethodName)).before a0 Z = true := hw _ (List.mem_of_getElem? (i := 137) rfl)
theorem w138 {a0 : Array Value} {Z : State} (hw : Ws a0 Z) : (Jvm.Cond.instanceMethod ({ cls := "java/lang/AbstractStringBuilder", name := "getValue", desc := "()[B" } : Jvm.MethodName)).before a0 Z = true := hw _ (List.mem_of_getElem? (i := 138) rfl)
theorem w139 {a0 : Array Value} {Z : State} (hw : Ws a0 Z) : (Jvm.Cond.selects "java/lang/StringBuilder" ({ cls := "java/lang/AbstractStringBuilder", name := "getValue", desc := "()[B" } : Jvm.MethodName) ({ cls := "java/lang/AbstractStringBuilder", name := "getValue", desc := "()[B" } : Jvm.MethodName)).before a0 Z = true := hw _ (List.mem_of_getElem? (i := 139) rfl)
theorem w140 {a0 : Array Value} {Z : State} (hw : Ws a0 Z) : (Jvm.Cond.code ({ cls := "java/lang/AbstractStringBuilder", name := "getValue", desc := "()[B" } : Jvm.MethodName) jdk_68_method_64_code (1 : Nat) (Option.some (Jvm.ClassFile.FieldType.array Jvm.ClassFile.FieldType.byte))).before a0 Z = true := hw _ (List.mem_of_getElem? (i := 140) rfl)
theorem w141 {a0 : Array Value} {Z : State} (hw : Ws a0 Z) : (Jvm.Cond.methodLink "java/lang/String" (549 : Nat) ({ cls := "java/lang/AbstractStringBuilder", name := "length", desc := "()I" } : Jvm.MethodName)).before a0 Z = true := hw _ (List.mem_of_getElem? (i := 141) rfl)
theorem w142 {a0 : Array Value} {Z : State} (hw : Ws a0 Z) : (Jvm.Cond.declares ({ cls := "java/lang/AbstractStringBuilder", name := "length", desc := "()I" } : Jvm.MethodName)).before a0 Z = true := hw _ (List.mem_of_getElem? (i := 142) rfl)
theorem w143 {a0 : Array Value} {Z : State} (hw : Ws a0 Z) : (Jvm.Cond.instanceMethod ({ cls := "java/lang/AbstractStringBuilder", name := "length", desc := "()I" } : Jvm.MethodName)).before a0 Z = true := hw _ (List.mem_of_getElem? (i := 143) rfl)
theorem w144 {a0 : Array Value} {Z : State} (hw : Ws a0 Z) : (Jvm.Cond.selects "java/lang/StringBuilder" ({ cls := "java/lang/AbstractStringBuilder", name := "length", desc := "()I" } : Jvm.MethodName) ({ cls := "java/lang/StringBuilder", name := "length", desc := "()I" } : Jvm.MethodName)).before a0 Z = true := hw _ (List.mem_of_getElem? (i := 144) rfl)
theorem w145 {a0 : Array Value} {Z : State} (hw : Ws a0 Z) : (Jvm.Cond.instanceMethod ({ cls := "java/lang/StringBuilder", name := "length", desc := "()I" } : Jvm.MethodName)).before a0 Z = true := hw _ (List.mem_of_getElem? (i := 145) rfl)
theorem w146 {a0 : Array Value} {Z : State} (hw : Ws a0 Z) : (Jvm.Cond.code ({ cls := "java/lang/StringBuilder", name := "length", desc := "()I" } : Jvm.MethodName) jdk_67_method_93_code (1 : Nat) (Option.some Jvm.ClassFile.FieldType.int)).before a0 Z = true := hw _ (List.mem_of_getElem? (i := 146) rfl)
theorem w147 {a0 : Array Value} {Z : State} (hw : Ws a0 Z) : (Jvm.Cond.methodLink "java/lang/StringBuilder" (343 : Nat) ({ cls := "java/lang/AbstractStringBuilder", name := "length", desc := "()I" } : Jvm.MethodName)).before a0 Z = true := hw _ (List.mem_of_getElem? (i := 147) rfl)
theorem w148 {a0 : Array Value} {Z : State} (hw : Ws a0 Z) : (Jvm.Cond.code ({ cls := "java/lang/AbstractStringBuilder", name := "length", desc := "()I" } : Jvm.MethodName) jdk_68_method_6_code (1 : Nat) (Option.some Jvm.ClassFile.FieldType.int)).before a0 Z = true := hw _ (List.mem_of_getElem? (i := 148) rfl)
theorem w149 {a0 : Array Value} {Z : State} (hw : Ws a0 Z) : (Jvm.Cond.methodLink "java/lang/String" (1047 : Nat) ({ cls := "java/lang/AbstractStringBuilder", name := "isLatin1", desc := "()Z" } : Jvm.MethodName)).before a0 Z = true := hw _ (List.mem_of_getElem? (i := 149) rfl)
theorem w150 {a0 : Array Value} {Z : State} (hw : Ws a0 Z) : (Jvm.Cond.declares ({ cls := "java/lang/AbstractStringBuilder", name := "isLatin1", desc := "()Z" } : Jvm.MethodName)).before a0 Z = true := hw _ (List.mem_of_getElem? (i := 150) rfl)
theorem w151 {a0 : Array Value} {Z : State} (hw : Ws a0 Z) : (Jvm.Cond.instanceMethod ({ cls := "java/lang/AbstractStringBuilder", name := "isLatin1", desc := "()Z" } : Jvm.MethodName)).before a0 Z = true := hw _ (List.mem_of_getElem? (i := 151) rfl)
theorem w152 {a0 : Array Value} {Z : State} (hw : Ws a0 Z) : (Jvm.Cond.selects "java/lang/StringBuilder" ({ cls := "java/lang/AbstractStringBuilder", name := "isLatin1", desc := "()Z" } : Jvm.MethodName) ({ cls := "java/lang/AbstractStringBuilder", name := "isLatin1", desc := "()Z" } : Jvm.MethodName)).before a0 Z = true := hw _ (List.mem_of_getElem? (i := 152) rfl)
theorem w153 {a0 : Array Value} {Z : State} (hw : Ws a0 Z) : (Jvm.Cond.code ({ cls := "java/lang/AbstractStringBuilder", name := "isLatin1", desc := "()Z" } : Jvm.MethodName) jdk_68_method_68_code (1 : Nat) (Option.some Jvm.ClassFile.FieldType.boolean)).before a0 Z = true := hw _ (List.mem_of_getElem? (i := 153) rfl)
theorem w154 {a0 : Array Value} {Z : State} (hw : Ws a0 Z) : (Jvm.Cond.methodLink "java/lang/String" (54 : Nat) ({ cls := "java/util/Arrays", name := "copyOfRange", desc := "([BII)[B" } : Jvm.MethodName)).before a0 Z = true := hw _ (List.mem_of_getElem? (i := 154) rfl)
theorem w155 {a0 : Array Value} {Z : State} (hw : Ws a0 Z) : (Jvm.Cond.static ({ cls := "java/util/Arrays", name := "copyOfRange", desc := "([BII)[B" } : Jvm.MethodName)).before a0 Z = true := hw _ (List.mem_of_getElem? (i := 155) rfl)
theorem w156 {a0 : Array Value} {Z : State} (hw : Ws a0 Z) : (Jvm.Cond.initialized "java/util/Arrays").before a0 Z = true := hw _ (List.mem_of_getElem? (i := 156) rfl)
theorem w157 {a0 : Array Value} {Z : State} (hw : Ws a0 Z) : (Jvm.Cond.code ({ cls := "java/util/Arrays", name := "copyOfRange", desc := "([BII)[B" } : Jvm.MethodName) jdk_65_method_132_code (3 : Nat) (Option.some (Jvm.ClassFile.FieldType.array Jvm.ClassFile.FieldType.byte))).before a0 Z = true := hw _ (List.mem_of_getElem? (i := 157) rfl)
theorem w158 {a0 : Array Value} {Z : State} (hw : Ws a0 Z) : (Jvm.Cond.methodLink "java/util/Arrays" (339 : Nat) ({ cls := "java/util/Arrays", name := "copyOfRangeByte", desc := "([BII)[B" } : Jvm.MethodName)).before a0 Z = true := hw _ (List.mem_of_getElem? (i := 158) rfl)
theorem w159 {a0 : Array Value} {Z : State} (hw : Ws a0 Z) : (Jvm.Cond.static ({ cls := "java/util/Arrays", name := "copyOfRangeByte", desc := "([BII)[B" } : Jvm.MethodName)).before a0 Z = true := hw _ (List.mem_of_getElem? (i := 159) rfl)
theorem w160 {a0 : Array Value} {Z : State} (hw : Ws a0 Z) : (Jvm.Cond.code ({ cls := "java/util/Arrays", name := "copyOfRangeByte", desc := "([BII)[B" } : Jvm.MethodName) jdk_65_method_133_code (5 : Nat) (Option.some (Jvm.ClassFile.FieldType.array Jvm.ClassFile.FieldType.byte))).before a0 Z = true := hw _ (List.mem_of_getElem? (i := 160) rfl)
theorem w161 {a0 : Array Value} {Z : State} (hw : Ws a0 Z) : (Jvm.Cond.methodLink "java/util/Arrays" (343 : Nat) ({ cls := "java/util/Arrays", name := "checkLength", desc := "(II)V" } : Jvm.MethodName)).before a0 Z = true := hw _ (List.mem_of_getElem? (i := 161) rfl)
theorem w162 {a0 : Array Value} {Z : State} (hw : Ws a0 Z) : (Jvm.Cond.static ({ cls := "java/util/Arrays", name := "checkLength", desc := "(II)V" } : Jvm.MethodName)).before a0 Z = true := hw _ (List.mem_of_getElem? (i := 162) rfl)
theorem w163 {a0 : Array Value} {Z : State} (hw : Ws a0 Z) : (Jvm.Cond.code ({ cls := "java/util/Arrays", name := "checkLength", desc := "(II)V" } : Jvm.MethodName) jdk_65_method_131_code (2 : Nat) (Option.none : Option Jvm.ClassFile.FieldType)).before a0 Z = true := hw _ (List.mem_of_getElem? (i := 163) rfl)
theorem w164 {a0 : Array Value} {Z : State} (hw : Ws a0 Z) : (Jvm.Cond.methodLink "java/util/Arrays" (304 : Nat) ({ cls := "java/lang/Math", name := "min", desc := "(II)I" } : Jvm.MethodName)).before a0 Z = true := hw _ (List.mem_of_getElem? (i := 164) rfl)
theorem w165 {a0 : Array Value} {Z : State} (hw : Ws a0 Z) : (Jvm.Cond.static ({ cls := "java/lang/Math", name := "min", desc := "(II)I" } : Jvm.MethodName)).before a0 Z = true := hw _ (List.mem_of_getElem? (i := 165) rfl)
theorem w166 {a0 : Array Value} {Z : State} (hw : Ws a0 Z) : (Jvm.Cond.initialized "java/lang/Math").before a0 Z = true := hw _ (List.mem_of_getElem? (i := 166) rfl)
theorem w167 {a0 : Array Value} {Z : State} (hw : Ws a0 Z) : (Jvm.Cond.code ({ cls := "java/lang/Math", name := "min", desc := "(II)I" } : Jvm.MethodName) jdk_29_method_69_code (2 : Nat) (Option.some Jvm.ClassFile.FieldType.int)).before a0 Z = true := hw _ (List.mem_of_getElem? (i := 167) rfl)
theorem w168 {a0 : Array Value} {Z : State} (hw : Ws a0 Z) : (Jvm.Cond.methodLink "java/util/Arrays" (150 : Nat) ({ cls := "java/lang/System", name := "arraycopy", desc := "(Ljava/lang/Object;ILjava/lang/Object;II)V" } : Jvm.MethodName)).before a0 Z = true := hw _ (List.mem_of_getElem? (i := 168) rfl)
theorem w169 {a0 : Array Value} {Z : State} (hw : Ws a0 Z) : (Jvm.Cond.methodLink "com/example/isomorph/isomorph/MethodNameToStringPinLaw" (27 : Nat) ({ cls := "java/lang/String", name := "equals", desc := "(Ljava/lang/Object;)Z" } : Jvm.MethodName)).before a0 Z = true := hw _ (List.mem_of_getElem? (i := 169) rfl)
theorem w170 {a0 : Array Value} {Z : State} (hw : Ws a0 Z) : (Jvm.Cond.declares ({ cls := "java/lang/String", name := "equals", desc := "(Ljava/lang/Object;)Z" } : Jvm.MethodName)).before a0 Z = true := hw _ (List.mem_of_getElem? (i := 170) rfl)
theorem w171 {a0 : Array Value} {Z : State} (hw : Ws a0 Z) : (Jvm.Cond.instanceMethod ({ cls := "java/lang/String", name := "equals", desc := "(Ljava/lang/Object;)Z" } : Jvm.MethodName)).before a0 Z = true := hw _ (List.mem_of_getElem? (i := 171) rfl)
theorem w172 {a0 : Array Value} {Z : State} (hw : Ws a0 Z) : (Jvm.Cond.selects "java/lang/String" ({ cls := "java/lang/String", name := "equals", desc := "(Ljava/lang/Object;)Z" } : Jvm.MethodName) ({ cls := "java/lang/String", name := "equals", desc := "(Ljava/lang/Object;)Z" } : Jvm.MethodName)).before a0 Z = true := hw _ (List.mem_of_getElem? (i := 172) rfl)
theorem w173 {a0 : Array Value} {Z : State} (hw : Ws a0 Z) : (Jvm.Cond.code ({ cls := "java/lang/String", name := "equals", desc := "(Ljava/lang/Object;)Z" } : Jvm.MethodName) jdk_42_method_66_code (3 : Nat) (Option.some Jvm.ClassFile.FieldType.boolean)).before a0 Z = true := hw _ (List.mem_of_getElem? (i := 173) rfl)
theorem d_jdk_65m131_0 : decode jdk_65_method_131_code 0 = .ok (.iload_n 1, 1) := by decide +kernel
theorem d_jdk_65m131_1 : decode jdk_65_method_131_code 1 = .ok (.iload_n 0, 1) := by decide +kernel
theorem d_jdk_65m131_2 : decode jdk_65_method_131_code 2 = .ok (.if_icmp .ge 35, 3) := by decide +kernel
theorem d_jdk_65m131_37 : decode jdk_65_method_131_code 37 = .ok (.return_, 1) := by decide +kernel
theorem d_jdk_29m69_0 : decode jdk_29_method_69_code 0 = .ok (.iload_n 0, 1) := by decide +kernel
theorem d_jdk_29m69_1 : decode jdk_29_method_69_code 1 = .ok (.iload_n 1, 1) := by decide +kernel
theorem d_jdk_29m69_2 : decode jdk_29_method_69_code 2 = .ok (.if_icmp .gt 7, 3) := by decide +kernel
theorem d_jdk_29m69_9 : decode jdk_29_method_69_code 9 = .ok (.iload_n 1, 1) := by decide +kernel
theorem d_jdk_29m69_10 : decode jdk_29_method_69_code 10 = .ok (.ireturn, 1) := by decide +kernel
theorem d_jdk_29m69_5 : decode jdk_29_method_69_code 5 = .ok (.iload_n 0, 1) := by decide +kernel
theorem d_jdk_29m69_6 : decode jdk_29_method_69_code 6 = .ok (.goto 4, 3) := by decide +kernel
theorem d_jdk_65m133_0 : decode jdk_65_method_133_code 0 = .ok (.iload_n 1, 1) := by decide +kernel
theorem d_jdk_65m133_1 : decode jdk_65_method_133_code 1 = .ok (.iload_n 2, 1) := by decide +kernel
theorem d_jdk_65m133_2 : decode jdk_65_method_133_code 2 = .ok (.invokestatic 343, 3) := by decide +kernel
theorem d_jdk_65m133_5 : decode jdk_65_method_133_code 5 = .ok (.iload_n 2, 1) := by decide +kernel
theorem d_jdk_65m133_6 : decode jdk_65_method_133_code 6 = .ok (.iload_n 1, 1) := by decide +kernel
theorem d_jdk_65m133_7 : decode jdk_65_method_133_code 7 = .ok (.isub, 1) := by decide +kernel
theorem d_jdk_65m133_8 : decode jdk_65_method_133_code 8 = .ok (.istore_n 3, 1) := by decide +kernel
theorem d_jdk_65m133_9 : decode jdk_65_method_133_code 9 = .ok (.iload_n 3, 1) := by decide +kernel
theorem d_jdk_65m133_10 : decode jdk_65_method_133_code 10 = .ok (.newarray .byte, 2) := by decide +kernel
theorem d_jdk_65m133_12 : decode jdk_65_method_133_code 12 = .ok (.astore 4, 2) := by decide +kernel
theorem d_jdk_65m133_14 : decode jdk_65_method_133_code 14 = .ok (.aload_n 0, 1) := by decide +kernel
theorem d_jdk_65m133_15 : decode jdk_65_method_133_code 15 = .ok (.iload_n 1, 1) := by decide +kernel
theorem d_jdk_65m133_16 : decode jdk_65_method_133_code 16 = .ok (.aload 4, 2) := by decide +kernel
theorem d_jdk_65m133_18 : decode jdk_65_method_133_code 18 = .ok (.iconst 0, 1) := by decide +kernel
theorem d_jdk_65m133_19 : decode jdk_65_method_133_code 19 = .ok (.aload_n 0, 1) := by decide +kernel
theorem d_jdk_65m133_20 : decode jdk_65_method_133_code 20 = .ok (.arraylength, 1) := by decide +kernel
theorem d_jdk_65m133_21 : decode jdk_65_method_133_code 21 = .ok (.iload_n 1, 1) := by decide +kernel
theorem d_jdk_65m133_22 : decode jdk_65_method_133_code 22 = .ok (.isub, 1) := by decide +kernel
theorem d_jdk_65m133_23 : decode jdk_65_method_133_code 23 = .ok (.iload_n 3, 1) := by decide +kernel
theorem d_jdk_65m133_24 : decode jdk_65_method_133_code 24 = .ok (.invokestatic 304, 3) := by decide +kernel
theorem d_jdk_65m133_27 : decode jdk_65_method_133_code 27 = .ok (.invokestatic 150, 3) := by decide +kernel
theorem d_jdk_65m133_30 : decode jdk_65_method_133_code 30 = .ok (.aload 4, 2) := by decide +kernel
theorem d_jdk_65m133_32 : decode jdk_65_method_133_code 32 = .ok (.areturn, 1) := by decide +kernel
theorem d_jdk_65m132_0 : decode jdk_65_method_132_code 0 = .ok (.iload_n 1, 1) := by decide +kernel
theorem d_jdk_65m132_1 : decode jdk_65_method_132_code 1 = .ok (.ifCond .ne 9, 3) := by decide +kernel
theorem d_jdk_65m132_10 : decode jdk_65_method_132_code 10 = .ok (.aload_n 0, 1) := by decide +kernel
theorem d_jdk_65m132_11 : decode jdk_65_method_132_code 11 = .ok (.iload_n 1, 1) := by decide +kernel
theorem d_jdk_65m132_12 : decode jdk_65_method_132_code 12 = .ok (.iload_n 2, 1) := by decide +kernel
theorem d_jdk_65m132_13 : decode jdk_65_method_132_code 13 = .ok (.invokestatic 339, 3) := by decide +kernel
theorem d_jdk_65m132_16 : decode jdk_65_method_132_code 16 = .ok (.areturn, 1) := by decide +kernel
theorem d_jdk_65m132_4 : decode jdk_65_method_132_code 4 = .ok (.iload_n 2, 1) := by decide +kernel
theorem d_jdk_65m132_5 : decode jdk_65_method_132_code 5 = .ok (.aload_n 0, 1) := by decide +kernel
theorem d_jdk_65m132_6 : decode jdk_65_method_132_code 6 = .ok (.arraylength, 1) := by decide +kernel
theorem d_jdk_65m132_7 : decode jdk_65_method_132_code 7 = .ok (.if_icmp .eq 10, 3) := by decide +kernel
theorem d_jdk_68m2_0 : decode jdk_68_method_2_code 0 = .ok (.aload_n 0, 1) := by decide +kernel
theorem d_jdk_68m2_1 : decode jdk_68_method_2_code 1 = .ok (.invokespecial 3, 3) := by decide +kernel
theorem d_jdk_68m2_4 : decode jdk_68_method_2_code 4 = .ok (.getstatic 18, 3) := by decide +kernel
theorem d_jdk_68m2_7 : decode jdk_68_method_2_code 7 = .ok (.ifCond .eq 18, 3) := by decide +kernel
theorem d_jdk_68m2_10 : decode jdk_68_method_2_code 10 = .ok (.aload_n 0, 1) := by decide +kernel
theorem d_jdk_68m2_11 : decode jdk_68_method_2_code 11 = .ok (.iload_n 1, 1) := by decide +kernel
theorem d_jdk_68m2_12 : decode jdk_68_method_2_code 12 = .ok (.newarray .byte, 2) := by decide +kernel
theorem d_jdk_68m2_14 : decode jdk_68_method_2_code 14 = .ok (.putfield 15, 3) := by decide +kernel
theorem d_jdk_68m2_17 : decode jdk_68_method_2_code 17 = .ok (.aload_n 0, 1) := by decide +kernel
theorem d_jdk_68m2_18 : decode jdk_68_method_2_code 18 = .ok (.iconst 0, 1) := by decide +kernel
theorem d_jdk_68m2_19 : decode jdk_68_method_2_code 19 = .ok (.putfield 22, 3) := by decide +kernel
theorem d_jdk_68m2_22 : decode jdk_68_method_2_code 22 = .ok (.goto 16, 3) := by decide +kernel
theorem d_jdk_68m2_38 : decode jdk_68_method_2_code 38 = .ok (.return_, 1) := by decide +kernel
theorem d_jdk_67m1_0 : decode jdk_67_method_1_code 0 = .ok (.aload_n 0, 1) := by decide +kernel
theorem d_jdk_67m1_1 : decode jdk_67_method_1_code 1 = .ok (.bipush 16, 2) := by decide +kernel
theorem d_jdk_67m1_3 : decode jdk_67_method_1_code 3 = .ok (.invokespecial 1, 3) := by decide +kernel
theorem d_jdk_67m1_6 : decode jdk_67_method_1_code 6 = .ok (.return_, 1) := by decide +kernel
theorem d_jdk_68m9_0 : decode jdk_68_method_9_code 0 = .ok (.aload_n 0, 1) := by decide +kernel
theorem d_jdk_68m9_1 : decode jdk_68_method_9_code 1 = .ok (.getfield 15, 3) := by decide +kernel
theorem d_jdk_68m9_4 : decode jdk_68_method_9_code 4 = .ok (.arraylength, 1) := by decide +kernel
theorem d_jdk_68m9_5 : decode jdk_68_method_9_code 5 = .ok (.aload_n 0, 1) := by decide +kernel
theorem d_jdk_68m9_6 : decode jdk_68_method_9_code 6 = .ok (.getfield 22, 3) := by decide +kernel
theorem d_jdk_68m9_9 : decode jdk_68_method_9_code 9 = .ok (.ishr, 1) := by decide +kernel
theorem d_jdk_68m9_10 : decode jdk_68_method_9_code 10 = .ok (.istore_n 2, 1) := by decide +kernel
theorem d_jdk_68m9_11 : decode jdk_68_method_9_code 11 = .ok (.iload_n 1, 1) := by decide +kernel
theorem d_jdk_68m9_12 : decode jdk_68_method_9_code 12 = .ok (.iload_n 2, 1) := by decide +kernel
theorem d_jdk_68m9_13 : decode jdk_68_method_9_code 13 = .ok (.isub, 1) := by decide +kernel
theorem d_jdk_68m9_14 : decode jdk_68_method_9_code 14 = .ok (.ifCond .le 24, 3) := by decide +kernel
theorem d_jdk_68m9_38 : decode jdk_68_method_9_code 38 = .ok (.return_, 1) := by decide +kernel
theorem d_jdk_42m152_0 : decode jdk_42_method_152_code 0 = .ok (.getstatic 38, 3) := by decide +kernel
theorem d_jdk_42m152_3 : decode jdk_42_method_152_code 3 = .ok (.ifCond .eq 10, 3) := by decide +kernel
theorem d_jdk_42m152_6 : decode jdk_42_method_152_code 6 = .ok (.aload_n 0, 1) := by decide +kernel
theorem d_jdk_42m152_7 : decode jdk_42_method_152_code 7 = .ok (.getfield 15, 3) := by decide +kernel
theorem d_jdk_42m152_10 : decode jdk_42_method_152_code 10 = .ok (.goto 4, 3) := by decide +kernel
theorem d_jdk_42m152_14 : decode jdk_42_method_152_code 14 = .ok (.ireturn, 1) := by decide +kernel
theorem d_jdk_68m71_0 : decode jdk_68_method_71_code 0 = .ok (.getstatic 18, 3) := by decide +kernel
theorem d_jdk_68m71_3 : decode jdk_68_method_71_code 3 = .ok (.ifCond .eq 18, 3) := by decide +kernel
theorem d_jdk_68m71_6 : decode jdk_68_method_71_code 6 = .ok (.aload_n 0, 1) := by decide +kernel
theorem d_jdk_68m71_7 : decode jdk_68_method_71_code 7 = .ok (.getfield 22, 3) := by decide +kernel
theorem d_jdk_68m71_10 : decode jdk_68_method_71_code 10 = .ok (.aload_n 1, 1) := by decide +kernel
theorem d_jdk_68m71_11 : decode jdk_68_method_71_code 11 = .ok (.invokevirtual 40, 3) := by decide +kernel
theorem d_jdk_68m71_14 : decode jdk_68_method_71_code 14 = .ok (.if_icmp .eq 7, 3) := by decide +kernel
theorem d_jdk_68m71_21 : decode jdk_68_method_71_code 21 = .ok (.return_, 1) := by decide +kernel
theorem d_jdk_42m147_0 : decode jdk_42_method_147_code 0 = .ok (.aload_n 0, 1) := by decide +kernel
theorem d_jdk_42m147_1 : decode jdk_42_method_147_code 1 = .ok (.invokevirtual 335, 3) := by decide +kernel
theorem d_jdk_42m147_4 : decode jdk_42_method_147_code 4 = .ok (.iload_n 3, 1) := by decide +kernel
theorem d_jdk_42m147_5 : decode jdk_42_method_147_code 5 = .ok (.if_icmp .ne 23, 3) := by decide +kernel
theorem d_jdk_42m147_8 : decode jdk_42_method_147_code 8 = .ok (.aload_n 0, 1) := by decide +kernel
theorem d_jdk_42m147_9 : decode jdk_42_method_147_code 9 = .ok (.getfield 9, 3) := by decide +kernel
theorem d_jdk_42m147_12 : decode jdk_42_method_147_code 12 = .ok (.iconst 0, 1) := by decide +kernel
theorem d_jdk_42m147_13 : decode jdk_42_method_147_code 13 = .ok (.aload_n 1, 1) := by decide +kernel
theorem d_jdk_42m147_14 : decode jdk_42_method_147_code 14 = .ok (.iload_n 2, 1) := by decide +kernel
theorem d_jdk_42m147_15 : decode jdk_42_method_147_code 15 = .ok (.iload_n 3, 1) := by decide +kernel
theorem d_jdk_42m147_16 : decode jdk_42_method_147_code 16 = .ok (.ishl, 1) := by decide +kernel
theorem d_jdk_42m147_17 : decode jdk_42_method_147_code 17 = .ok (.aload_n 0, 1) := by decide +kernel
theorem d_jdk_42m147_18 : decode jdk_42_method_147_code 18 = .ok (.getfield 9, 3) := by decide +kernel
theorem d_jdk_42m147_21 : decode jdk_42_method_147_code 21 = .ok (.arraylength, 1) := by decide +kernel
theorem d_jdk_42m147_22 : decode jdk_42_method_147_code 22 = .ok (.invokestatic 212, 3) := by decide +kernel
theorem d_jdk_42m147_25 : decode jdk_42_method_147_code 25 = .ok (.goto 18, 3) := by decide +kernel
theorem d_jdk_42m147_43 : decode jdk_42_method_147_code 43 = .ok (.return_, 1) := by decide +kernel
theorem d_jdk_68m73_0 : decode jdk_68_method_73_code 0 = .ok (.aload_n 0, 1) := by decide +kernel
theorem d_jdk_68m73_1 : decode jdk_68_method_73_code 1 = .ok (.aload_n 2, 1) := by decide +kernel
theorem d_jdk_68m73_2 : decode jdk_68_method_73_code 2 = .ok (.invokevirtual 397, 3) := by decide +kernel
theorem d_jdk_68m73_5 : decode jdk_68_method_73_code 5 = .ok (.aload_n 2, 1) := by decide +kernel
theorem d_jdk_68m73_6 : decode jdk_68_method_73_code 6 = .ok (.aload_n 0, 1) := by decide +kernel
theorem d_jdk_68m73_7 : decode jdk_68_method_73_code 7 = .ok (.getfield 15, 3) := by decide +kernel
theorem d_jdk_68m73_10 : decode jdk_68_method_73_code 10 = .ok (.iload_n 1, 1) := by decide +kernel
theorem d_jdk_68m73_11 : decode jdk_68_method_73_code 11 = .ok (.aload_n 0, 1) := by decide +kernel
theorem d_jdk_68m73_12 : decode jdk_68_method_73_code 12 = .ok (.getfield 22, 3) := by decide +kernel
theorem d_jdk_68m73_15 : decode jdk_68_method_73_code 15 = .ok (.invokevirtual 399, 3) := by decide +kernel
theorem d_jdk_68m73_18 : decode jdk_68_method_73_code 18 = .ok (.return_, 1) := by decide +kernel
theorem d_jdk_68m22_0 : decode jdk_68_method_22_code 0 = .ok (.aload_n 1, 1) := by decide +kernel
theorem d_jdk_68m22_1 : decode jdk_68_method_22_code 1 = .ok (.ifnonnull 8, 3) := by decide +kernel
theorem d_jdk_68m22_9 : decode jdk_68_method_22_code 9 = .ok (.aload_n 1, 1) := by decide +kernel
theorem d_jdk_68m22_10 : decode jdk_68_method_22_code 10 = .ok (.invokevirtual 32, 3) := by decide +kernel
theorem d_jdk_68m22_13 : decode jdk_68_method_22_code 13 = .ok (.istore_n 2, 1) := by decide +kernel
theorem d_jdk_68m22_14 : decode jdk_68_method_22_code 14 = .ok (.aload_n 0, 1) := by decide +kernel
theorem d_jdk_68m22_15 : decode jdk_68_method_22_code 15 = .ok (.aload_n 0, 1) := by decide +kernel
theorem d_jdk_68m22_16 : decode jdk_68_method_22_code 16 = .ok (.getfield 79, 3) := by decide +kernel
theorem d_jdk_68m22_19 : decode jdk_68_method_22_code 19 = .ok (.iload_n 2, 1) := by decide +kernel
theorem d_jdk_68m22_20 : decode jdk_68_method_22_code 20 = .ok (.iadd, 1) := by decide +kernel
theorem d_jdk_68m22_21 : decode jdk_68_method_22_code 21 = .ok (.invokevirtual 100, 3) := by decide +kernel
theorem d_jdk_68m22_24 : decode jdk_68_method_22_code 24 = .ok (.aload_n 0, 1) := by decide +kernel
theorem d_jdk_68m22_25 : decode jdk_68_method_22_code 25 = .ok (.aload_n 0, 1) := by decide +kernel
theorem d_jdk_68m22_26 : decode jdk_68_method_22_code 26 = .ok (.getfield 79, 3) := by decide +kernel
theorem d_jdk_68m22_29 : decode jdk_68_method_22_code 29 = .ok (.aload_n 1, 1) := by decide +kernel
theorem d_jdk_68m22_30 : decode jdk_68_method_22_code 30 = .ok (.invokevirtual 208, 3) := by decide +kernel
theorem d_jdk_68m22_33 : decode jdk_68_method_22_code 33 = .ok (.aload_n 0, 1) := by decide +kernel
theorem d_jdk_68m22_34 : decode jdk_68_method_22_code 34 = .ok (.dup, 1) := by decide +kernel
theorem d_jdk_68m22_35 : decode jdk_68_method_22_code 35 = .ok (.getfield 79, 3) := by decide +kernel
theorem d_jdk_68m22_38 : decode jdk_68_method_22_code 38 = .ok (.iload_n 2, 1) := by decide +kernel
theorem d_jdk_68m22_39 : decode jdk_68_method_22_code 39 = .ok (.iadd, 1) := by decide +kernel
theorem d_jdk_68m22_40 : decode jdk_68_method_22_code 40 = .ok (.putfield 79, 3) := by decide +kernel
theorem d_jdk_68m22_43 : decode jdk_68_method_22_code 43 = .ok (.aload_n 0, 1) := by decide +kernel
theorem d_jdk_68m22_44 : decode jdk_68_method_22_code 44 = .ok (.areturn, 1) := by decide +kernel
theorem d_jdk_67m7_0 : decode jdk_67_method_7_code 0 = .ok (.aload_n 0, 1) := by decide +kernel
theorem d_jdk_67m7_1 : decode jdk_67_method_7_code 1 = .ok (.aload_n 1, 1) := by decide +kernel
theorem d_jdk_67m7_2 : decode jdk_67_method_7_code 2 = .ok (.invokespecial 29, 3) := by decide +kernel
theorem d_jdk_67m7_5 : decode jdk_67_method_7_code 5 = .ok (.pop, 1) := by decide +kernel
theorem d_jdk_67m7_6 : decode jdk_67_method_7_code 6 = .ok (.aload_n 0, 1) := by decide +kernel
theorem d_jdk_67m7_7 : decode jdk_67_method_7_code 7 = .ok (.areturn, 1) := by decide +kernel
theorem d_jdk_68m64_0 : decode jdk_68_method_64_code 0 = .ok (.aload_n 0, 1) := by decide +kernel
theorem d_jdk_68m64_1 : decode jdk_68_method_64_code 1 = .ok (.getfield 15, 3) := by decide +kernel
theorem d_jdk_68m64_4 : decode jdk_68_method_64_code 4 = .ok (.areturn, 1) := by decide +kernel
theorem d_jdk_68m6_0 : decode jdk_68_method_6_code 0 = .ok (.aload_n 0, 1) := by decide +kernel
theorem d_jdk_68m6_1 : decode jdk_68_method_6_code 1 = .ok (.getfield 79, 3) := by decide +kernel
theorem d_jdk_68m6_4 : decode jdk_68_method_6_code 4 = .ok (.ireturn, 1) := by decide +kernel
theorem d_jdk_67m93_0 : decode jdk_67_method_93_code 0 = .ok (.aload_n 0, 1) := by decide +kernel
theorem d_jdk_67m93_1 : decode jdk_67_method_93_code 1 = .ok (.invokespecial 343, 3) := by decide +kernel
theorem d_jdk_67m93_4 : decode jdk_67_method_93_code 4 = .ok (.ireturn, 1) := by decide +kernel
theorem d_jdk_68m68_0 : decode jdk_68_method_68_code 0 = .ok (.getstatic 18, 3) := by decide +kernel
theorem d_jdk_68m68_3 : decode jdk_68_method_68_code 3 = .ok (.ifCond .eq 14, 3) := by decide +kernel
theorem d_jdk_68m68_6 : decode jdk_68_method_68_code 6 = .ok (.aload_n 0, 1) := by decide +kernel
theorem d_jdk_68m68_7 : decode jdk_68_method_68_code 7 = .ok (.getfield 22, 3) := by decide +kernel
theorem d_jdk_68m68_10 : decode jdk_68_method_68_code 10 = .ok (.ifCond .ne 7, 3) := by decide +kernel
theorem d_jdk_68m68_13 : decode jdk_68_method_68_code 13 = .ok (.iconst 1, 1) := by decide +kernel
theorem d_jdk_68m68_14 : decode jdk_68_method_68_code 14 = .ok (.goto 4, 3) := by decide +kernel
theorem d_jdk_68m68_18 : decode jdk_68_method_68_code 18 = .ok (.ireturn, 1) := by decide +kernel
theorem d_jdk_42m150_0 : decode jdk_42_method_150_code 0 = .ok (.aload_n 0, 1) := by decide +kernel
theorem d_jdk_42m150_1 : decode jdk_42_method_150_code 1 = .ok (.invokespecial 1, 3) := by decide +kernel
theorem d_jdk_42m150_4 : decode jdk_42_method_150_code 4 = .ok (.aload_n 1, 1) := by decide +kernel
theorem d_jdk_42m150_5 : decode jdk_42_method_150_code 5 = .ok (.invokevirtual 552, 3) := by decide +kernel
theorem d_jdk_42m150_8 : decode jdk_42_method_150_code 8 = .ok (.astore_n 3, 1) := by decide +kernel
theorem d_jdk_42m150_9 : decode jdk_42_method_150_code 9 = .ok (.aload_n 1, 1) := by decide +kernel
theorem d_jdk_42m150_10 : decode jdk_42_method_150_code 10 = .ok (.invokevirtual 549, 3) := by decide +kernel
theorem d_jdk_42m150_13 : decode jdk_42_method_150_code 13 = .ok (.istore 4, 2) := by decide +kernel
theorem d_jdk_42m150_15 : decode jdk_42_method_150_code 15 = .ok (.aload_n 1, 1) := by decide +kernel
theorem d_jdk_42m150_16 : decode jdk_42_method_150_code 16 = .ok (.invokevirtual 1047, 3) := by decide +kernel
theorem d_jdk_42m150_19 : decode jdk_42_method_150_code 19 = .ok (.ifCond .eq 22, 3) := by decide +kernel
theorem d_jdk_42m150_22 : decode jdk_42_method_150_code 22 = .ok (.aload_n 0, 1) := by decide +kernel
theorem d_jdk_42m150_23 : decode jdk_42_method_150_code 23 = .ok (.iconst 0, 1) := by decide +kernel
theorem d_jdk_42m150_24 : decode jdk_42_method_150_code 24 = .ok (.putfield 15, 3) := by decide +kernel
theorem d_jdk_42m150_27 : decode jdk_42_method_150_code 27 = .ok (.aload_n 0, 1) := by decide +kernel
theorem d_jdk_42m150_28 : decode jdk_42_method_150_code 28 = .ok (.aload_n 3, 1) := by decide +kernel
theorem d_jdk_42m150_29 : decode jdk_42_method_150_code 29 = .ok (.iconst 0, 1) := by decide +kernel
theorem d_jdk_42m150_30 : decode jdk_42_method_150_code 30 = .ok (.iload 4, 2) := by decide +kernel
theorem d_jdk_42m150_32 : decode jdk_42_method_150_code 32 = .ok (.invokestatic 54, 3) := by decide +kernel
theorem d_jdk_42m150_35 : decode jdk_42_method_150_code 35 = .ok (.putfield 9, 3) := by decide +kernel
theorem d_jdk_42m150_38 : decode jdk_42_method_150_code 38 = .ok (.goto 59, 3) := by decide +kernel
theorem d_jdk_42m150_97 : decode jdk_42_method_150_code 97 = .ok (.return_, 1) := by decide +kernel
theorem d_jdk_42m53_0 : decode jdk_42_method_53_code 0 = .ok (.aload_n 0, 1) := by decide +kernel
theorem d_jdk_42m53_1 : decode jdk_42_method_53_code 1 = .ok (.aload_n 1, 1) := by decide +kernel
theorem d_jdk_42m53_2 : decode jdk_42_method_53_code 2 = .ok (.aconst_null, 1) := by decide +kernel
theorem d_jdk_42m53_3 : decode jdk_42_method_53_code 3 = .ok (.invokespecial 489, 3) := by decide +kernel
theorem d_jdk_42m53_6 : decode jdk_42_method_53_code 6 = .ok (.return_, 1) := by decide +kernel
theorem d_jdk_67m42_0 : decode jdk_67_method_42_code 0 = .ok (.new 18, 3) := by decide +kernel
theorem d_jdk_67m42_3 : decode jdk_67_method_42_code 3 = .ok (.dup, 1) := by decide +kernel
theorem d_jdk_67m42_4 : decode jdk_67_method_42_code 4 = .ok (.aload_n 0, 1) := by decide +kernel
theorem d_jdk_67m42_5 : decode jdk_67_method_42_code 5 = .ok (.invokespecial 137, 3) := by decide +kernel
theorem d_jdk_67m42_8 : decode jdk_67_method_42_code 8 = .ok (.areturn, 1) := by decide +kernel
theorem d_jdk_42m149_0 : decode jdk_42_method_149_code 0 = .ok (.aload_n 0, 1) := by decide +kernel
theorem d_jdk_42m149_1 : decode jdk_42_method_149_code 1 = .ok (.invokespecial 1, 3) := by decide +kernel
theorem d_jdk_42m149_4 : decode jdk_42_method_149_code 4 = .ok (.iload_n 3, 1) := by decide +kernel
theorem d_jdk_42m149_5 : decode jdk_42_method_149_code 5 = .ok (.ifCond .ne 22, 3) := by decide +kernel
theorem d_jdk_42m149_8 : decode jdk_42_method_149_code 8 = .ok (.aload_n 0, 1) := by decide +kernel
theorem d_jdk_42m149_9 : decode jdk_42_method_149_code 9 = .ok (.ldc 7, 2) := by decide +kernel
theorem d_jdk_42m149_11 : decode jdk_42_method_149_code 11 = .ok (.getfield 9, 3) := by decide +kernel
theorem d_jdk_42m149_14 : decode jdk_42_method_149_code 14 = .ok (.putfield 9, 3) := by decide +kernel
theorem d_jdk_42m149_17 : decode jdk_42_method_149_code 17 = .ok (.aload_n 0, 1) := by decide +kernel
theorem d_jdk_42m149_18 : decode jdk_42_method_149_code 18 = .ok (.ldc 7, 2) := by decide +kernel
theorem d_jdk_42m149_20 : decode jdk_42_method_149_code 20 = .ok (.getfield 15, 3) := by decide +kernel
theorem d_jdk_42m149_23 : decode jdk_42_method_149_code 23 = .ok (.putfield 15, 3) := by decide +kernel
theorem d_jdk_42m149_26 : decode jdk_42_method_149_code 26 = .ok (.return_, 1) := by decide +kernel
theorem d_jdk_42m3_0 : decode jdk_42_method_3_code 0 = .ok (.aload_n 0, 1) := by decide +kernel
theorem d_jdk_42m3_1 : decode jdk_42_method_3_code 1 = .ok (.aload_n 1, 1) := by decide +kernel
theorem d_jdk_42m3_2 : decode jdk_42_method_3_code 2 = .ok (.iconst 0, 1) := by decide +kernel
theorem d_jdk_42m3_3 : decode jdk_42_method_3_code 3 = .ok (.aload_n 1, 1) := by decide +kernel
theorem d_jdk_42m3_4 : decode jdk_42_method_3_code 4 = .ok (.arraylength, 1) := by decide +kernel
theorem d_jdk_42m3_5 : decode jdk_42_method_3_code 5 = .ok (.aconst_null, 1) := by decide +kernel
theorem d_jdk_42m3_6 : decode jdk_42_method_3_code 6 = .ok (.invokespecial 27, 3) := by decide +kernel
theorem d_jdk_42m3_9 : decode jdk_42_method_3_code 9 = .ok (.return_, 1) := by decide +kernel
theorem d_method_2_0 : decode method_2_code 0 = .ok (.iload_n 0, 1) := by decide +kernel
theorem d_method_2_1 : decode method_2_code 1 = .ok (.ifCond .ne 14, 3) := by decide +kernel
theorem d_method_2_4 : decode method_2_code 4 = .ok (.new 7, 3) := by decide +kernel
theorem d_method_2_7 : decode method_2_code 7 = .ok (.dup, 1) := by decide +kernel
theorem d_method_2_8 : decode method_2_code 8 = .ok (.iconst 0, 1) := by decide +kernel
theorem d_method_2_9 : decode method_2_code 9 = .ok (.newarray .char, 2) := by decide +kernel
theorem d_method_2_11 : decode method_2_code 11 = .ok (.invokespecial 9, 3) := by decide +kernel
theorem d_method_2_14 : decode method_2_code 14 = .ok (.areturn, 1) := by decide +kernel
theorem d_method_2_15 : decode method_2_code 15 = .ok (.iload_n 0, 1) := by decide +kernel
theorem d_method_2_16 : decode method_2_code 16 = .ok (.iconst 1, 1) := by decide +kernel
theorem d_method_2_17 : decode method_2_code 17 = .ok (.if_icmp .ne 18, 3) := by decide +kernel
theorem d_method_2_20 : decode method_2_code 20 = .ok (.new 7, 3) := by decide +kernel
theorem d_method_2_23 : decode method_2_code 23 = .ok (.dup, 1) := by decide +kernel
theorem d_method_2_24 : decode method_2_code 24 = .ok (.iconst 1, 1) := by decide +kernel
theorem d_method_2_25 : decode method_2_code 25 = .ok (.newarray .char, 2) := by decide +kernel
theorem d_method_2_27 : decode method_2_code 27 = .ok (.dup, 1) := by decide +kernel
theorem d_method_2_28 : decode method_2_code 28 = .ok (.iconst 0, 1) := by decide +kernel
theorem d_method_2_29 : decode method_2_code 29 = .ok (.iload_n 1, 1) := by decide +kernel
theorem d_method_2_30 : decode method_2_code 30 = .ok (.castore, 1) := by decide +kernel
theorem d_method_2_31 : decode method_2_code 31 = .ok (.invokespecial 9, 3) := by decide +kernel
theorem d_method_2_34 : decode method_2_code 34 = .ok (.areturn, 1) := by decide +kernel
theorem d_method_2_35 : decode method_2_code 35 = .ok (.iload_n 0, 1) := by decide +kernel
theorem d_method_2_36 : decode method_2_code 36 = .ok (.iconst 2, 1) := by decide +kernel
theorem d_method_2_37 : decode method_2_code 37 = .ok (.if_icmp .ne 22, 3) := by decide +kernel
theorem d_method_2_40 : decode method_2_code 40 = .ok (.new 7, 3) := by decide +kernel
theorem d_method_2_43 : decode method_2_code 43 = .ok (.dup, 1) := by decide +kernel
theorem d_method_2_44 : decode method_2_code 44 = .ok (.iconst 2, 1) := by decide +kernel
theorem d_method_2_45 : decode method_2_code 45 = .ok (.newarray .char, 2) := by decide +kernel
theorem d_method_2_47 : decode method_2_code 47 = .ok (.dup, 1) := by decide +kernel
theorem d_method_2_48 : decode method_2_code 48 = .ok (.iconst 0, 1) := by decide +kernel
theorem d_method_2_49 : decode method_2_code 49 = .ok (.iload_n 1, 1) := by decide +kernel
theorem d_method_2_50 : decode method_2_code 50 = .ok (.castore, 1) := by decide +kernel
theorem d_method_2_51 : decode method_2_code 51 = .ok (.dup, 1) := by decide +kernel
theorem d_method_2_52 : decode method_2_code 52 = .ok (.iconst 1, 1) := by decide +kernel
theorem d_method_2_53 : decode method_2_code 53 = .ok (.iload_n 2, 1) := by decide +kernel
theorem d_method_2_54 : decode method_2_code 54 = .ok (.castore, 1) := by decide +kernel
theorem d_method_2_55 : decode method_2_code 55 = .ok (.invokespecial 9, 3) := by decide +kernel
theorem d_method_2_58 : decode method_2_code 58 = .ok (.areturn, 1) := by decide +kernel
theorem d_method_2_59 : decode method_2_code 59 = .ok (.new 7, 3) := by decide +kernel
theorem d_method_2_62 : decode method_2_code 62 = .ok (.dup, 1) := by decide +kernel
theorem d_method_2_63 : decode method_2_code 63 = .ok (.iconst 3, 1) := by decide +kernel
theorem d_method_2_64 : decode method_2_code 64 = .ok (.newarray .char, 2) := by decide +kernel
theorem d_method_2_66 : decode method_2_code 66 = .ok (.dup, 1) := by decide +kernel
theorem d_method_2_67 : decode method_2_code 67 = .ok (.iconst 0, 1) := by decide +kernel
theorem d_method_2_68 : decode method_2_code 68 = .ok (.iload_n 1, 1) := by decide +kernel
theorem d_method_2_69 : decode method_2_code 69 = .ok (.castore, 1) := by decide +kernel
theorem d_method_2_70 : decode method_2_code 70 = .ok (.dup, 1) := by decide +kernel
theorem d_method_2_71 : decode method_2_code 71 = .ok (.iconst 1, 1) := by decide +kernel
theorem d_method_2_72 : decode method_2_code 72 = .ok (.iload_n 2, 1) := by decide +kernel
theorem d_method_2_73 : decode method_2_code 73 = .ok (.castore, 1) := by decide +kernel
theorem d_method_2_74 : decode method_2_code 74 = .ok (.dup, 1) := by decide +kernel
theorem d_method_2_75 : decode method_2_code 75 = .ok (.iconst 2, 1) := by decide +kernel
theorem d_method_2_76 : decode method_2_code 76 = .ok (.iload_n 3, 1) := by decide +kernel
theorem d_method_2_77 : decode method_2_code 77 = .ok (.castore, 1) := by decide +kernel
theorem d_method_2_78 : decode method_2_code 78 = .ok (.invokespecial 9, 3) := by decide +kernel
theorem d_method_2_81 : decode method_2_code 81 = .ok (.areturn, 1) := by decide +kernel
theorem d_jdk_30m1_0 : decode jdk_30_method_1_code 0 = .ok (.aload_n 0, 1) := by decide +kernel
theorem d_jdk_30m1_1 : decode jdk_30_method_1_code 1 = .ok (.invokespecial 1, 3) := by decide +kernel
theorem d_jdk_30m1_4 : decode jdk_30_method_1_code 4 = .ok (.return_, 1) := by decide +kernel
theorem d_prog_2m1_0 : decode prog_2_method_1_code 0 = .ok (.aload_n 0, 1) := by decide +kernel
theorem d_prog_2m1_1 : decode prog_2_method_1_code 1 = .ok (.invokespecial 1, 3) := by decide +kernel
theorem d_prog_2m1_4 : decode prog_2_method_1_code 4 = .ok (.aload_n 0, 1) := by decide +kernel
theorem d_prog_2m1_5 : decode prog_2_method_1_code 5 = .ok (.aload_n 1, 1) := by decide +kernel
theorem d_prog_2m1_6 : decode prog_2_method_1_code 6 = .ok (.putfield 7, 3) := by decide +kernel
theorem d_prog_2m1_9 : decode prog_2_method_1_code 9 = .ok (.aload_n 0, 1) := by decide +kernel
theorem d_prog_2m1_10 : decode prog_2_method_1_code 10 = .ok (.aload_n 2, 1) := by decide +kernel
theorem d_prog_2m1_11 : decode prog_2_method_1_code 11 = .ok (.putfield 13, 3) := by decide +kernel
theorem d_prog_2m1_14 : decode prog_2_method_1_code 14 = .ok (.return_, 1) := by decide +kernel
theorem d_prog_2m5_0 : decode prog_2_method_5_code 0 = .ok (.new 44, 3) := by decide +kernel
theorem d_prog_2m5_3 : decode prog_2_method_5_code 3 = .ok (.dup, 1) := by decide +kernel
theorem d_prog_2m5_4 : decode prog_2_method_5_code 4 = .ok (.invokespecial 46, 3) := by decide +kernel
theorem d_prog_2m5_7 : decode prog_2_method_5_code 7 = .ok (.aload_n 0, 1) := by decide +kernel
theorem d_prog_2m5_8 : decode prog_2_method_5_code 8 = .ok (.getfield 7, 3) := by decide +kernel
theorem d_prog_2m5_11 : decode prog_2_method_5_code 11 = .ok (.invokevirtual 49, 3) := by decide +kernel
theorem d_prog_2m5_14 : decode prog_2_method_5_code 14 = .ok (.ldc 83, 2) := by decide +kernel
theorem d_prog_2m5_16 : decode prog_2_method_5_code 16 = .ok (.invokevirtual 49, 3) := by decide +kernel
theorem d_prog_2m5_19 : decode prog_2_method_5_code 19 = .ok (.aload_n 0, 1) := by decide +kernel
theorem d_prog_2m5_20 : decode prog_2_method_5_code 20 = .ok (.getfield 13, 3) := by decide +kernel
theorem d_prog_2m5_23 : decode prog_2_method_5_code 23 = .ok (.invokevirtual 49, 3) := by decide +kernel
theorem d_prog_2m5_26 : decode prog_2_method_5_code 26 = .ok (.invokevirtual 55, 3) := by decide +kernel
theorem d_prog_2m5_29 : decode prog_2_method_5_code 29 = .ok (.areturn, 1) := by decide +kernel
theorem pd0 : parseMethodDescriptor "(II)V" = some ⟨[.int, .int], none⟩ := by decide +kernel
theorem pd1 : parseMethodDescriptor "(II)I" = some ⟨[.int, .int], some .int⟩ := by decide +kernel
theorem pd2 : parseMethodDescriptor "([BII)[B" = some ⟨[(.array .byte), .int, .int], some (.array .byte)⟩ := by decide +kernel
theorem pd3 : parseMethodDescriptor "(I)V" = some ⟨[.int], none⟩ := by decide +kernel
theorem pd4 : parseMethodDescriptor "()B" = some ⟨[], some .byte⟩ := by decide +kernel
theorem pd5 : parseMethodDescriptor "(Ljava/lang/String;)V" = some ⟨[(.object "java/lang/String")], none⟩ := by decide +kernel
theorem pd6 : parseMethodDescriptor "([BIB)V" = some ⟨[(.array .byte), .int, .byte], none⟩ := by decide +kernel
theorem pd7 : parseMethodDescriptor "()I" = some ⟨[], some .int⟩ := by decide +kernel
theorem pd8 : parseMethodDescriptor "(ILjava/lang/String;)V" = some ⟨[.int, (.object "java/lang/String")], none⟩ := by decide +kernel
theorem pd9 : parseMethodDescriptor "(Ljava/lang/String;)Ljava/lang/AbstractStringBuilder;" = some ⟨[(.object "java/lang/String")], some (.object "java/lang/AbstractStringBuilder")⟩ := by decide +kernel
theorem pd10 : parseMethodDescriptor "()[B" = some ⟨[], some (.array .byte)⟩ := by decide +kernel
theorem pd11 : parseMethodDescriptor "()Z" = some ⟨[], some .boolean⟩ := by decide +kernel
theorem pd12 : parseMethodDescriptor "(Ljava/lang/AbstractStringBuilder;Ljava/lang/Void;)V" = some ⟨[(.object "java/lang/AbstractStringBuilder"), (.object "java/lang/Void")], none⟩ := by decide +kernel
theorem pd13 : parseMethodDescriptor "(Ljava/lang/StringBuilder;)V" = some ⟨[(.object "java/lang/StringBuilder")], none⟩ := by decide +kernel
theorem pd14 : parseMethodDescriptor "([CIILjava/lang/Void;)V" = some ⟨[(.array .char), .int, .int, (.object "java/lang/Void")], none⟩ := by decide +kernel
theorem pd15 : parseMethodDescriptor "([C)V" = some ⟨[(.array .char)], none⟩ := by decide +kernel
theorem pd16 : parseMethodDescriptor "()V" = some ⟨[], none⟩ := by decide +kernel
theorem pd17 : parseMethodDescriptor "(Ljava/lang/String;)Ljava/lang/StringBuilder;" = some ⟨[(.object "java/lang/String")], some (.object "java/lang/StringBuilder")⟩ := by decide +kernel
theorem pd18 : parseMethodDescriptor "()Ljava/lang/String;" = some ⟨[], some (.object "java/lang/String")⟩ := by decide +kernel
theorem pd19 : parseMethodDescriptor "(ICCC)Ljava/lang/String;" = some ⟨[.int, .char, .char, .char], some (.object "java/lang/String")⟩ := by decide +kernel
theorem pd20 : parseMethodDescriptor "(Ljava/lang/String;Ljava/lang/String;)V" = some ⟨[(.object "java/lang/String"), (.object "java/lang/String")], none⟩ := by decide +kernel
theorem pd21 : parseMethodDescriptor "(Ljava/lang/Object;)Z" = some ⟨[(.object "java/lang/Object")], some .boolean⟩ := by decide +kernel
theorem pn0 : plainName "java/util/Arrays" = true := by first | (simp [plainName, overriddenIn]; done) | decide +kernel
theorem pn1 : plainName "java/lang/AbstractStringBuilder" = true := by first | (simp [plainName, overriddenIn]; done) | decide +kernel
theorem pn2 : plainName "java/lang/StringBuilder" = true := by first | (simp [plainName, overriddenIn]; done) | decide +kernel
theorem pn3 : plainName "java/lang/String" = true := by first | (simp [plainName, overriddenIn]; done) | decide +kernel
theorem pn4 : plainName "com/example/isomorph/isomorph/MethodNameToStringPinLaw" = true := by first | (simp [plainName, overriddenIn]; done) | decide +kernel
theorem pn5 : plainName "java/lang/Record" = true := by first | (simp [plainName, overriddenIn]; done) | decide +kernel
theorem pn6 : plainName "com/example/isomorph/isomorph/MethodName" = true := by first | (simp [plainName, overriddenIn]; done) | decide +kernel
theorem ef0 (m : MethodId) (x0 : Int32) (x1 : Int32) : entryFrame m #[(.int x0), (.int x1)] 2 = mkF m 0 #[.val (.int x0), .val (.int x1)] [] := by (first | (simp [entryFrame, mkF, argsToLocals, Value.category]; done) | rfl)
theorem ef1 (m : MethodId) (x0 : Int32) (x1 : Int32) : entryFrame m #[(.int x0), (.int x1)] 2 = mkF m 0 #[.val (.int x0), .val (.int x1)] [] := by (first | (simp [entryFrame, mkF, argsToLocals, Value.category]; done) | rfl)
theorem ef2 (m : MethodId) (x0 : Addr) (x1 : Int32) (x2 : Int32) : entryFrame m #[(.ref x0), (.int x1), (.int x2)] 5 = mkF m 0 #[.val (.ref x0), .val (.int x1), .val (.int x2), .unset, .unset] [] := by (first | (simp [entryFrame, mkF, argsToLocals, Value.category]; done) | rfl)
theorem ef3 (m : MethodId) (x0 : Addr) (x1 : Int32) (x2 : Int32) : entryFrame m #[(.ref x0), (.int x1), (.int x2)] 3 = mkF m 0 #[.val (.ref x0), .val (.int x1), .val (.int x2)] [] := by (first | (simp [entryFrame, mkF, argsToLocals, Value.category]; done) | rfl)
theorem ef4 (m : MethodId) (x0 : Addr) : entryFrame m #[(.ref x0), (.int (16 : Int32))] 2 = mkF m 0 #[.val (.ref x0), .val (.int (16 : Int32))] [] := by (first | (simp [entryFrame, mkF, argsToLocals, Value.category]; done) | rfl)
theorem ef5 (m : MethodId) (x0 : Addr) : entryFrame m #[(.ref x0)] 1 = mkF m 0 #[.val (.ref x0)] [] := by (first | (simp [entryFrame, mkF, argsToLocals, Value.category]; done) | rfl)
theorem ef6 (m : MethodId) (x0 : Addr) (x1 : Int32) : entryFrame m #[(.ref x0), (.int x1)] 3 = mkF m 0 #[.val (.ref x0), .val (.int x1), .unset] [] := by (first | (simp [entryFrame, mkF, argsToLocals, Value.category]; done) | rfl)
theorem ef7 (m : MethodId) (x0 : Addr) : entryFrame m #[(.ref x0)] 1 = mkF m 0 #[.val (.ref x0)] [] := by (first | (simp [entryFrame, mkF, argsToLocals, Value.category]; done) | rfl)
theorem ef8 (m : MethodId) (x0 : Addr) (x1 : Addr) : entryFrame m #[(.ref x0), (.ref x1)] 2 = mkF m 0 #[.val (.ref x0), .val (.ref x1)] [] := by (first | (simp [entryFrame, mkF, argsToLocals, Value.category]; done) | rfl)
theorem ef9 (m : MethodId) (x0 : Addr) (x1 : Addr) (x2 : Int32) : entryFrame m #[(.ref x0), (.ref x1), (.int x2), (.int (0 : Int32))] 4 = mkF m 0 #[.val (.ref x0), .val (.ref x1), .val (.int x2), .val (.int (0 : Int32))] [] := by (first | (simp [entryFrame, mkF, argsToLocals, Value.category]; done) | rfl)
theorem ef10 (m : MethodId) (x0 : Addr) (x1 : Int32) (x2 : Addr) : entryFrame m #[(.ref x0), (.int x1), (.ref x2)] 3 = mkF m 0 #[.val (.ref x0), .val (.int x1), .val (.ref x2)] [] := by (first | (simp [entryFrame, mkF, argsToLocals, Value.category]; done) | rfl)
theorem ef11 (m : MethodId) (x0 : Addr) (x1 : Addr) : entryFrame m #[(.ref x0), (.ref x1)] 3 = mkF m 0 #[.val (.ref x0), .val (.ref x1), .unset] [] := by (first | (simp [entryFrame, mkF, argsToLocals, Value.category]; done) | rfl)
theorem ef12 (m : MethodId) (x0 : Addr) (x1 : Addr) : entryFrame m #[(.ref x0), (.ref x1)] 2 = mkF m 0 #[.val (.ref x0), .val (.ref x1)] [] := by (first | (simp [entryFrame, mkF, argsToLocals, Value.category]; done) | rfl)
theorem ef13 (m : MethodId) (x0 : Addr) : entryFrame m #[(.ref x0)] 1 = mkF m 0 #[.val (.ref x0)] [] := by (first | (simp [entryFrame, mkF, argsToLocals, Value.category]; done) | rfl)
theorem ef14 (m : MethodId) (x0 : Addr) : entryFrame m #[(.ref x0)] 1 = mkF m 0 #[.val (.ref x0)] [] := by (first | (simp [entryFrame, mkF, argsToLocals, Value.category]; done) | rfl)
theorem ef15 (m : MethodId) (x0 : Addr) : entryFrame m #[(.ref x0)] 1 = mkF m 0 #[.val (.ref x0)] [] := by (first | (simp [entryFrame, mkF, argsToLocals, Value.category]; done) | rfl)
theorem ef16 (m : MethodId) (x0 : Addr) : entryFrame m #[(.ref x0)] 1 = mkF m 0 #[.val (.ref x0)] [] := by (first | (simp [entryFrame, mkF, argsToLocals, Value.category]; done) | rfl)
theorem ef17 (m : MethodId) (x0 : Addr) (x1 : Addr) : entryFrame m #[(.ref x0), (.ref x1), .null] 5 = mkF m 0 #[.val (.ref x0), .val (.ref x1), .val .null, .unset, .unset] [] := by (first | (simp [entryFrame, mkF, argsToLocals, Value.category]; done) | rfl)
theorem ef18 (m : MethodId) (x0 : Addr) (x1 : Addr) : entryFrame m #[(.ref x0), (.ref x1)] 2 = mkF m 0 #[.val (.ref x0), .val (.ref x1)] [] := by (first | (simp [entryFrame, mkF, argsToLocals, Value.category]; done) | rfl)
theorem ef19 (m : MethodId) (x0 : Addr) : entryFrame m #[(.ref x0)] 1 = mkF m 0 #[.val (.ref x0)] [] := by (first | (simp [entryFrame, mkF, argsToLocals, Value.category]; done) | rfl)
theorem ef20 (m : MethodId) (x0 : Addr) (x1 : Addr) : entryFrame m #[(.ref x0), (.ref x1), (.int (0 : Int32)), (.int (0 : Int32)), .null] 6 = mkF m 0 #[.val (.ref x0), .val (.ref x1), .val (.int (0 : Int32)), .val (.int (0 : Int32)), .val .null, .unset] [] := by (first | (simp [entryFrame, mkF, argsToLocals, Value.category]; done) | rfl)
theorem ef21 (m : MethodId) (x0 : Addr) (x1 : Addr) : entryFrame m #[(.ref x0), (.ref x1)] 2 = mkF m 0 #[.val (.ref x0), .val (.ref x1)] [] := by (first | (simp [entryFrame, mkF, argsToLocals, Value.category]; done) | rfl)
theorem ef22 (m : MethodId) (x1 : Int32) (x2 : Int32) (x3 : Int32) : entryFrame m #[(.int (0 : Int32)), (.int x1), (.int x2), (.int x3)] 4 = mkF m 0 #[.val (.int (0 : Int32)), .val (.int x1), .val (.int x2), .val (.int x3)] [] := by (first | (simp [entryFrame, mkF, argsToLocals, Value.category]; done) | rfl)
theorem ef23 (m : MethodId) (x1 : Int32) (x2 : Int32) (x3 : Int32) : entryFrame m #[(.int (1 : Int32)), (.int x1), (.int x2), (.int x3)] 4 = mkF m 0 #[.val (.int (1 : Int32)), .val (.int x1), .val (.int x2), .val (.int x3)] [] := by (first | (simp [entryFrame, mkF, argsToLocals, Value.category]; done) | rfl)
theorem ef24 (m : MethodId) (x1 : Int32) (x2 : Int32) (x3 : Int32) : entryFrame m #[(.int (2 : Int32)), (.int x1), (.int x2), (.int x3)] 4 = mkF m 0 #[.val (.int (2 : Int32)), .val (.int x1), .val (.int x2), .val (.int x3)] [] := by (first | (simp [entryFrame, mkF, argsToLocals, Value.category]; done) | rfl)
theorem ef25 (m : MethodId) (x1 : Int32) (x2 : Int32) (x3 : Int32) : entryFrame m #[(.int (3 : Int32)), (.int x1), (.int x2), (.int x3)] 4 = mkF m 0 #[.val (.int (3 : Int32)), .val (.int x1), .val (.int x2), .val (.int x3)] [] := by (first | (simp [entryFrame, mkF, argsToLocals, Value.category]; done) | rfl)
theorem ef26 (m : MethodId) (x0 : Addr) : entryFrame m #[(.ref x0)] 1 = mkF m 0 #[.val (.ref x0)] [] := by (first | (simp [entryFrame, mkF, argsToLocals, Value.category]; done) | rfl)
theorem ef27 (m : MethodId) (x0 : Addr) (x1 : Addr) (x2 : Addr) : entryFrame m #[(.ref x0), (.ref x1), (.ref x2)] 3 = mkF m 0 #[.val (.ref x0), .val (.ref x1), .val (.ref x2)] [] := by (first | (simp [entryFrame, mkF, argsToLocals, Value.category]; done) | rfl)
theorem ef28 (m : MethodId) (x0 : Addr) : entryFrame m #[(.ref x0)] 1 = mkF m 0 #[.val (.ref x0)] [] := by (first | (simp [entryFrame, mkF, argsToLocals, Value.category]; done) | rfl)
theorem ef29 (m : MethodId) (x0 : Int32) (x1 : Int32) (x2 : Int32) (x3 : Int32) (x4 : Int32) (x5 : Int32) : entryFrame m #[(.int x0), (.int x1), (.int x2), (.int x3), (.int x4), (.int x5)] maxLocals = mkF m 0 #[.val (.int x0), .val (.int x1), .val (.int x2), .val (.int x3), .val (.int x4), .val (.int x5), .unset, .unset, .unset, .unset, .unset, .unset, .unset, .unset, .unset, .unset, .unset, .unset, .unset] [] := by (first | (simp [entryFrame, mkF, argsToLocals, Value.category, maxLocals]; done) | rfl)
/-- the String at x spells cs (Latin-1, at most 4,000 signs) -/
def Str (Z : State) (h : Heap) (x : Addr) (cs : List Int32) : Prop := Exa Z h x StN ∧ Fld Z h x StN "coder" "B" (.int 0) ∧ (∃ t, Fld Z h x StN "value" "[B" (.ref t) ∧ Wk.Ary Z h t .byte ((cs.map fun c => c.toInt8.toInt32).map Value.int)) ∧ (∀ c ∈ cs, ¬ c < 0 ∧ ¬ (255 : Int32) < c) ∧ cs.length ≤ 4000
theorem Str.ext {Z : State} {h h' : Heap} {x : Addr} {cs : List Int32} (F : Str Z h x cs) (E : Ext h h') : Str Z h' x cs := by
  obtain ⟨a, b, ⟨t, c, d⟩, r⟩ := F
  exact ⟨a.ext E, b.ext E, ⟨t, c.ext E, d.ext E⟩, r⟩
theorem Str.exa {Z : State} {h : Heap} {x : Addr} {cs : List Int32} (F : Str Z h x cs) : Exa Z h x StN := F.1
theorem Str.lt {Z : State} {h : Heap} {x : Addr} {cs : List Int32} (F : Str Z h x cs) : x < h.size := F.1.lt
theorem strNew {l : Launch} {R : Room} {Z : State} {W : Wk.Wd} {a0 : Array Value} {own nm : String} {code : ByteArray} {maxL : Nat} {ret : Option FieldType} (C : Wk.Cx Z W own nm code maxL ret) (hw : Ws a0 Z) (hs : Sets Z) {h : Heap} (O : Ext Z.heap h) {x b : Addr} {cs : List Int32} {n Wn : Nat} {v0 c0 : Value}
    (hx0 : Z.heap.size ≤ x) (E : Exa Z h x StN) (V : Fld Z h x StN "value" "[B" v0) (Cd : Fld Z h x StN "coder" "B" c0) (K : Wk.Ary Z h b .char (cs.map Value.int)) (hn : cs.length = n) (l0 : 0 < n) (l2 : n ≤ 4000) (hp : ∀ c ∈ cs, ¬ c < 0 ∧ ¬ (255 : Int32) < c) (hfr : 4 ≤ R.frames) (hlo : Wn + 65 ≤ R.locals) :
    Wk.Pays l R W (⟨"java/lang/String", "<init>", "([C)V"⟩ : MethodName) 3 Wn #[.ref x, .ref b] h 1 n (StrChars.Road.QV Z x (Int32.ofNat n) (cs.map fun c => c.toInt8.toInt32) h Z.heap.size) := by
  obtain ⟨z, fm, S1, hz, -, -⟩ := hs
  obtain ⟨kc, A⟩ := K.arv (d := .int 0)
  rw [List.length_map, hn] at A
  have hws : ∀ d ∈ StrChars.Road.words, d.before a0 Z = true := fun d hd => hw d ((by decide +kernel : ∀ d ∈ StrChars.Road.words, d ∈ tables_1) d hd)
  exact StrChars.Road.backV (W := Wn) C.hZ hws (kI := 4) (w5 hw) (cs := cs) hx0 O.1 E V Cd A (S1.ext O) hz hn rfl l0 l2 hp rfl hfr hlo
theorem strNewC {Z : State} {h : Heap} {x : Addr} {cs : List Int32} {n : Nat} (O : Ext Z.heap h) (hx0 : Z.heap.size ≤ x) (hn : cs.length = n) (l2 : n ≤ 4000) (hp : ∀ c ∈ cs, ¬ c < 0 ∧ ¬ (255 : Int32) < c) :
    Wk.Clean Z (fun v h' => v = none ∧ Keep h h' [x] ∧ Str Z h' x cs) (StrChars.Road.QV Z x (Int32.ofNat n) (cs.map fun c => c.toInt8.toInt32) h Z.heap.size) := by
  rintro v h' L ⟨rfl, N, K, E, Cd, t, kb, -, -, -, V, A⟩
  refine ⟨⟨rfl, K, E, Cd, ⟨t, V, Wk.Ary.of_arv A ?_⟩, hp, by omega⟩, Wk.Ext.keep1 (Z := Z) O K hx0, N⟩
  rw [Int32.toNatClampNeg_ofNat_of_lt (by omega)]; simp [hn]
theorem pureC {Z : State} {h : Heap} {P : Option Value → Prop} (O : Ext Z.heap h) : Wk.Clean Z (fun v h' => P v ∧ h' = h) (fun v h' L => P v ∧ L = [] ∧ h' = h) := by
  rintro v h' L ⟨q, rfl, rfl⟩
  exact ⟨⟨q, rfl⟩, O, Fr.nil _⟩
theorem strLen {l : Launch} {R : Room} {Z : State} {W : Wk.Wd} {a0 : Array Value} {own nm : String} {code : ByteArray} {maxL : Nat} {ret : Option FieldType} (C : Wk.Cx Z W own nm code maxL ret) (hw : Ws a0 Z) (hs : Sets Z) {h : Heap} (O : Ext Z.heap h) {x : Addr} {cs : List Int32} {Wn : Nat} (F : Str Z h x cs) (hfr : 2 ≤ R.frames) (hlo : Wn + 25 ≤ R.locals) :
    Wk.Pays l R W (⟨"java/lang/String", "length", "()I"⟩ : MethodName) 3 Wn #[.ref x] h 0 0 (fun v h' L => v = some (.int (Int32.ofNat cs.length)) ∧ L = [] ∧ h' = h) := by
  obtain ⟨z, fm, S1, hz, -, -⟩ := hs
  obtain ⟨E, Cd, ⟨t, V, K⟩, hp, l2⟩ := F
  obtain ⟨kc, A⟩ := K.arv (d := .int 0)
  have hws : ∀ d ∈ StrChars.Road.wordsLen, d.before a0 Z = true := fun d hd => hw d ((by decide +kernel : ∀ d ∈ StrChars.Road.wordsLen, d ∈ tables_1) d hd)
  rw [List.length_map, List.length_map] at A
  exact StrChars.Road.lenW (W := Wn) C.hZ hws (kI := 4) (w5 hw) E V Cd A (StrChars.Road.codOf rfl fun c hc => (hp c hc).2) (fun c hc => ⟨(hp c hc).1, fun q => (hp c hc).2 (Int32.lt_trans (by decide) q)⟩) (S1.ext O) hz l2 hfr hlo
theorem strEq {l : Launch} {R : Room} {Z : State} {W : Wk.Wd} {a0 : Array Value} {own nm : String} {code : ByteArray} {maxL : Nat} {ret : Option FieldType} (C : Wk.Cx Z W own nm code maxL ret) (hw : Ws a0 Z) (hs : Sets Z) {h : Heap} (O : Ext Z.heap h) {x y : Addr} {cs ds : List Int32} {Wn : Nat} (F : Str Z h x cs) (G : Str Z h y ds) (hfr : 2 ≤ R.frames) (hlo : Wn + 28 ≤ R.locals) :
    Wk.Pays l R W (⟨"java/lang/String", "equals", "(Ljava/lang/Object;)Z"⟩ : MethodName) 3 Wn #[.ref x, .ref y] h 0 0 (fun v h' L => ((v = some (.int 1) ∧ cs = ds) ∨ (v = some (.int 0) ∧ ¬ cs = ds)) ∧ L = [] ∧ h' = h) := by
  obtain ⟨z, fm, S1, hz, S2, rf⟩ := hs
  obtain ⟨E, Cd, ⟨t, V, K⟩, hp, l2⟩ := F
  obtain ⟨E', Cd', ⟨t', V', K'⟩, hp', l2'⟩ := G
  obtain ⟨kc, A⟩ := K.arv (d := .int 0)
  obtain ⟨kc', A'⟩ := K'.arv (d := .int 0)
  have hws : ∀ d ∈ StrChars.Road.wordsEq, d.before a0 Z = true := fun d hd => hw d ((by decide +kernel : ∀ d ∈ StrChars.Road.wordsEq, d ∈ tables_1) d hd)
  rw [List.length_map, List.length_map] at A A'
  exact StrChars.Road.eqW (W := Wn) C.hZ hws (kI := 4) (w5 hw) E V Cd A (StrChars.Road.codOf rfl fun c hc => (hp c hc).2) (fun c hc => ⟨(hp c hc).1, fun q => (hp c hc).2 (Int32.lt_trans (by decide) q)⟩) l2 E' V' Cd' A' (StrChars.Road.codOf rfl fun c hc => (hp' c hc).2) (fun c hc => ⟨(hp' c hc).1, fun q => (hp' c hc).2 (Int32.lt_trans (by decide) q)⟩) l2' (S1.ext O) hz hfr hlo
namespace Ww
open Jvm Jvm.ClassFile Sem Op Lib Jvm.Free Jvm.Stand Jvm.LawKit Jvm.RoadKit Wk
def Go (R : Room) (Z : State) (EL : List (String × Nat)) (W : Wd) (Q : Post) (A : State) : Prop :=
  ∃ s₂ o, Steps W.p.tables W.e W.b A s₂ ∧ s₂.status = .running ∧ Ended s₂ W.b o ∧ ∃ v L, o = .returned v ∧ (Q v s₂.heap ∧ Ext Z.heap s₂.heap ∧ Fr Z.heap.size L) ∧ CHr Z EL W.s.vm W.s.heap s₂.vm s₂.heap ∧ ReturnedEndW W.s o s₂ L R.cells R.slots
abbrev At (W : Wd) (vm0 : Vm) : Wd := (W.p, W.e, W.s.setVm vm0, W.m, W.a, W.b, W.t, W.c)
abbrev Std (l : Launch) (R : Room) (W : Wd) (vm0 : Vm) (T : State) (locs : List Loc) (k n : Nat) : Prop := Stand W.p l W.e R (W.s.setVm vm0) W.m W.a W.b W.t W.c T locs k n
def Inv (Z : State) (EL : List (String × Nat)) (W : Wd) (S : List Addr) (vm0 : Vm) (h : Heap) : Prop :=
  (∃ k0, W.s.Since vm0 k0 ∧ k0 ≤ h.size) ∧ Z.Warmed39 vm0 ∧ CHr Z EL W.s.vm W.s.heap vm0 h ∧ ∀ x ∈ S, x < h.size ∧ Safe Z EL vm0 h x
def Run (l : Launch) (R : Room) (Z : State) (EL : List (String × Nat)) (W : Wd) (Q : Post) (S : List Addr) (h : Heap) (k n : Nat) (f : JFrame) : Prop :=
  ∀ vm0 T locs, Std l R W vm0 T locs k n → T.heap = h → Fr Z.heap.size locs → Ext Z.heap h → Inv Z EL W S vm0 h → Go R Z EL W Q (T.setTop f)
section Kit
variable {l : Launch} {R : Room} {Z : State} {EL : List (String × Nat)} {W : Wd} {Q : Post} {S : List Addr} {h : Heap} {k n : Nat} {own nm : String} {code : ByteArray} {maxL : Nat} {ret : Option FieldType} {a0 : Array Value} {pc pc' : Nat} {Ls : Array Slot} {st : List Value}
theorem Inv.hZ {vm0 : Vm} (I : Inv Z EL W S vm0 h) : Z.Warmed39 (W.s.setVm vm0).vm := I.2.1
theorem Inv.ow {vm0 : Vm} (I : Inv Z EL W S vm0 h) (C : Cx Z W own nm code maxL ret) : (W.s.setVm vm0).vm.findClass own = some W.m.cls := by
  obtain ⟨k0, hS, -⟩ := I.1
  show vm0.findClass own = _
  rw [hS.1.alike.findClass]; exact C.ow
theorem Inv.cx {vm0 : Vm} (I : Inv Z EL W S vm0 h) (C : Cx Z W own nm code maxL ret) : Cx Z (At W vm0) own nm code maxL ret :=
  ⟨C.1, C.2.1, C.2.2.1, I.ow C, I.hZ, C.2.2.2.2.2.1, C.2.2.2.2.2.2.1, C.2.2.2.2.2.2.2⟩
theorem Inv.ch {vm0 : Vm} (I : Inv Z EL W S vm0 h) : CHv Z EL vm0 h := I.2.2.1.1
theorem Inv.ext {vm0 : Vm} {h' : Heap} (I : Inv Z EL W S vm0 h) (E : Ext h h') : Inv Z EL W S vm0 h' := by
  obtain ⟨⟨k0, hS, hk⟩, hZ, hr, hs⟩ := I
  exact ⟨⟨k0, hS, Nat.le_trans hk E.1⟩, hZ, hr.trans (CHr.ext E hr.1), fun x hx => ⟨Nat.lt_of_lt_of_le (hs x hx).1 E.1, (hs x hx).2.ext E hr.1⟩⟩
theorem Inv.keep {vm0 : Vm} {h' : Heap} {ws : List Addr} (I : Inv Z EL W S vm0 h) (K : Keep h h' ws) (q : ∀ x ∈ ws, x ∈ S) : Inv Z EL W S vm0 h' := by
  obtain ⟨⟨k0, hS, hk⟩, hZ, hr, hs⟩ := I
  have hq : ∀ x ∈ ws, Safe Z EL vm0 h x := fun x hx => (hs x (q x hx)).2
  exact ⟨⟨k0, hS, Nat.le_trans hk K.1⟩, hZ, hr.trans (CHr.keep K hq hr.1), fun x hx => ⟨Nat.lt_of_lt_of_le (hs x hx).1 K.1, (hs x hx).2.keep K hq hr.1⟩⟩
theorem Inv.add {vm0 : Vm} {x : Addr} (I : Inv Z EL W S vm0 h) (hx : x < h.size) (sf : Safe Z EL vm0 h x) : Inv Z EL W (x :: S) vm0 h :=
  ⟨I.1, I.2.1, I.2.2.1, fun y hy => (List.mem_cons.mp hy).elim (fun e => e ▸ ⟨hx, sf⟩) (I.2.2.2 y)⟩
theorem Inv.fresh {vm0 : Vm} {h' : Heap} (I : Inv Z EL W S vm0 h) (E : Ext h h') (hx : h.size < h'.size) : Inv Z EL W (h.size :: S) vm0 h' :=
  (I.ext E).add hx ((Safe.new (Nat.le_refl _)).ext E I.ch)
theorem Go.step {A B : State} (f : ∀ t, Steps W.p.tables W.e W.b B t → Steps W.p.tables W.e W.b A t) (g : Go R Z EL W Q B) : Go R Z EL W Q A := by
  obtain ⟨t, o, h1, r⟩ := g
  exact ⟨t, o, f t h1, r⟩
theorem Run.one {g g' : JFrame} (f : ∀ vm0 T locs, Std l R W vm0 T locs k n → T.heap = h → Inv Z EL W S vm0 h → ∀ t, Steps W.p.tables W.e W.b (T.setTop g') t → Steps W.p.tables W.e W.b (T.setTop g) t) (r : Run l R Z EL W Q S h k n g') : Run l R Z EL W Q S h k n g :=
  fun vm0 T locs X eT N O I => Go.step (f vm0 T locs X eT I) (r vm0 T locs X eT N O I)
theorem Run.old {f : JFrame} (r : Ext Z.heap h → Run l R Z EL W Q S h k n f) : Run l R Z EL W Q S h k n f := fun vm0 T locs X eT N O I => r O vm0 T locs X eT N O I
theorem Run.grow {f : JFrame} {k' n' : Nat} (hk : k ≤ k') (hn : n ≤ n') (r : Run l R Z EL W Q S h k' n' f) : Run l R Z EL W Q S h k n f := fun vm0 T locs X eT N O I =>
  r vm0 T locs ⟨X.admits, X.cas, X.clock, X.frames, X.room, X.hears, X.method, X.code, X.here, X.tail, X.warmed, X.limits, X.bytes, X.same.mono hk hn⟩ eT N O I
theorem Run.less {f : JFrame} {S' : List Addr} (q : ∀ x ∈ S', x ∈ S) (r : Run l R Z EL W Q S' h k n f) : Run l R Z EL W Q S h k n f := fun vm0 T locs X eT N O I => r vm0 T locs X eT N O ⟨I.1, I.2.1, I.2.2.1, fun x hx => I.2.2.2 x (q x hx)⟩
/-- what is no constant of EL's, by what it holds -/
def SafeAt (Z : State) (EL : List (String × Nat)) (h : Heap) (x : Addr) : Prop := ∀ vm, Z.vm.Alike vm → CHv Z EL vm h → Safe Z EL vm h x
theorem Run.safe {f : JFrame} {x : Addr} (hx : x < h.size) (sf : SafeAt Z EL h x) (r : Run l R Z EL W Q (x :: S) h k n f) : Run l R Z EL W Q S h k n f :=
  fun vm0 T locs X eT N O I => r vm0 T locs X eT N O (I.add hx (sf vm0 I.2.1.alike I.ch))
theorem SafeAt.exa {x : Addr} {C : String} (E : Exa Z h x C) (h1 : C ≠ "java/lang/String") (h2 : C ≠ "[B") : SafeAt Z EL h x := fun vm al _ => Safe.exa al E h1 h2
theorem SafeAt.ary {x : Addr} {ty : FieldType} {vs : List Value} (F : Ary Z h x ty vs) (ht : ty ≠ .byte) : SafeAt Z EL h x := fun vm al _ => by
  obtain ⟨c, A, -⟩ := F
  exact Safe.arr al A ht
theorem SafeAt.str0 {x : Addr} (E : Exa Z h x "java/lang/String") (V : Fld Z h x "java/lang/String" "value" "[B" .null) : SafeAt Z EL h x := fun vm al _ B => by
  obtain ⟨p, -, u, a, -, q, -, F, rfl | rfl⟩ := B
  · obtain ⟨cS, ⟨⟨ha, -, -, ⟨c1, k1, i1, f1, -⟩, -, -, -, v1, -⟩, -⟩, -⟩ := F
    obtain ⟨cell, cf, k, i, f, h1, h2, -, -, -, -, h7⟩ := V
    cases (show h[q.sa]? = some q.sC from ha).symm.trans h1
    obtain ⟨k3, e3, -⟩ := State.fieldFound?_setVm (s := Z) al h2
    have e4 := (show (Wst Z vm h).fieldFound? _ _ _ = _ from e3).symm.trans f1
    simp only [Option.some.injEq, Prod.mk.injEq] at e4
    rw [e4.2.2.2, v1] at h7
    cases h7
  · obtain ⟨cell, k, e1, e2, -⟩ := E
    cases (show h[q.sd]? = some q.SA from F.hd).symm.trans e1
    obtain ⟨cS, -, -, f, -⟩ := F
    have f' : Z.vm.findClass "[B" = some q.SA.cls := by rw [← al.findClass]; exact f
    exact ids_ne f' e2 (by decide) rfl
theorem iloadN (C : Cx Z W own nm code maxL ret) {i : Fin 4} {v : Int32} (hd : decode code pc = .ok (.iload_n i, 1)) (hl : Ls[i.val]? = some (.val (.int v))) (hp : pc + 1 = pc')
    (r : Run l R Z EL W Q S h k n (mkF W.m pc' Ls (.int v :: st))) : Run l R Z EL W Q S h k n (mkF W.m pc Ls (st)) := by
  subst hp
  exact Run.one (fun vm0 T locs X _ I t g => XS.iloadN X.here C.hx rfl (C.hb hd) hl g) r
theorem iload (C : Cx Z W own nm code maxL ret) {i : Nat} {v : Int32} (hd : decode code pc = .ok (.iload i, 2)) (hl : Ls[i]? = some (.val (.int v))) (hp : pc + 2 = pc')
    (r : Run l R Z EL W Q S h k n (mkF W.m pc' Ls (.int v :: st))) : Run l R Z EL W Q S h k n (mkF W.m pc Ls (st)) := by
  subst hp
  exact Run.one (fun vm0 T locs X _ I t g => XS.iload X.here C.hx rfl (C.hb hd) hl g) r
theorem lloadN (C : Cx Z W own nm code maxL ret) {i : Fin 4} {v : Int64} (hd : decode code pc = .ok (.lload_n i, 1)) (hl : Ls[i.val]? = some (.val (.long v))) (hp : pc + 1 = pc')
    (r : Run l R Z EL W Q S h k n (mkF W.m pc' Ls (.long v :: st))) : Run l R Z EL W Q S h k n (mkF W.m pc Ls (st)) := by
  subst hp
  exact Run.one (fun vm0 T locs X _ I t g => XS.lloadN X.here C.hx rfl (C.hb hd) hl g) r
theorem lload (C : Cx Z W own nm code maxL ret) {i : Nat} {v : Int64} (hd : decode code pc = .ok (.lload i, 2)) (hl : Ls[i]? = some (.val (.long v))) (hp : pc + 2 = pc')
    (r : Run l R Z EL W Q S h k n (mkF W.m pc' Ls (.long v :: st))) : Run l R Z EL W Q S h k n (mkF W.m pc Ls (st)) := by
  subst hp
  exact Run.one (fun vm0 T locs X _ I t g => XS.lload X.here C.hx rfl (C.hb hd) hl g) r
theorem aloadN (C : Cx Z W own nm code maxL ret) {i : Fin 4} {v : Value} (hd : decode code pc = .ok (.aload_n i, 1)) (hl : Ls[i.val]? = some (.val v)) (hv : v.isRef = true) (hp : pc + 1 = pc')
    (r : Run l R Z EL W Q S h k n (mkF W.m pc' Ls (v :: st))) : Run l R Z EL W Q S h k n (mkF W.m pc Ls (st)) := by
  subst hp
  exact Run.one (fun vm0 T locs X _ I t g => XS.aloadN X.here C.hx rfl (C.hb hd) hl hv g) r
theorem aload (C : Cx Z W own nm code maxL ret) {i : Nat} {v : Value} (hd : decode code pc = .ok (.aload i, 2)) (hl : Ls[i]? = some (.val v)) (hv : v.isRef = true) (hp : pc + 2 = pc')
    (r : Run l R Z EL W Q S h k n (mkF W.m pc' Ls (v :: st))) : Run l R Z EL W Q S h k n (mkF W.m pc Ls (st)) := by
  subst hp
  exact Run.one (fun vm0 T locs X _ I t g => XS.aload X.here C.hx rfl (C.hb hd) hl hv g) r
theorem istoreN (C : Cx Z W own nm code maxL ret) {i : Fin 4} {v : Int32} {Ls' : Array Slot} (hd : decode code pc = .ok (.istore_n i, 1)) (hl : storeLocals Ls i.val (.int v) = some Ls') (hp : pc + 1 = pc')
    (r : Run l R Z EL W Q S h k n (mkF W.m pc' Ls' (st))) : Run l R Z EL W Q S h k n (mkF W.m pc Ls (.int v :: st)) := by
  subst hp
  exact Run.one (fun vm0 T locs X _ I t g => XS.istoreN X.here C.hx rfl (C.hb hd) rfl hl g) r
theorem istore (C : Cx Z W own nm code maxL ret) {i : Nat} {v : Int32} {Ls' : Array Slot} (hd : decode code pc = .ok (.istore i, 2)) (hl : storeLocals Ls i (.int v) = some Ls') (hp : pc + 2 = pc')
    (r : Run l R Z EL W Q S h k n (mkF W.m pc' Ls' (st))) : Run l R Z EL W Q S h k n (mkF W.m pc Ls (.int v :: st)) := by
  subst hp
  exact Run.one (fun vm0 T locs X _ I t g => XS.istore X.here C.hx rfl (C.hb hd) rfl hl g) r
theorem lstoreN (C : Cx Z W own nm code maxL ret) {i : Fin 4} {v : Int64} {Ls' : Array Slot} (hd : decode code pc = .ok (.lstore_n i, 1)) (hl : storeLocals Ls i.val (.long v) = some Ls') (hp : pc + 1 = pc')
    (r : Run l R Z EL W Q S h k n (mkF W.m pc' Ls' (st))) : Run l R Z EL W Q S h k n (mkF W.m pc Ls (.long v :: st)) := by
  subst hp
  exact Run.one (fun vm0 T locs X _ I t g => XS.lstoreN X.here C.hx rfl (C.hb hd) rfl hl g) r
theorem lstore (C : Cx Z W own nm code maxL ret) {i : Nat} {v : Int64} {Ls' : Array Slot} (hd : decode code pc = .ok (.lstore i, 2)) (hl : storeLocals Ls i (.long v) = some Ls') (hp : pc + 2 = pc')
    (r : Run l R Z EL W Q S h k n (mkF W.m pc' Ls' (st))) : Run l R Z EL W Q S h k n (mkF W.m pc Ls (.long v :: st)) := by
  subst hp
  exact Run.one (fun vm0 T locs X _ I t g => XS.lstore X.here C.hx rfl (C.hb hd) rfl hl g) r
theorem astoreN (C : Cx Z W own nm code maxL ret) {i : Fin 4} {v : Value} {Ls' : Array Slot} (hd : decode code pc = .ok (.astore_n i, 1)) (hv : v.isRef = true) (hl : storeLocals Ls i.val v = some Ls') (hp : pc + 1 = pc')
    (r : Run l R Z EL W Q S h k n (mkF W.m pc' Ls' (st))) : Run l R Z EL W Q S h k n (mkF W.m pc Ls (v :: st)) := by
  subst hp
  exact Run.one (fun vm0 T locs X _ I t g => XS.astoreN X.here C.hx rfl (C.hb hd) rfl hv hl g) r
theorem astore (C : Cx Z W own nm code maxL ret) {i : Nat} {v : Value} {Ls' : Array Slot} (hd : decode code pc = .ok (.astore i, 2)) (hv : v.isRef = true) (hl : storeLocals Ls i v = some Ls') (hp : pc + 2 = pc')
    (r : Run l R Z EL W Q S h k n (mkF W.m pc' Ls' (st))) : Run l R Z EL W Q S h k n (mkF W.m pc Ls (v :: st)) := by
  subst hp
  exact Run.one (fun vm0 T locs X _ I t g => XS.astore X.here C.hx rfl (C.hb hd) rfl hv hl g) r
theorem iconst (C : Cx Z W own nm code maxL ret) {i : Int} {v : Int32} (hd : decode code pc = .ok (.iconst i, 1)) (hv : Int32.ofInt i = v) (hp : pc + 1 = pc')
    (r : Run l R Z EL W Q S h k n (mkF W.m pc' Ls (.int v :: st))) : Run l R Z EL W Q S h k n (mkF W.m pc Ls (st)) := by
  subst hp
  exact Run.one (fun vm0 T locs X _ I t g => XS.iconst X.here C.hx rfl (C.hb hd) (hv ▸ g)) r
theorem bipush (C : Cx Z W own nm code maxL ret) {i : Int} {v : Int32} (hd : decode code pc = .ok (.bipush i, 2)) (hv : (Int8.ofInt i).toInt32 = v) (hp : pc + 2 = pc')
    (r : Run l R Z EL W Q S h k n (mkF W.m pc' Ls (.int v :: st))) : Run l R Z EL W Q S h k n (mkF W.m pc Ls (st)) := by
  subst hp
  exact Run.one (fun vm0 T locs X _ I t g => XS.bipush X.here C.hx rfl (C.hb hd) (hv ▸ g)) r
theorem sipush (C : Cx Z W own nm code maxL ret) {i : Int} {v : Int32} (hd : decode code pc = .ok (.sipush i, 3)) (hv : (Int16.ofInt i).toInt32 = v) (hp : pc + 3 = pc')
    (r : Run l R Z EL W Q S h k n (mkF W.m pc' Ls (.int v :: st))) : Run l R Z EL W Q S h k n (mkF W.m pc Ls (st)) := by
  subst hp
  exact Run.one (fun vm0 T locs X _ I t g => XS.sipush X.here C.hx rfl (C.hb hd) (hv ▸ g)) r
theorem lconst (C : Cx Z W own nm code maxL ret) {i : Fin 2} {v : Int64} (hd : decode code pc = .ok (.lconst i, 1)) (hv : Int64.ofNat i = v) (hp : pc + 1 = pc')
    (r : Run l R Z EL W Q S h k n (mkF W.m pc' Ls (.long v :: st))) : Run l R Z EL W Q S h k n (mkF W.m pc Ls (st)) := by
  subst hp
  exact Run.one (fun vm0 T locs X _ I t g => XS.lconst X.here C.hx rfl (C.hb hd) (hv ▸ g)) r
theorem aconstNull (C : Cx Z W own nm code maxL ret)  (hd : decode code pc = .ok (.aconst_null, 1)) (hp : pc + 1 = pc')
    (r : Run l R Z EL W Q S h k n (mkF W.m pc' Ls (.null :: st))) : Run l R Z EL W Q S h k n (mkF W.m pc Ls (st)) := by
  subst hp
  exact Run.one (fun vm0 T locs X _ I t g => XS.aconstNull X.here C.hx rfl (C.hb hd) g) r
theorem iadd (C : Cx Z W own nm code maxL ret) {x y v : Int32} (hd : decode code pc = .ok (.iadd, 1)) (hv : x + y = v) (hp : pc + 1 = pc')
    (r : Run l R Z EL W Q S h k n (mkF W.m pc' Ls (.int v :: st))) : Run l R Z EL W Q S h k n (mkF W.m pc Ls (.int y :: .int x :: st)) := by
  subst hp
  exact Run.one (fun vm0 T locs X _ I t g => XS.iadd X.here C.hx rfl (C.hb hd) rfl (hv ▸ g)) r
theorem isub (C : Cx Z W own nm code maxL ret) {x y v : Int32} (hd : decode code pc = .ok (.isub, 1)) (hv : x - y = v) (hp : pc + 1 = pc')
    (r : Run l R Z EL W Q S h k n (mkF W.m pc' Ls (.int v :: st))) : Run l R Z EL W Q S h k n (mkF W.m pc Ls (.int y :: .int x :: st)) := by
  subst hp
  exact Run.one (fun vm0 T locs X _ I t g => XS.isub X.here C.hx rfl (C.hb hd) rfl (hv ▸ g)) r
theorem imul (C : Cx Z W own nm code maxL ret) {x y v : Int32} (hd : decode code pc = .ok (.imul, 1)) (hv : x * y = v) (hp : pc + 1 = pc')
    (r : Run l R Z EL W Q S h k n (mkF W.m pc' Ls (.int v :: st))) : Run l R Z EL W Q S h k n (mkF W.m pc Ls (.int y :: .int x :: st)) := by
  subst hp
  exact Run.one (fun vm0 T locs X _ I t g => XS.imul X.here C.hx rfl (C.hb hd) rfl (hv ▸ g)) r
theorem iand (C : Cx Z W own nm code maxL ret) {x y v : Int32} (hd : decode code pc = .ok (.iand, 1)) (hv : x &&& y = v) (hp : pc + 1 = pc')
    (r : Run l R Z EL W Q S h k n (mkF W.m pc' Ls (.int v :: st))) : Run l R Z EL W Q S h k n (mkF W.m pc Ls (.int y :: .int x :: st)) := by
  subst hp
  exact Run.one (fun vm0 T locs X _ I t g => XS.iand X.here C.hx rfl (C.hb hd) rfl (hv ▸ g)) r
theorem ior (C : Cx Z W own nm code maxL ret) {x y v : Int32} (hd : decode code pc = .ok (.ior, 1)) (hv : x ||| y = v) (hp : pc + 1 = pc')
    (r : Run l R Z EL W Q S h k n (mkF W.m pc' Ls (.int v :: st))) : Run l R Z EL W Q S h k n (mkF W.m pc Ls (.int y :: .int x :: st)) := by
  subst hp
  exact Run.one (fun vm0 T locs X _ I t g => XS.ior X.here C.hx rfl (C.hb hd) rfl (hv ▸ g)) r
theorem ixor (C : Cx Z W own nm code maxL ret) {x y v : Int32} (hd : decode code pc = .ok (.ixor, 1)) (hv : x ^^^ y = v) (hp : pc + 1 = pc')
    (r : Run l R Z EL W Q S h k n (mkF W.m pc' Ls (.int v :: st))) : Run l R Z EL W Q S h k n (mkF W.m pc Ls (.int y :: .int x :: st)) := by
  subst hp
  exact Run.one (fun vm0 T locs X _ I t g => XS.ixor X.here C.hx rfl (C.hb hd) rfl (hv ▸ g)) r
theorem ladd (C : Cx Z W own nm code maxL ret) {x y v : Int64} (hd : decode code pc = .ok (.ladd, 1)) (hv : x + y = v) (hp : pc + 1 = pc')
    (r : Run l R Z EL W Q S h k n (mkF W.m pc' Ls (.long v :: st))) : Run l R Z EL W Q S h k n (mkF W.m pc Ls (.long y :: .long x :: st)) := by
  subst hp
  exact Run.one (fun vm0 T locs X _ I t g => XS.ladd X.here C.hx rfl (C.hb hd) rfl (hv ▸ g)) r
theorem lsub (C : Cx Z W own nm code maxL ret) {x y v : Int64} (hd : decode code pc = .ok (.lsub, 1)) (hv : x - y = v) (hp : pc + 1 = pc')
    (r : Run l R Z EL W Q S h k n (mkF W.m pc' Ls (.long v :: st))) : Run l R Z EL W Q S h k n (mkF W.m pc Ls (.long y :: .long x :: st)) := by
  subst hp
  exact Run.one (fun vm0 T locs X _ I t g => XS.lsub X.here C.hx rfl (C.hb hd) rfl (hv ▸ g)) r
theorem lmul (C : Cx Z W own nm code maxL ret) {x y v : Int64} (hd : decode code pc = .ok (.lmul, 1)) (hv : x * y = v) (hp : pc + 1 = pc')
    (r : Run l R Z EL W Q S h k n (mkF W.m pc' Ls (.long v :: st))) : Run l R Z EL W Q S h k n (mkF W.m pc Ls (.long y :: .long x :: st)) := by
  subst hp
  exact Run.one (fun vm0 T locs X _ I t g => XS.lmul X.here C.hx rfl (C.hb hd) rfl (hv ▸ g)) r
theorem land (C : Cx Z W own nm code maxL ret) {x y v : Int64} (hd : decode code pc = .ok (.land, 1)) (hv : x &&& y = v) (hp : pc + 1 = pc')
    (r : Run l R Z EL W Q S h k n (mkF W.m pc' Ls (.long v :: st))) : Run l R Z EL W Q S h k n (mkF W.m pc Ls (.long y :: .long x :: st)) := by
  subst hp
  exact Run.one (fun vm0 T locs X _ I t g => XS.land X.here C.hx rfl (C.hb hd) rfl (hv ▸ g)) r
theorem lor (C : Cx Z W own nm code maxL ret) {x y v : Int64} (hd : decode code pc = .ok (.lor, 1)) (hv : x ||| y = v) (hp : pc + 1 = pc')
    (r : Run l R Z EL W Q S h k n (mkF W.m pc' Ls (.long v :: st))) : Run l R Z EL W Q S h k n (mkF W.m pc Ls (.long y :: .long x :: st)) := by
  subst hp
  exact Run.one (fun vm0 T locs X _ I t g => XS.lor X.here C.hx rfl (C.hb hd) rfl (hv ▸ g)) r
theorem lxor (C : Cx Z W own nm code maxL ret) {x y v : Int64} (hd : decode code pc = .ok (.lxor, 1)) (hv : x ^^^ y = v) (hp : pc + 1 = pc')
    (r : Run l R Z EL W Q S h k n (mkF W.m pc' Ls (.long v :: st))) : Run l R Z EL W Q S h k n (mkF W.m pc Ls (.long y :: .long x :: st)) := by
  subst hp
  exact Run.one (fun vm0 T locs X _ I t g => XS.lxor X.here C.hx rfl (C.hb hd) rfl (hv ▸ g)) r
theorem idiv (C : Cx Z W own nm code maxL ret) {x y v : Int32} (hd : decode code pc = .ok (.idiv, 1)) (hy : ¬ y = 0) (hv : x / y = v) (hp : pc + 1 = pc')
    (r : Run l R Z EL W Q S h k n (mkF W.m pc' Ls (.int v :: st))) : Run l R Z EL W Q S h k n (mkF W.m pc Ls (.int y :: .int x :: st)) := by
  subst hp
  exact Run.one (fun vm0 T locs X _ I t g => XS.idiv X.here C.hx rfl (C.hb hd) rfl hy (hv ▸ g)) r
theorem irem (C : Cx Z W own nm code maxL ret) {x y v : Int32} (hd : decode code pc = .ok (.irem, 1)) (hy : ¬ y = 0) (hv : x % y = v) (hp : pc + 1 = pc')
    (r : Run l R Z EL W Q S h k n (mkF W.m pc' Ls (.int v :: st))) : Run l R Z EL W Q S h k n (mkF W.m pc Ls (.int y :: .int x :: st)) := by
  subst hp
  exact Run.one (fun vm0 T locs X _ I t g => iremM X C.hx rfl (C.hb hd) rfl hy (hv ▸ g)) r
theorem ineg (C : Cx Z W own nm code maxL ret) {x v : Int32} (hd : decode code pc = .ok (.ineg, 1)) (hv : -x = v) (hp : pc + 1 = pc')
    (r : Run l R Z EL W Q S h k n (mkF W.m pc' Ls (.int v :: st))) : Run l R Z EL W Q S h k n (mkF W.m pc Ls (.int x :: st)) := by
  subst hp
  exact Run.one (fun vm0 T locs X _ I t g => XS.ineg X.here C.hx rfl (C.hb hd) rfl (hv ▸ g)) r
theorem ishl (C : Cx Z W own nm code maxL ret) {x y v : Int32} (hd : decode code pc = .ok (.ishl, 1)) (hv : x <<< (y &&& 31) = v) (hp : pc + 1 = pc')
    (r : Run l R Z EL W Q S h k n (mkF W.m pc' Ls (.int v :: st))) : Run l R Z EL W Q S h k n (mkF W.m pc Ls (.int y :: .int x :: st)) := by
  subst hp
  exact Run.one (fun vm0 T locs X _ I t g => XS.ishl X.here C.hx rfl (C.hb hd) rfl (hv ▸ g)) r
theorem ishr (C : Cx Z W own nm code maxL ret) {x y v : Int32} (hd : decode code pc = .ok (.ishr, 1)) (hv : x >>> (y &&& 31) = v) (hp : pc + 1 = pc')
    (r : Run l R Z EL W Q S h k n (mkF W.m pc' Ls (.int v :: st))) : Run l R Z EL W Q S h k n (mkF W.m pc Ls (.int y :: .int x :: st)) := by
  subst hp
  exact Run.one (fun vm0 T locs X _ I t g => XS.ishr X.here C.hx rfl (C.hb hd) rfl (hv ▸ g)) r
theorem iushr (C : Cx Z W own nm code maxL ret) {x y v : Int32} (hd : decode code pc = .ok (.iushr, 1)) (hv : (x.toUInt32 >>> (y &&& 31).toUInt32).toInt32 = v) (hp : pc + 1 = pc')
    (r : Run l R Z EL W Q S h k n (mkF W.m pc' Ls (.int v :: st))) : Run l R Z EL W Q S h k n (mkF W.m pc Ls (.int y :: .int x :: st)) := by
  subst hp
  exact Run.one (fun vm0 T locs X _ I t g => XS.iushr X.here C.hx rfl (C.hb hd) rfl (hv ▸ g)) r
theorem lshl (C : Cx Z W own nm code maxL ret) {x : Int64} {y : Int32} {v : Int64} (hd : decode code pc = .ok (.lshl, 1)) (hv : x <<< (y &&& 0x3f).toInt64 = v) (hp : pc + 1 = pc')
    (r : Run l R Z EL W Q S h k n (mkF W.m pc' Ls (.long v :: st))) : Run l R Z EL W Q S h k n (mkF W.m pc Ls (.int y :: .long x :: st)) := by
  subst hp
  exact Run.one (fun vm0 T locs X _ I t g => XS.lshl X.here C.hx rfl (C.hb hd) rfl (hv ▸ g)) r
theorem lshr (C : Cx Z W own nm code maxL ret) {x : Int64} {y : Int32} {v : Int64} (hd : decode code pc = .ok (.lshr, 1)) (hv : x >>> (y &&& 0x3f).toInt64 = v) (hp : pc + 1 = pc')
    (r : Run l R Z EL W Q S h k n (mkF W.m pc' Ls (.long v :: st))) : Run l R Z EL W Q S h k n (mkF W.m pc Ls (.int y :: .long x :: st)) := by
  subst hp
  exact Run.one (fun vm0 T locs X _ I t g => XS.lshr X.here C.hx rfl (C.hb hd) rfl (hv ▸ g)) r
theorem lushr (C : Cx Z W own nm code maxL ret) {x : Int64} {y : Int32} {v : Int64} (hd : decode code pc = .ok (.lushr, 1)) (hv : (x.toUInt64 >>> (y &&& 0x3f).toInt64.toUInt64).toInt64 = v) (hp : pc + 1 = pc')
    (r : Run l R Z EL W Q S h k n (mkF W.m pc' Ls (.long v :: st))) : Run l R Z EL W Q S h k n (mkF W.m pc Ls (.int y :: .long x :: st)) := by
  subst hp
  exact Run.one (fun vm0 T locs X _ I t g => XS.lushr X.here C.hx rfl (C.hb hd) rfl (hv ▸ g)) r
theorem i2l (C : Cx Z W own nm code maxL ret) {x : Int32} {v : Int64} (hd : decode code pc = .ok (.i2l, 1)) (hv : x.toInt64 = v) (hp : pc + 1 = pc')
    (r : Run l R Z EL W Q S h k n (mkF W.m pc' Ls (.long v :: st))) : Run l R Z EL W Q S h k n (mkF W.m pc Ls (.int x :: st)) := by
  subst hp
  exact Run.one (fun vm0 T locs X _ I t g => XS.i2l X.here C.hx rfl (C.hb hd) rfl (hv ▸ g)) r
theorem l2i (C : Cx Z W own nm code maxL ret) {x : Int64} {v : Int32} (hd : decode code pc = .ok (.l2i, 1)) (hv : x.toInt32 = v) (hp : pc + 1 = pc')
    (r : Run l R Z EL W Q S h k n (mkF W.m pc' Ls (.int v :: st))) : Run l R Z EL W Q S h k n (mkF W.m pc Ls (.long x :: st)) := by
  subst hp
  exact Run.one (fun vm0 T locs X _ I t g => XS.l2i X.here C.hx rfl (C.hb hd) rfl (hv ▸ g)) r
theorem i2b (C : Cx Z W own nm code maxL ret) {x : Int32} {v : Int32} (hd : decode code pc = .ok (.i2b, 1)) (hv : x.toInt8.toInt32 = v) (hp : pc + 1 = pc')
    (r : Run l R Z EL W Q S h k n (mkF W.m pc' Ls (.int v :: st))) : Run l R Z EL W Q S h k n (mkF W.m pc Ls (.int x :: st)) := by
  subst hp
  exact Run.one (fun vm0 T locs X _ I t g => XS.i2b X.here C.hx rfl (C.hb hd) rfl (hv ▸ g)) r
theorem i2c (C : Cx Z W own nm code maxL ret) {x : Int32} {v : Int32} (hd : decode code pc = .ok (.i2c, 1)) (hv : x.toUInt32.toUInt16.toUInt32.toInt32 = v) (hp : pc + 1 = pc')
    (r : Run l R Z EL W Q S h k n (mkF W.m pc' Ls (.int v :: st))) : Run l R Z EL W Q S h k n (mkF W.m pc Ls (.int x :: st)) := by
  subst hp
  exact Run.one (fun vm0 T locs X _ I t g => XS.i2c X.here C.hx rfl (C.hb hd) rfl (hv ▸ g)) r
theorem i2s (C : Cx Z W own nm code maxL ret) {x : Int32} {v : Int32} (hd : decode code pc = .ok (.i2s, 1)) (hv : x.toInt16.toInt32 = v) (hp : pc + 1 = pc')
    (r : Run l R Z EL W Q S h k n (mkF W.m pc' Ls (.int v :: st))) : Run l R Z EL W Q S h k n (mkF W.m pc Ls (.int x :: st)) := by
  subst hp
  exact Run.one (fun vm0 T locs X _ I t g => XS.i2s X.here C.hx rfl (C.hb hd) rfl (hv ▸ g)) r
theorem lcmp (C : Cx Z W own nm code maxL ret) {x y : Int64} (hd : decode code pc = .ok (.lcmp, 1)) (hp : pc + 1 = pc')
    (r : Run l R Z EL W Q S h k n (mkF W.m pc' Ls (.int (lcmpW x y) :: st))) : Run l R Z EL W Q S h k n (mkF W.m pc Ls (.long y :: .long x :: st)) := by
  subst hp
  exact Run.one (fun vm0 T locs X _ I t g => XS.lcmp X.here C.hx rfl (C.hb hd) rfl g) r
theorem dup (C : Cx Z W own nm code maxL ret) {v : Value} (hd : decode code pc = .ok (.dup, 1)) (hc : v.category = 1) (hp : pc + 1 = pc')
    (r : Run l R Z EL W Q S h k n (mkF W.m pc' Ls (v :: v :: st))) : Run l R Z EL W Q S h k n (mkF W.m pc Ls (v :: st)) := by
  subst hp
  exact Run.one (fun vm0 T locs X _ I t g => XS.dup X.here C.hx rfl (C.hb hd) rfl hc g) r
theorem dupX1 (C : Cx Z W own nm code maxL ret) {v w : Value} (hd : decode code pc = .ok (.dup_x1, 1)) (hc : v.category = 1) (hc' : w.category = 1) (hp : pc + 1 = pc')
    (r : Run l R Z EL W Q S h k n (mkF W.m pc' Ls (v :: w :: v :: st))) : Run l R Z EL W Q S h k n (mkF W.m pc Ls (v :: w :: st)) := by
  subst hp
  exact Run.one (fun vm0 T locs X _ I t g => XS.dupX1 X.here C.hx rfl (C.hb hd) rfl hc hc' g) r
theorem dup2 (C : Cx Z W own nm code maxL ret) {v w : Value} (hd : decode code pc = .ok (.dup2, 1)) (hc : v.category = 1) (hc' : w.category = 1) (hp : pc + 1 = pc')
    (r : Run l R Z EL W Q S h k n (mkF W.m pc' Ls (v :: w :: v :: w :: st))) : Run l R Z EL W Q S h k n (mkF W.m pc Ls (v :: w :: st)) := by
  subst hp
  exact Run.one (fun vm0 T locs X _ I t g => XT.dup2 X.here C.hx rfl (C.hb hd) rfl hc hc' g) r
theorem pop (C : Cx Z W own nm code maxL ret) {v : Value} (hd : decode code pc = .ok (.pop, 1)) (hc : v.category = 1) (hp : pc + 1 = pc')
    (r : Run l R Z EL W Q S h k n (mkF W.m pc' Ls (st))) : Run l R Z EL W Q S h k n (mkF W.m pc Ls (v :: st)) := by
  subst hp
  exact Run.one (fun vm0 T locs X _ I t g => XS.pop X.here C.hx rfl (C.hb hd) rfl hc g) r
theorem swap (C : Cx Z W own nm code maxL ret) {v w : Value} (hd : decode code pc = .ok (.swap, 1)) (hc : v.category = 1) (hc' : w.category = 1) (hp : pc + 1 = pc')
    (r : Run l R Z EL W Q S h k n (mkF W.m pc' Ls (w :: v :: st))) : Run l R Z EL W Q S h k n (mkF W.m pc Ls (v :: w :: st)) := by
  subst hp
  exact Run.one (fun vm0 T locs X _ I t g => XS.swap X.here C.hx rfl (C.hb hd) rfl hc hc' g) r
theorem iinc (C : Cx Z W own nm code maxL ret) {i : Nat} {d : Int} {x v : Int32} {Ls' : Array Slot} (hd : decode code pc = .ok (.iinc i d, 3)) (hl : Ls[i]? = some (.val (.int x))) (hv : x + Int32.ofInt d = v) (hl' : storeLocals Ls i (.int v) = some Ls') (hp : pc + 3 = pc')
    (r : Run l R Z EL W Q S h k n (mkF W.m pc' Ls' st)) : Run l R Z EL W Q S h k n (mkF W.m pc Ls st) := by
  subst hp hv
  exact Run.one (fun vm0 T locs X _ I t g => XS.iinc X.here C.hx rfl (C.hb hd) hl hl' g) r
theorem goto (C : Cx Z W own nm code maxL ret) {o : Int} (hd : decode code pc = .ok (.goto o, 3)) (ho : 0 ≤ (pc : Int) + o) (hp : ((pc : Int) + o).toNat = pc')
    (r : Run l R Z EL W Q S h k n (mkF W.m pc' Ls st)) : Run l R Z EL W Q S h k n (mkF W.m pc Ls st) :=
  Run.one (fun vm0 T locs X _ I t g => XS.goto X.here C.hx rfl rfl (C.hb hd) ho hp g) r
theorem icmp_eq (C : Cx Z W own nm code maxL ret) {x y : Int32} {o : Int} {pcT : Nat} (hd : decode code pc = .ok (.if_icmp .eq o, 3)) (ho : 0 ≤ (pc : Int) + o) (hp : ((pc : Int) + o).toNat = pcT) (hp' : pc + 3 = pc')
    (rt : x = y → Run l R Z EL W Q S h k n (mkF W.m pcT Ls st)) (rf : ¬ x = y → Run l R Z EL W Q S h k n (mkF W.m pc' Ls st)) : Run l R Z EL W Q S h k n (mkF W.m pc Ls (.int y :: .int x :: st)) := by
  subst hp'
  by_cases q : x = y
  · exact Run.one (fun vm0 T locs X _ I t g => XS.icmpYes X.here C.hx rfl rfl (C.hb hd) rfl (teq q).1 ho hp g) (rt q)
  · exact Run.one (fun vm0 T locs X _ I t g => XS.icmpNo X.here C.hx rfl (C.hb hd) rfl (feq q).1 g) (rf q)
theorem if_eq (C : Cx Z W own nm code maxL ret) {x : Int32} {o : Int} {pcT : Nat} (hd : decode code pc = .ok (.ifCond .eq o, 3)) (ho : 0 ≤ (pc : Int) + o) (hp : ((pc : Int) + o).toNat = pcT) (hp' : pc + 3 = pc')
    (rt : x = (0 : Int32) → Run l R Z EL W Q S h k n (mkF W.m pcT Ls st)) (rf : ¬ x = (0 : Int32) → Run l R Z EL W Q S h k n (mkF W.m pc' Ls st)) : Run l R Z EL W Q S h k n (mkF W.m pc Ls (.int x :: st)) := by
  subst hp'
  by_cases q : x = (0 : Int32)
  · exact Run.one (fun vm0 T locs X _ I t g => XS.ifYes X.here C.hx rfl rfl (C.hb hd) rfl ((if0 _ _).trans (teq q).1) ho hp g) (rt q)
  · exact Run.one (fun vm0 T locs X _ I t g => XS.ifNo X.here C.hx rfl (C.hb hd) rfl ((if0 _ _).trans (feq q).1) g) (rf q)
theorem icmp_ne (C : Cx Z W own nm code maxL ret) {x y : Int32} {o : Int} {pcT : Nat} (hd : decode code pc = .ok (.if_icmp .ne o, 3)) (ho : 0 ≤ (pc : Int) + o) (hp : ((pc : Int) + o).toNat = pcT) (hp' : pc + 3 = pc')
    (rt : ¬ x = y → Run l R Z EL W Q S h k n (mkF W.m pcT Ls st)) (rf : x = y → Run l R Z EL W Q S h k n (mkF W.m pc' Ls st)) : Run l R Z EL W Q S h k n (mkF W.m pc Ls (.int y :: .int x :: st)) := by
  subst hp'
  by_cases q : x = y
  · exact Run.one (fun vm0 T locs X _ I t g => XS.icmpNo X.here C.hx rfl (C.hb hd) rfl (teq q).2 g) (rf q)
  · exact Run.one (fun vm0 T locs X _ I t g => XS.icmpYes X.here C.hx rfl rfl (C.hb hd) rfl (feq q).2 ho hp g) (rt q)
theorem if_ne (C : Cx Z W own nm code maxL ret) {x : Int32} {o : Int} {pcT : Nat} (hd : decode code pc = .ok (.ifCond .ne o, 3)) (ho : 0 ≤ (pc : Int) + o) (hp : ((pc : Int) + o).toNat = pcT) (hp' : pc + 3 = pc')
    (rt : ¬ x = (0 : Int32) → Run l R Z EL W Q S h k n (mkF W.m pcT Ls st)) (rf : x = (0 : Int32) → Run l R Z EL W Q S h k n (mkF W.m pc' Ls st)) : Run l R Z EL W Q S h k n (mkF W.m pc Ls (.int x :: st)) := by
  subst hp'
  by_cases q : x = (0 : Int32)
  · exact Run.one (fun vm0 T locs X _ I t g => XS.ifNo X.here C.hx rfl (C.hb hd) rfl ((if0 _ _).trans (teq q).2) g) (rf q)
  · exact Run.one (fun vm0 T locs X _ I t g => XS.ifYes X.here C.hx rfl rfl (C.hb hd) rfl ((if0 _ _).trans (feq q).2) ho hp g) (rt q)
theorem icmp_lt (C : Cx Z W own nm code maxL ret) {x y : Int32} {o : Int} {pcT : Nat} (hd : decode code pc = .ok (.if_icmp .lt o, 3)) (ho : 0 ≤ (pc : Int) + o) (hp : ((pc : Int) + o).toNat = pcT) (hp' : pc + 3 = pc')
    (rt : x < y → Run l R Z EL W Q S h k n (mkF W.m pcT Ls st)) (rf : ¬ x < y → Run l R Z EL W Q S h k n (mkF W.m pc' Ls st)) : Run l R Z EL W Q S h k n (mkF W.m pc Ls (.int y :: .int x :: st)) := by
  subst hp'
  by_cases q : x < y
  · exact Run.one (fun vm0 T locs X _ I t g => XS.icmpYes X.here C.hx rfl rfl (C.hb hd) rfl (tlt q).1 ho hp g) (rt q)
  · exact Run.one (fun vm0 T locs X _ I t g => XS.icmpNo X.here C.hx rfl (C.hb hd) rfl (flt q).1 g) (rf q)
theorem if_lt (C : Cx Z W own nm code maxL ret) {x : Int32} {o : Int} {pcT : Nat} (hd : decode code pc = .ok (.ifCond .lt o, 3)) (ho : 0 ≤ (pc : Int) + o) (hp : ((pc : Int) + o).toNat = pcT) (hp' : pc + 3 = pc')
    (rt : x < (0 : Int32) → Run l R Z EL W Q S h k n (mkF W.m pcT Ls st)) (rf : ¬ x < (0 : Int32) → Run l R Z EL W Q S h k n (mkF W.m pc' Ls st)) : Run l R Z EL W Q S h k n (mkF W.m pc Ls (.int x :: st)) := by
  subst hp'
  by_cases q : x < (0 : Int32)
  · exact Run.one (fun vm0 T locs X _ I t g => XS.ifYes X.here C.hx rfl rfl (C.hb hd) rfl ((if0 _ _).trans (tlt q).1) ho hp g) (rt q)
  · exact Run.one (fun vm0 T locs X _ I t g => XS.ifNo X.here C.hx rfl (C.hb hd) rfl ((if0 _ _).trans (flt q).1) g) (rf q)
theorem icmp_ge (C : Cx Z W own nm code maxL ret) {x y : Int32} {o : Int} {pcT : Nat} (hd : decode code pc = .ok (.if_icmp .ge o, 3)) (ho : 0 ≤ (pc : Int) + o) (hp : ((pc : Int) + o).toNat = pcT) (hp' : pc + 3 = pc')
    (rt : ¬ x < y → Run l R Z EL W Q S h k n (mkF W.m pcT Ls st)) (rf : x < y → Run l R Z EL W Q S h k n (mkF W.m pc' Ls st)) : Run l R Z EL W Q S h k n (mkF W.m pc Ls (.int y :: .int x :: st)) := by
  subst hp'
  by_cases q : x < y
  · exact Run.one (fun vm0 T locs X _ I t g => XS.icmpNo X.here C.hx rfl (C.hb hd) rfl (tlt q).2.1 g) (rf q)
  · exact Run.one (fun vm0 T locs X _ I t g => XS.icmpYes X.here C.hx rfl rfl (C.hb hd) rfl (flt q).2.1 ho hp g) (rt q)
theorem if_ge (C : Cx Z W own nm code maxL ret) {x : Int32} {o : Int} {pcT : Nat} (hd : decode code pc = .ok (.ifCond .ge o, 3)) (ho : 0 ≤ (pc : Int) + o) (hp : ((pc : Int) + o).toNat = pcT) (hp' : pc + 3 = pc')
    (rt : ¬ x < (0 : Int32) → Run l R Z EL W Q S h k n (mkF W.m pcT Ls st)) (rf : x < (0 : Int32) → Run l R Z EL W Q S h k n (mkF W.m pc' Ls st)) : Run l R Z EL W Q S h k n (mkF W.m pc Ls (.int x :: st)) := by
  subst hp'
  by_cases q : x < (0 : Int32)
  · exact Run.one (fun vm0 T locs X _ I t g => XS.ifNo X.here C.hx rfl (C.hb hd) rfl ((if0 _ _).trans (tlt q).2.1) g) (rf q)
  · exact Run.one (fun vm0 T locs X _ I t g => XS.ifYes X.here C.hx rfl rfl (C.hb hd) rfl ((if0 _ _).trans (flt q).2.1) ho hp g) (rt q)
theorem icmp_gt (C : Cx Z W own nm code maxL ret) {x y : Int32} {o : Int} {pcT : Nat} (hd : decode code pc = .ok (.if_icmp .gt o, 3)) (ho : 0 ≤ (pc : Int) + o) (hp : ((pc : Int) + o).toNat = pcT) (hp' : pc + 3 = pc')
    (rt : y < x → Run l R Z EL W Q S h k n (mkF W.m pcT Ls st)) (rf : ¬ y < x → Run l R Z EL W Q S h k n (mkF W.m pc' Ls st)) : Run l R Z EL W Q S h k n (mkF W.m pc Ls (.int y :: .int x :: st)) := by
  subst hp'
  by_cases q : y < x
  · exact Run.one (fun vm0 T locs X _ I t g => XS.icmpYes X.here C.hx rfl rfl (C.hb hd) rfl (tlt q).2.2.1 ho hp g) (rt q)
  · exact Run.one (fun vm0 T locs X _ I t g => XS.icmpNo X.here C.hx rfl (C.hb hd) rfl (flt q).2.2.1 g) (rf q)
theorem if_gt (C : Cx Z W own nm code maxL ret) {x : Int32} {o : Int} {pcT : Nat} (hd : decode code pc = .ok (.ifCond .gt o, 3)) (ho : 0 ≤ (pc : Int) + o) (hp : ((pc : Int) + o).toNat = pcT) (hp' : pc + 3 = pc')
    (rt : (0 : Int32) < x → Run l R Z EL W Q S h k n (mkF W.m pcT Ls st)) (rf : ¬ (0 : Int32) < x → Run l R Z EL W Q S h k n (mkF W.m pc' Ls st)) : Run l R Z EL W Q S h k n (mkF W.m pc Ls (.int x :: st)) := by
  subst hp'
  by_cases q : (0 : Int32) < x
  · exact Run.one (fun vm0 T locs X _ I t g => XS.ifYes X.here C.hx rfl rfl (C.hb hd) rfl ((if0 _ _).trans (tlt q).2.2.1) ho hp g) (rt q)
  · exact Run.one (fun vm0 T locs X _ I t g => XS.ifNo X.here C.hx rfl (C.hb hd) rfl ((if0 _ _).trans (flt q).2.2.1) g) (rf q)
theorem icmp_le (C : Cx Z W own nm code maxL ret) {x y : Int32} {o : Int} {pcT : Nat} (hd : decode code pc = .ok (.if_icmp .le o, 3)) (ho : 0 ≤ (pc : Int) + o) (hp : ((pc : Int) + o).toNat = pcT) (hp' : pc + 3 = pc')
    (rt : ¬ y < x → Run l R Z EL W Q S h k n (mkF W.m pcT Ls st)) (rf : y < x → Run l R Z EL W Q S h k n (mkF W.m pc' Ls st)) : Run l R Z EL W Q S h k n (mkF W.m pc Ls (.int y :: .int x :: st)) := by
  subst hp'
  by_cases q : y < x
  · exact Run.one (fun vm0 T locs X _ I t g => XS.icmpNo X.here C.hx rfl (C.hb hd) rfl (tlt q).2.2.2 g) (rf q)
  · exact Run.one (fun vm0 T locs X _ I t g => XS.icmpYes X.here C.hx rfl rfl (C.hb hd) rfl (flt q).2.2.2 ho hp g) (rt q)
theorem if_le (C : Cx Z W own nm code maxL ret) {x : Int32} {o : Int} {pcT : Nat} (hd : decode code pc = .ok (.ifCond .le o, 3)) (ho : 0 ≤ (pc : Int) + o) (hp : ((pc : Int) + o).toNat = pcT) (hp' : pc + 3 = pc')
    (rt : ¬ (0 : Int32) < x → Run l R Z EL W Q S h k n (mkF W.m pcT Ls st)) (rf : (0 : Int32) < x → Run l R Z EL W Q S h k n (mkF W.m pc' Ls st)) : Run l R Z EL W Q S h k n (mkF W.m pc Ls (.int x :: st)) := by
  subst hp'
  by_cases q : (0 : Int32) < x
  · exact Run.one (fun vm0 T locs X _ I t g => XS.ifNo X.here C.hx rfl (C.hb hd) rfl ((if0 _ _).trans (tlt q).2.2.2) g) (rf q)
  · exact Run.one (fun vm0 T locs X _ I t g => XS.ifYes X.here C.hx rfl rfl (C.hb hd) rfl ((if0 _ _).trans (flt q).2.2.2) ho hp g) (rt q)
theorem ifnullY (C : Cx Z W own nm code maxL ret) {o : Int} (hd : decode code pc = .ok (.ifnull o, 3)) (ho : 0 ≤ (pc : Int) + o) (hp : ((pc : Int) + o).toNat = pc') (r : Run l R Z EL W Q S h k n (mkF W.m pc' Ls st)) : Run l R Z EL W Q S h k n (mkF W.m pc Ls (.null :: st)) :=
  Run.one (fun vm0 T locs X _ I t g => XS.ifnullYes X.here C.hx rfl rfl (C.hb hd) rfl ho hp g) r
theorem ifnullN (C : Cx Z W own nm code maxL ret) {o : Int} {b : Addr} (hd : decode code pc = .ok (.ifnull o, 3)) (hp : pc + 3 = pc') (r : Run l R Z EL W Q S h k n (mkF W.m pc' Ls st)) : Run l R Z EL W Q S h k n (mkF W.m pc Ls (.ref b :: st)) := by
  subst hp
  exact Run.one (fun vm0 T locs X _ I t g => XS.ifnullNo X.here C.hx rfl (C.hb hd) rfl g) r
theorem ifnonnullY (C : Cx Z W own nm code maxL ret) {o : Int} {b : Addr} (hd : decode code pc = .ok (.ifnonnull o, 3)) (ho : 0 ≤ (pc : Int) + o) (hp : ((pc : Int) + o).toNat = pc') (r : Run l R Z EL W Q S h k n (mkF W.m pc' Ls st)) : Run l R Z EL W Q S h k n (mkF W.m pc Ls (.ref b :: st)) :=
  Run.one (fun vm0 T locs X _ I t g => XS.ifnonnullYes X.here C.hx rfl rfl (C.hb hd) rfl ho hp g) r
theorem ifnonnullN (C : Cx Z W own nm code maxL ret) {o : Int} (hd : decode code pc = .ok (.ifnonnull o, 3)) (hp : pc + 3 = pc') (r : Run l R Z EL W Q S h k n (mkF W.m pc' Ls st)) : Run l R Z EL W Q S h k n (mkF W.m pc Ls (.null :: st)) := by
  subst hp
  exact Run.one (fun vm0 T locs X _ I t g => XS.ifnonnullNo X.here C.hx rfl (C.hb hd) rfl g) r
theorem acmp_eq (C : Cx Z W own nm code maxL ret) {o : Int} {x y : Value} {pcT : Nat} (hd : decode code pc = .ok (.if_acmp .eq o, 3)) (hx' : x.isRef = true) (hy' : y.isRef = true) (ho : 0 ≤ (pc : Int) + o) (hp : ((pc : Int) + o).toNat = pcT) (hp' : pc + 3 = pc')
    (rt : x = y → Run l R Z EL W Q S h k n (mkF W.m pcT Ls st)) (rf : ¬ x = y → Run l R Z EL W Q S h k n (mkF W.m pc' Ls st)) : Run l R Z EL W Q S h k n (mkF W.m pc Ls (y :: x :: st)) := by
  subst hp'
  by_cases q : x = y
  · exact Run.one (fun vm0 T locs X _ I t g => XT.acmpYes X.here C.hx rfl rfl (C.hb hd) rfl hx' hy' (XT.aa_eq_t q) ho hp g) (rt q)
  · exact Run.one (fun vm0 T locs X _ I t g => XT.acmpNo X.here C.hx rfl (C.hb hd) rfl hx' hy' (XT.aa_eq_f q) g) (rf q)
theorem acmp_ne (C : Cx Z W own nm code maxL ret) {o : Int} {x y : Value} {pcT : Nat} (hd : decode code pc = .ok (.if_acmp .ne o, 3)) (hx' : x.isRef = true) (hy' : y.isRef = true) (ho : 0 ≤ (pc : Int) + o) (hp : ((pc : Int) + o).toNat = pcT) (hp' : pc + 3 = pc')
    (rt : ¬ x = y → Run l R Z EL W Q S h k n (mkF W.m pcT Ls st)) (rf : x = y → Run l R Z EL W Q S h k n (mkF W.m pc' Ls st)) : Run l R Z EL W Q S h k n (mkF W.m pc Ls (y :: x :: st)) := by
  subst hp'
  by_cases q : x = y
  · exact Run.one (fun vm0 T locs X _ I t g => XT.acmpNo X.here C.hx rfl (C.hb hd) rfl hx' hy' (XT.aa_ne_f q) g) (rf q)
  · exact Run.one (fun vm0 T locs X _ I t g => XT.acmpYes X.here C.hx rfl rfl (C.hb hd) rfl hx' hy' (XT.aa_ne_t q) ho hp g) (rt q)
theorem tswIn (C : Cx Z W own nm code maxL ret) {d lo hi o : Int} {offs : Array Int} {ln : Nat} {i : Int32} (hd : decode code pc = .ok (.tableswitch d lo hi offs, ln)) (hin : ¬ (i.toInt < lo ∨ i.toInt > hi)) (ho : offs[(i.toInt - lo).toNat]? = some o) (h0 : 0 ≤ (pc : Int) + o) (hp : ((pc : Int) + o).toNat = pc')
    (r : Run l R Z EL W Q S h k n (mkF W.m pc' Ls st)) : Run l R Z EL W Q S h k n (mkF W.m pc Ls (.int i :: st)) :=
  Run.one (fun vm0 T locs X _ I t g => XS.tswIn X.here C.hx rfl rfl (C.hb hd) rfl hin ho h0 hp g) r
theorem ldcI (C : Cx Z W own nm code maxL ret) {ix : Nat} {v : Int32} (hd : decode code pc = .ok (.ldc ix, 2)) (w : (Cond.constant own ix v).before a0 Z = true) (hp : pc + 2 = pc') (r : Run l R Z EL W Q S h k n (mkF W.m pc' Ls (.int v :: st))) : Run l R Z EL W Q S h k n (mkF W.m pc Ls st) := by
  subst hp
  exact Run.one (fun vm0 T locs X _ I t g => X.ldcInt C.hx (I.ow C) (mvT I.hZ w) (g := mkF W.m pc Ls st) rfl (C.hb hd) t g) r
theorem ldc2J (C : Cx Z W own nm code maxL ret) {ix : Nat} {v : Int64} (hd : decode code pc = .ok (.ldc2_w ix, 3)) (w : (Cond.constantLong own ix v).before a0 Z = true) (hp : pc + 3 = pc') (r : Run l R Z EL W Q S h k n (mkF W.m pc' Ls (.long v :: st))) : Run l R Z EL W Q S h k n (mkF W.m pc Ls st) := by
  subst hp
  exact Run.one (fun vm0 T locs X _ I t g => X.ldc2Long C.hx (I.ow C) (mvT I.hZ w) (g := mkF W.m pc Ls st) rfl (C.hb hd) t g) r
theorem Run.via {g g' : JFrame} (f : ∀ vm0 T locs, Std l R W vm0 T locs k n → T.heap = h → Inv Z EL W S vm0 h → ∃ T', Std l R W vm0 T' locs k n ∧ T'.heap = h ∧ ∀ t, Steps W.p.tables W.e W.b (T'.setTop g') t → Steps W.p.tables W.e W.b (T.setTop g) t) (r : Run l R Z EL W Q S h k n g') : Run l R Z EL W Q S h k n g :=
  fun vm0 T locs X eT N O I => by
    obtain ⟨T', X', e', s'⟩ := f vm0 T locs X eT I
    exact Go.step s' (r vm0 T' locs X' e' N O I)
theorem getF (C : Cx Z W own nm code maxL ret) {R0 O nmF d : String} {ix : Nat} (hd : decode code pc = .ok (.getfield ix, 3)) (w : (Cond.fieldLink own ix R0 nmF d).before a0 Z = true) (via : Via Z R0 O nmF d) {a : Addr} {v : Value} (F : Fld Z h a O nmF d v) (hp : pc + 3 = pc')
    (r : Run l R Z EL W Q S h k n (mkF W.m pc' Ls (v :: st))) : Run l R Z EL W Q S h k n (mkF W.m pc Ls (.ref a :: st)) := by
  subst hp
  exact Run.via (fun vm0 T locs X eT I => RoadKit.getF X C.hx I.hZ (I.ow C) (host := "") (Or.inl w) via eT F (g := mkF W.m pc Ls (.ref a :: st)) rfl rfl (C.hb hd)) r
theorem getFN (C : Cx Z W own nm code maxL ret) {R0 O nmF d host : String} {ix : Nat} (hd : decode code pc = .ok (.getfield ix, 3)) (w : (Cond.fieldLinkNest own ix R0 nmF d host).before a0 Z = true) (via : Via Z R0 O nmF d) {a : Addr} {v : Value} (F : Fld Z h a O nmF d v) (hp : pc + 3 = pc')
    (r : Run l R Z EL W Q S h k n (mkF W.m pc' Ls (v :: st))) : Run l R Z EL W Q S h k n (mkF W.m pc Ls (.ref a :: st)) := by
  subst hp
  exact Run.via (fun vm0 T locs X eT I => RoadKit.getF X C.hx I.hZ (I.ow C) (Or.inr w) via eT F (g := mkF W.m pc Ls (.ref a :: st)) rfl rfl (C.hb hd)) r
theorem getS (C : Cx Z W own nm code maxL ret) {R0 O nmF d : String} {ix : Nat} (hd : decode code pc = .ok (.getstatic ix, 3)) (w : (Cond.fieldLink own ix R0 nmF d).before a0 Z = true) (via : Via Z R0 O nmF d) {v : Value} (F : Sta Z h O nmF d v) (hp : pc + 3 = pc')
    (r : Run l R Z EL W Q S h k n (mkF W.m pc' Ls (v :: st))) : Run l R Z EL W Q S h k n (mkF W.m pc Ls st) := by
  subst hp
  exact Run.via (fun vm0 T locs X eT I => getS2 X C.hx I.hZ (I.ow C) (host := "") (Or.inl w) via eT F (g := mkF W.m pc Ls st) rfl (C.hb hd)) r
theorem getSN (C : Cx Z W own nm code maxL ret) {R0 O nmF d host : String} {ix : Nat} (hd : decode code pc = .ok (.getstatic ix, 3)) (w : (Cond.fieldLinkNest own ix R0 nmF d host).before a0 Z = true) (via : Via Z R0 O nmF d) {v : Value} (F : Sta Z h O nmF d v) (hp : pc + 3 = pc')
    (r : Run l R Z EL W Q S h k n (mkF W.m pc' Ls (v :: st))) : Run l R Z EL W Q S h k n (mkF W.m pc Ls st) := by
  subst hp
  exact Run.via (fun vm0 T locs X eT I => getS2 X C.hx I.hZ (I.ow C) (Or.inr w) via eT F (g := mkF W.m pc Ls st) rfl (C.hb hd)) r
theorem castY (C : Cx Z W own nm code maxL ret) {K : String} {ix : Nat} (hd : decode code pc = .ok (.checkcast ix, 3)) (w : (Cond.classLink own ix K).before a0 Z = true) {a : Addr} (F : Ins Z h a K true) (hp : pc + 3 = pc')
    (r : Run l R Z EL W Q S h k n (mkF W.m pc' Ls (.ref a :: st))) : Run l R Z EL W Q S h k n (mkF W.m pc Ls (.ref a :: st)) := by
  subst hp
  exact Run.via (fun vm0 T locs X eT I => RoadKit.castY X C.hx I.hZ (I.ow C) w eT F (g := mkF W.m pc Ls (.ref a :: st)) rfl rfl (C.hb hd)) r
theorem instY (C : Cx Z W own nm code maxL ret) {K : String} {ix : Nat} (hd : decode code pc = .ok (.instanceof ix, 3)) (w : (Cond.classLink own ix K).before a0 Z = true) {a : Addr} (F : Ins Z h a K true) (hp : pc + 3 = pc')
    (r : Run l R Z EL W Q S h k n (mkF W.m pc' Ls (.int 1 :: st))) : Run l R Z EL W Q S h k n (mkF W.m pc Ls (.ref a :: st)) := by
  subst hp
  exact Run.via (fun vm0 T locs X eT I => RoadKit.instY X C.hx I.hZ (I.ow C) w eT F (g := mkF W.m pc Ls (.ref a :: st)) rfl rfl (C.hb hd)) r
theorem instNull (C : Cx Z W own nm code maxL ret) {ix : Nat} (hd : decode code pc = .ok (.instanceof ix, 3)) (hp : pc + 3 = pc')
    (r : Run l R Z EL W Q S h k n (mkF W.m pc' Ls (.int 0 :: st))) : Run l R Z EL W Q S h k n (mkF W.m pc Ls (.null :: st)) := by
  subst hp
  exact Run.one (fun vm0 T locs X eT I t g => X.instanceofNull C.hx (g := mkF W.m pc Ls (.null :: st)) rfl rfl (C.hb hd) t g) r
theorem castNull (C : Cx Z W own nm code maxL ret) {ix : Nat} (hd : decode code pc = .ok (.checkcast ix, 3)) (hp : pc + 3 = pc')
    (r : Run l R Z EL W Q S h k n (mkF W.m pc' Ls (.null :: st))) : Run l R Z EL W Q S h k n (mkF W.m pc Ls (.null :: st)) := by
  subst hp
  exact Run.one (fun vm0 T locs X eT I t g => X.checkcastNull C.hx (g := mkF W.m pc Ls (.null :: st)) rfl rfl (C.hb hd) t g) r
theorem alen (C : Cx Z W own nm code maxL ret) (hd : decode code pc = .ok (.arraylength, 1)) {a : Addr} {ty : FieldType} {vs : List Value} {z : Int32} (F : Ary Z h a ty vs) (hz : Int32.ofNat vs.length = z) (hp : pc + 1 = pc')
    (r : Run l R Z EL W Q S h k n (mkF W.m pc' Ls (.int z :: st))) : Run l R Z EL W Q S h k n (mkF W.m pc Ls (.ref a :: st)) := by
  subst hp hz
  obtain ⟨c, A, e, -⟩ := F
  have e2 : c.slots.size.toInt32 = Int32.ofNat vs.length := by rw [e]; simp
  exact Run.one (fun vm0 T locs X eT I t g => X.arraylength C.hx (by rw [eT]; exact A.1) (State.isArrayOf_alike I.hZ.alike A.2.1) (g := mkF W.m pc Ls (.ref a :: st)) rfl rfl (C.hb hd) t (by rw [e2]; exact g)) r
theorem caload (C : Cx Z W own nm code maxL ret) (hd : decode code pc = .ok (.caload, 1)) {a : Addr} {vs : List Value} {j : Int32} {v : Value} (F : Ary Z h a .char vs) (h0 : ¬ j < 0) (hv : vs[j.toNatClampNeg]? = some v) (hp : pc + 1 = pc')
    (r : Run l R Z EL W Q S h k n (mkF W.m pc' Ls (v :: st))) : Run l R Z EL W Q S h k n (mkF W.m pc Ls (.int j :: .ref a :: st)) := by
  subst hp
  obtain ⟨c, A, e, -⟩ := F
  have h1 : j.toNatClampNeg < vs.length := (List.getElem?_eq_some_iff.mp hv).1
  exact Run.one (fun vm0 T locs X eT I t g => X.caload C.hx (by rw [eT]; exact A.1) (State.isArrayOf_alike I.hZ.alike A.2.1) A.2.2 (Ary.inb (a := a) (ty := .char) e h0 h1) (by rw [e]; simpa using hv) (g := mkF W.m pc Ls (.int j :: .ref a :: st)) rfl rfl (C.hb hd) t g) r
theorem iaload (C : Cx Z W own nm code maxL ret) (hd : decode code pc = .ok (.iaload, 1)) {a : Addr} {vs : List Value} {j : Int32} {v : Value} (F : Ary Z h a .int vs) (h0 : ¬ j < 0) (hv : vs[j.toNatClampNeg]? = some v) (hp : pc + 1 = pc')
    (r : Run l R Z EL W Q S h k n (mkF W.m pc' Ls (v :: st))) : Run l R Z EL W Q S h k n (mkF W.m pc Ls (.int j :: .ref a :: st)) := by
  subst hp
  obtain ⟨c, A, e, -⟩ := F
  have h1 : j.toNatClampNeg < vs.length := (List.getElem?_eq_some_iff.mp hv).1
  exact Run.one (fun vm0 T locs X eT I t g => X.iaload C.hx (by rw [eT]; exact A.1) (State.isArrayOf_alike I.hZ.alike A.2.1) A.2.2 (Ary.inb (a := a) (ty := .int) e h0 h1) (by rw [e]; simpa using hv) (g := mkF W.m pc Ls (.int j :: .ref a :: st)) rfl rfl (C.hb hd) t g) r
theorem baload (C : Cx Z W own nm code maxL ret) (hd : decode code pc = .ok (.baload, 1)) {a : Addr} {vs : List Value} {j : Int32} {v : Value} (F : Ary Z h a .byte vs) (h0 : ¬ j < 0) (hv : vs[j.toNatClampNeg]? = some v) (hp : pc + 1 = pc')
    (r : Run l R Z EL W Q S h k n (mkF W.m pc' Ls (v :: st))) : Run l R Z EL W Q S h k n (mkF W.m pc Ls (.int j :: .ref a :: st)) := by
  subst hp
  obtain ⟨c, A, e, -⟩ := F
  have h1 : j.toNatClampNeg < vs.length := (List.getElem?_eq_some_iff.mp hv).1
  exact Run.one (fun vm0 T locs X eT I t g => X.baloadBytes C.hx (by rw [eT]; exact A.1) (State.isArrayOf_alike I.hZ.alike A.2.1) A.2.2 (Ary.inb (a := a) (ty := .byte) e h0 h1) (by rw [e]; simpa using hv) (g := mkF W.m pc Ls (.int j :: .ref a :: st)) rfl rfl (C.hb hd) t g) r
theorem saload (C : Cx Z W own nm code maxL ret) (hd : decode code pc = .ok (.saload, 1)) {a : Addr} {vs : List Value} {j : Int32} {v : Value} (F : Ary Z h a .short vs) (h0 : ¬ j < 0) (hv : vs[j.toNatClampNeg]? = some v) (hp : pc + 1 = pc')
    (r : Run l R Z EL W Q S h k n (mkF W.m pc' Ls (v :: st))) : Run l R Z EL W Q S h k n (mkF W.m pc Ls (.int j :: .ref a :: st)) := by
  subst hp
  obtain ⟨c, A, e, -⟩ := F
  have h1 : j.toNatClampNeg < vs.length := (List.getElem?_eq_some_iff.mp hv).1
  exact Run.one (fun vm0 T locs X eT I t g => X.saload C.hx (by rw [eT]; exact A.1) (State.isArrayOf_alike I.hZ.alike A.2.1) A.2.2 (Ary.inb (a := a) (ty := .short) e h0 h1) (by rw [e]; simpa using hv) (g := mkF W.m pc Ls (.int j :: .ref a :: st)) rfl rfl (C.hb hd) t g) r
theorem laload (C : Cx Z W own nm code maxL ret) (hd : decode code pc = .ok (.laload, 1)) {a : Addr} {vs : List Value} {j : Int32} {v : Value} (F : Ary Z h a .long vs) (h0 : ¬ j < 0) (hv : vs[j.toNatClampNeg]? = some v) (hp : pc + 1 = pc')
    (r : Run l R Z EL W Q S h k n (mkF W.m pc' Ls (v :: st))) : Run l R Z EL W Q S h k n (mkF W.m pc Ls (.int j :: .ref a :: st)) := by
  subst hp
  obtain ⟨c, A, e, -⟩ := F
  have h1 : j.toNatClampNeg < vs.length := (List.getElem?_eq_some_iff.mp hv).1
  exact Run.one (fun vm0 T locs X eT I t g => X.laload C.hx (by rw [eT]; exact A.1) (State.isArrayOf_alike I.hZ.alike A.2.1) A.2.2 (Ary.inb (a := a) (ty := .long) e h0 h1) (by rw [e]; simpa using hv) (g := mkF W.m pc Ls (.int j :: .ref a :: st)) rfl rfl (C.hb hd) t g) r
theorem aaload (C : Cx Z W own nm code maxL ret) (hd : decode code pc = .ok (.aaload, 1)) {a : Addr} {ty : FieldType} {vs : List Value} {j : Int32} {v : Value} (F : Ary Z h a ty vs) (ht : ty.isReference = true) (h0 : ¬ j < 0) (hv : vs[j.toNatClampNeg]? = some v) (hp : pc + 1 = pc')
    (r : Run l R Z EL W Q S h k n (mkF W.m pc' Ls (v :: st))) : Run l R Z EL W Q S h k n (mkF W.m pc Ls (.int j :: .ref a :: st)) := by
  subst hp
  obtain ⟨c, A, e, -⟩ := F
  have h1 : j.toNatClampNeg < vs.length := (List.getElem?_eq_some_iff.mp hv).1
  exact Run.one (fun vm0 T locs X eT I t g => X.aaload C.hx (by rw [eT]; exact A.1) (State.isArrayOf_alike I.hZ.alike A.2.1) ht A.2.2 (Ary.inb (a := a) (ty := ty) e h0 h1) (by rw [e]; simpa using hv) (g := mkF W.m pc Ls (.int j :: .ref a :: st)) rfl rfl (C.hb hd) t g) r
theorem Run.wrote {a : Addr} {sl : Nat} {v : Value} {g g' : JFrame} (ha : Z.heap.size ≤ a) (hs : a ∈ S) (f : ∀ vm0 T locs, Std l R W vm0 T locs k n → T.heap = h → Inv Z EL W S vm0 h → ∃ T' h', Std l R W vm0 T' (locs ++ [⟨a, sl⟩]) k n ∧ T'.heap = h' ∧ Wr h h' a sl v ∧ ∀ t, Steps W.p.tables W.e W.b (T'.setTop g') t → Steps W.p.tables W.e W.b (T.setTop g) t)
    (r : ∀ h', Wr h h' a sl v → Ext Z.heap h' → Run l R Z EL W Q S h' k n g') : Run l R Z EL W Q S h k n g := fun vm0 T locs X eT N O I => by
  obtain ⟨T', h', X', e', w', s'⟩ := f vm0 T locs X eT I
  have O' : Ext Z.heap h' := ((old_of O).wr w' ha).2
  exact Go.step s' (r h' w' O' vm0 T' _ X' e' (Fr.snoc X' N ha) O' (I.keep (Keep.of_wr w') fun x hx => by cases List.mem_singleton.mp hx; exact hs))
theorem putF (C : Cx Z W own nm code maxL ret) {R0 O nmF d K : String} {ix kk : Nat} {ty : FieldType} (hd : decode code pc = .ok (.putfield ix, 3)) (w : (Cond.fieldLink own ix R0 nmF d).before a0 Z = true) (via : Via Z R0 O nmF d) {a : Addr} {v old : Value} (F : Fld Z h a O nmF d old) (E : Exa Z h a K)
    (L : (Cond.lays K O nmF d).before a0 Z = true ∨ ((Cond.laysFinal K O nmF d).before a0 Z = true ∧ own = O ∧ nm = "<init>")) (wi : (Cond.instantiable K kk).before a0 Z = true) (hty : parseFieldDescriptor d = some ty) (hn : narrow ty v = v) (hf : fits ty v = true) (ha : Z.heap.size ≤ a) (hs' : a ∈ S) (hp : pc + 3 = pc')
    (r : ∀ h', Wr h h' a (RoadKit.slotOf Z O nmF d) v → Ext Z.heap h' → Run l R Z EL W Q S h' k n (mkF W.m pc' Ls st)) : Run l R Z EL W Q S h k n (mkF W.m pc Ls (v :: .ref a :: st)) := by
  subst hp
  exact Run.wrote ha hs' (fun vm0 T locs X eT I => RoadKit.putF X C.hx I.hZ (I.ow C) (host := "") (Or.inl w) via eT F E (L.imp id fun q => ⟨q.1, q.2.1, C.nme.trans q.2.2⟩) wi hty hn hf (g := mkF W.m pc Ls (v :: .ref a :: st)) rfl rfl (C.hb hd)) r
theorem castore (C : Cx Z W own nm code maxL ret) (hd : decode code pc = .ok (.castore, 1)) {a : Addr} {vs vs' : List Value} {j x : Int32} (F : Ary Z h a .char vs) (h0 : ¬ j < 0) (h1 : j.toNatClampNeg < vs.length) (hx : nar .char x = x) (hs : vs.set j.toNatClampNeg (.int x) = vs') (ha : Z.heap.size ≤ a) (hs' : a ∈ S) (hp : pc + 1 = pc')
    (r : ∀ h', Wr h h' a j.toNatClampNeg (.int x) → Ary Z h' a .char vs' → Ext Z.heap h' → Run l R Z EL W Q S h' k n (mkF W.m pc' Ls st)) : Run l R Z EL W Q S h k n (mkF W.m pc Ls (.int x :: .int j :: .ref a :: st)) := by
  subst hp hs
  have F' := F
  obtain ⟨c, A, e, -⟩ := F'
  exact Run.wrote ha hs' (fun vm0 T locs X eT I => by have w0 := RoadKit.stC X C.hx I.hZ eT A (Ary.inb (a := a) (ty := .char) e h0 h1) (g := mkF W.m pc Ls (.int x :: .int j :: .ref a :: st)) rfl rfl (C.hb hd); rw [hx] at w0; exact w0) (fun h' w' O' => r h' w' (F.set w' (hx ▸ fits_nar_char x)) O')
theorem bastore (C : Cx Z W own nm code maxL ret) (hd : decode code pc = .ok (.bastore, 1)) {a : Addr} {vs vs' : List Value} {j x : Int32} (F : Ary Z h a .byte vs) (h0 : ¬ j < 0) (h1 : j.toNatClampNeg < vs.length) (hs : vs.set j.toNatClampNeg (.int (nar .byte x)) = vs') (ha : Z.heap.size ≤ a) (hs' : a ∈ S) (hp : pc + 1 = pc')
    (r : ∀ h', Wr h h' a j.toNatClampNeg (.int (nar .byte x)) → Ary Z h' a .byte vs' → Ext Z.heap h' → Run l R Z EL W Q S h' k n (mkF W.m pc' Ls st)) : Run l R Z EL W Q S h k n (mkF W.m pc Ls (.int x :: .int j :: .ref a :: st)) := by
  subst hp hs
  have F' := F
  obtain ⟨c, A, e, -⟩ := F'
  exact Run.wrote ha hs' (fun vm0 T locs X eT I => by have w0 := RoadKit.stB X C.hx I.hZ eT A (Ary.inb (a := a) (ty := .byte) e h0 h1) (g := mkF W.m pc Ls (.int x :: .int j :: .ref a :: st)) rfl rfl (C.hb hd); exact w0) (fun h' w' O' => r h' w' (F.set w' (fits_nar_byte x)) O')
theorem iastore (C : Cx Z W own nm code maxL ret) (hd : decode code pc = .ok (.iastore, 1)) {a : Addr} {vs vs' : List Value} {j x : Int32} (F : Ary Z h a .int vs) (h0 : ¬ j < 0) (h1 : j.toNatClampNeg < vs.length) (hs : vs.set j.toNatClampNeg (.int x) = vs') (ha : Z.heap.size ≤ a) (hs' : a ∈ S) (hp : pc + 1 = pc')
    (r : ∀ h', Wr h h' a j.toNatClampNeg (.int x) → Ary Z h' a .int vs' → Ext Z.heap h' → Run l R Z EL W Q S h' k n (mkF W.m pc' Ls st)) : Run l R Z EL W Q S h k n (mkF W.m pc Ls (.int x :: .int j :: .ref a :: st)) := by
  subst hp hs
  have F' := F
  obtain ⟨c, A, e, -⟩ := F'
  exact Run.wrote ha hs' (fun vm0 T locs X eT I => by have w0 := RoadKit.stI X C.hx I.hZ eT A (Ary.inb (a := a) (ty := .int) e h0 h1) (g := mkF W.m pc Ls (.int x :: .int j :: .ref a :: st)) rfl rfl (C.hb hd); exact w0) (fun h' w' O' => r h' w' (F.set w' rfl) O')
theorem aastore (C : Cx Z W own nm code maxL ret) (hd : decode code pc = .ok (.aastore, 1)) {a : Addr} {ty : FieldType} {vs vs' : List Value} {j : Int32} {v : Value} (F : Ary Z h a ty vs) (h0 : ¬ j < 0) (h1 : j.toNatClampNeg < vs.length) (ht : ty.isReference = true) (So : Sto Z h a v) (hf : fits ty v = true) (hs : vs.set j.toNatClampNeg v = vs') (ha : Z.heap.size ≤ a) (hs' : a ∈ S) (hp : pc + 1 = pc')
    (r : ∀ h', Wr h h' a j.toNatClampNeg v → Ary Z h' a ty vs' → Ext Z.heap h' → Run l R Z EL W Q S h' k n (mkF W.m pc' Ls st)) : Run l R Z EL W Q S h k n (mkF W.m pc Ls (v :: .int j :: .ref a :: st)) := by
  subst hp hs
  have F' := F
  obtain ⟨c, A, e, -⟩ := F'
  exact Run.wrote ha hs' (fun vm0 T locs X eT I => stR X C.hx I.hZ eT A (Ary.inb (a := a) (ty := ty) e h0 h1) ht So (g := mkF W.m pc Ls (v :: .int j :: .ref a :: st)) rfl rfl (C.hb hd)) (fun h' w' O' => r h' w' (F.set w' hf) O')
theorem newO (C : Cx Z W own nm code maxL ret) {K : String} {ix sl k' n' : Nat} (hd : decode code pc = .ok (.new ix, 3)) (w : (Cond.classLink own ix K).before a0 Z = true) (wi : (Cond.instantiable K sl).before a0 Z = true) (wz : (Cond.initialized K).before a0 Z = true) (hc : k + 1 = k') (hl : n + sl = n') (hc' : k' ≤ R.cells) (hl' : n' ≤ R.slots) (hp : pc + 3 = pc')
    (r : ∀ a h', a = h.size → Z.heap.size ≤ a → Ext h h' → Exa Z h' a K → Fresh Z a0 h' a K → Unt h' a → Ext Z.heap h' → Run l R Z EL W Q (a :: S) h' k' n' (mkF W.m pc' Ls (.ref a :: st))) : Run l R Z EL W Q S h k n (mkF W.m pc Ls st) := by
  subst hp hc hl
  intro vm0 T locs X eT N O I
  obtain ⟨T', h', X', e', E', A', D', U', s'⟩ := RoadKit.newO X C.hx I.hZ (I.ow C) w wi wz eT (g := mkF W.m pc Ls st) rfl (C.hb hd) hc' hl'
  have O' : Ext Z.heap h' := ((old_of O).ext E').2
  exact Go.step s' (r h.size h' rfl O.1 E' A' D' U' O' vm0 T' locs X' e' N O' (I.fresh E' A'.lt))
theorem newA (C : Cx Z W own nm code maxL ret) {aty : ArrayType} {ty : FieldType} {z : Int32} {k' n' cap : Nat} (hd : decode code pc = .ok (.newarray aty, 2)) (ht : newarray.typeOf aty = ty) (w : (Cond.arrayClass ty).before a0 Z = true) (hz : ¬ z < 0) (hcap : z.toNatClampNeg ≤ cap) (hb : cap * 8 ≤ 536870912) (hc : k + 1 = k') (hl : n + cap = n') (hc' : k' ≤ R.cells) (hl' : n' ≤ R.slots) (hdf : fits ty (defaultValue ty) = true) (hp : pc + 2 = pc')
    (r : ∀ a h', a = h.size → Z.heap.size ≤ a → Ext h h' → Ary Z h' a ty (List.replicate z.toNatClampNeg (defaultValue ty)) → Ext Z.heap h' → Run l R Z EL W Q (a :: S) h' k' n' (mkF W.m pc' Ls (.ref a :: st))) : Run l R Z EL W Q S h k n (mkF W.m pc Ls (.int z :: st)) := by
  subst hp hc hl ht
  intro vm0 T locs X eT N O I
  obtain ⟨T', h', cA, X', e', E', A', s'⟩ := newP X C.hx I.hZ w eT (g := mkF W.m pc Ls (.int z :: st)) rfl (C.hb hd) rfl hz hcap hb hc' hl'
  have O' : Ext Z.heap h' := ((old_of O).ext E').2
  have hz2 : z.toNatClampNeg < 2 ^ 31 := (back32 hz).2
  refine Go.step s' (r h.size h' rfl O.1 E' ⟨_, A', ?_, by simpa using hz2, fun v hv => ?_⟩ O' vm0 T' locs X' e' N O' (I.fresh E' A'.lt))
  · show Array.replicate _ _ = _
    simp
  · rw [(List.mem_replicate.mp hv).2]; exact hdf
theorem initO (C : Cx Z W own nm code maxL ret) {ix Wn : Nat} (hd : decode code pc = .ok (.invokespecial ix, 3)) (w1 : (Cond.methodLink own ix Lib.objectInit).before a0 Z = true) (w2 : (Cond.instanceMethod Lib.objectInit).before a0 Z = true) (w3 : (Cond.code Lib.objectInit ⟨#[0xb1]⟩ 1 none).before a0 Z = true) {a : Addr} (hsz : Ls.size = maxL) (hf : 1 ≤ R.frames) (hW : (st.map fun v => v.category).sum ≤ Wn) (hl : Wn + 12 ≤ R.locals) (hp : pc + 3 = pc')
    (r : Run l R Z EL W Q S h k n (mkF W.m pc' Ls st)) : Run l R Z EL W Q S h k n (mkF W.m pc Ls (.ref a :: st)) := by
  subst hp
  exact Run.via (fun vm0 T locs X eT I => RoadKit.initO X C.hx I.hZ (I.ow C) w1 w2 w3 eT (g := mkF W.m pc Ls (.ref a :: st)) rfl (hsz.trans C.ml.symm) rfl (C.hb hd) hf (W := Wn) (by show 2 * 0 + _ ≤ _; omega) hl) r
/-- a String constant -/
theorem ldcS (C : Cx Z W own nm code maxL ret) {ix k' n' nb : Nat} {text : String} {vs : List Value} {z : Int32} (hd : decode code pc = .ok (.ldc ix, 2)) (w : (Cond.stringLink own ix text).before a0 Z = true) (wS : ∀ a ∈ Bundle.stringAtoms, a.before a0 Z = true) (hE : EW Z a0 EL) (hm : (own, ix) ∈ EL) (ht : (∀ c ∈ text.toList, c.toNat < 256) ∧ text.toList.map (fun c => Value.int (Jvm.Lit.byteI c.toNat.toUInt16)) = vs) (hz : ¬ z < 0) (hl : z.toNatClampNeg = vs.length)
    (hn : 4 * text.toList.length ≤ nb) (hb : nb ≤ 536870912) (hk : k + 2 = k') (hn' : n + (nb + 4) = n') (hc : k' ≤ R.cells) (hl' : n' ≤ R.slots) (hp : pc + 2 = pc')
    (r : ∀ a b h', Ext h h' → Exa Z h' a "java/lang/String" → Fld Z h' a "java/lang/String" "coder" "B" (.int 0) → Fld Z h' a "java/lang/String" "value" "[B" (.ref b) → Ary Z h' b .byte vs → (∀ x ∈ S, x ≠ a ∧ x ≠ b) → Ext Z.heap h' → Run l R Z EL W Q S h' k' n' (mkF W.m pc' Ls (.ref a :: st))) : Run l R Z EL W Q S h k n (mkF W.m pc Ls st) := by
  subst hp hk hn'
  intro vm0 T locs X eT N O I
  have I0 := I
  obtain ⟨⟨k0, hS, hk0⟩, hZ, hr, hs⟩ := I
  obtain ⟨a, T', h', k1, b, kc, X', e', E', hS', hk1, hZ', -, A', Cd', V', F', -, -, CH', -, ne', s'⟩ := ldcCH X C.hx hZ (I0.ow C) w wS eT hS hk0 hE hm hr.1 ht hz hl (g := mkF W.m pc Ls st) rfl (C.hb hd) hn hb hc hl'
  have O' : Ext Z.heap h' := ((old_of O).ext E').2
  have I' : Inv Z EL W S T'.vm h' := ⟨⟨k1, hS', hk1⟩, hZ', hr.trans CH', fun x hx => ⟨Nat.lt_of_lt_of_le (hs x hx).1 E'.1, CH'.safe (hs x hx).1 (hs x hx).2⟩⟩
  exact Go.step s' (r a b h' E' A' Cd' V' (Ary.of_arv F' hl) (fun x hx => ne' x (I'.2.2.2 x hx).2) O' T'.vm T' locs X' e' N O' I')
/-- a String constant of which nothing is said -/
theorem ldcS0 (C : Cx Z W own nm code maxL ret) {ix k' n' nb : Nat} {text : String} (hd : decode code pc = .ok (.ldc ix, 2)) (w : (Cond.stringLink own ix text).before a0 Z = true) (wS : ∀ a ∈ Bundle.stringAtoms, a.before a0 Z = true) (hEL : EL = [])
    (hn : 4 * text.toList.length ≤ nb) (hb : nb ≤ 536870912) (hk : k + 2 = k') (hn' : n + (nb + 4) = n') (hc : k' ≤ R.cells) (hl' : n' ≤ R.slots) (hp : pc + 2 = pc')
    (r : ∀ a h', Ext h h' → Ext Z.heap h' → Run l R Z EL W Q S h' k' n' (mkF W.m pc' Ls (.ref a :: st))) : Run l R Z EL W Q S h k n (mkF W.m pc Ls st) := by
  subst hp hk hn' hEL
  intro vm0 T locs X eT N O I
  have I0 := I
  obtain ⟨⟨k0, hS, hk0⟩, hZ, hr, hs⟩ := I
  obtain ⟨a, T', h', k1, X', e', E', hS', hk1, hZ', -, s'⟩ := Jvm.RoadKit.ldcS X C.hx hZ (I0.ow C) w wS eT hS hk0 (g := mkF W.m pc Ls st) rfl (C.hb hd) hn hb hc hl'
  have O' : Ext Z.heap h' := ((old_of O).ext E').2
  have I' : Inv Z [] W S T'.vm h' := ⟨⟨k1, hS', hk1⟩, hZ', ⟨(fun p hp => nomatch hp), Nat.le_trans hr.2.1 E'.1, fun y q => by obtain ⟨p, hp, -⟩ := q; cases hp⟩, fun x hx => ⟨Nat.lt_of_lt_of_le (hs x hx).1 E'.1, fun q => by obtain ⟨p, hp, -⟩ := q; cases hp⟩⟩
  exact Go.step s' (r a h' E' O' T'.vm T' locs X' e' N O' I')
/-! ## contracts and calls -/
def Con (l : Launch) (Z : State) (EL : List (String × Nat)) (y : MethodName) (bytes : ByteArray) (maxL : Nat) (ret : Option FieldType) (rm : Room) (as' : Array Value) (h0 : Heap) (Q : Post) : Prop :=
  ∀ ws, MetFree l y (head1 (Jvm.Cond.code y bytes maxL ret :: ws) rm) (fun a U => a = as' ∧ Z.Warmed39 U.vm ∧ U.heap = h0 ∧ CHv Z EL U.vm h0) (fun _ _ _ _ _ => True) (fun _ U o U' => ∃ v L, o = .returned v ∧ (Q v U'.heap ∧ Ext Z.heap U'.heap ∧ Fr Z.heap.size L) ∧ CHr Z EL U.vm U.heap U'.vm U'.heap ∧ ReturnedEndW U o U' L rm.cells rm.slots)
theorem Con.intro {y : MethodName} {bytes : ByteArray} {rm : Room} {as' : Array Value} {Ls0 : Array Slot} (hy : plainFor y = true) (O : Ext Z.heap h) (he : ∀ m, entryFrame m as' maxL = mkF m 0 Ls0 [])
    (body : ∀ W : Wd, Cx Z W y.cls y.name bytes maxL ret → Run l rm Z EL W Q [] h 0 0 (mkF W.m 0 Ls0 [])) : Con l Z EL y bytes maxL ret rm as' h Q := by
  intro ws
  refine MetFree.of_bodySF hy hisR ?_
  intro p e s m args below meth c s₁ Bd hml0 hP hK
  obtain ⟨rfl, hZ, hh, hCH⟩ := hP
  have e0 : s₁.heap = h := by rw [← hh, Bd.state]; rfl
  have X0 : Stand p l e rm s m args below meth c s₁ [] 0 0 := Stand.of_body Bd
  have I0 : Inv Z EL (p, e, s, m, args, below, meth, c) [] s.vm h := ⟨⟨h.size, (State.WarmedH.refl s).since _, Nat.le_refl _⟩, hZ, by rw [← hh] at hCH ⊢; exact CHr.refl hCH, fun _ q => nomatch q⟩
  have r := body (p, e, s, m, args, below, meth, c) ⟨Bd.exec, Bd.bytes, hml0, findClass_of_methodNamed Bd.named, hZ, Bd.returns, (name_of_methodNamed Bd.named Bd.method).1, Bd.notSynchronized⟩ s.vm s₁ [] X0 e0 (Fr.nil _) O I0
  rw [he m]
  exact r
section Calls
variable {y : MethodName} {bytes : ByteArray} {mxL : Nat} {rt : Option FieldType} {rm : Room} {Qc : Post} {argsL : List Value} {as' : Array Value} {ix Wn k' n' kc nc : Nat} {st' : List Value}
/-- how a narrow callee leaves the heap -/
def Car (S : List Addr) (h h' : Heap) : Prop := h' = h ∨ Ext h h' ∨ ∃ ws : List Addr, (∀ x ∈ ws, x ∈ S) ∧ Keep h h' ws
theorem Inv.car {vm0 : Vm} {h' : Heap} (I : Inv Z EL W S vm0 h) (c : Car S h h') : Inv Z EL W S vm0 h' := by
  rcases c with rfl | E | ⟨ws, ha, K⟩
  · exact I
  · exact I.ext E
  · exact I.keep K ha
/-- how a narrow callee leaves the heap, in general: what it wrote was safe or is new; S': what is safe behind it -/
def CarN (S S' : List Addr) (h h' : Heap) : Prop := ∃ ws, (∀ x ∈ ws, x ∈ S ∨ h.size ≤ x) ∧ Keep h h' ws ∧ ∀ x ∈ S', x ∈ S ∨ (h.size ≤ x ∧ x < h'.size)
theorem Inv.carN {vm0 : Vm} {h' : Heap} {S' : List Addr} (I : Inv Z EL W S vm0 h) (c : CarN S S' h h') : Inv Z EL W S' vm0 h' := by
  obtain ⟨ws, q, K, n⟩ := c
  obtain ⟨⟨k0, hS, hk⟩, hZ, hr, hs⟩ := I
  have hq : ∀ x ∈ ws, Safe Z EL vm0 h x := fun x hx => (q x hx).elim (fun m => (hs x m).2) (fun m => Safe.new m)
  refine ⟨⟨k0, hS, Nat.le_trans hk K.1⟩, hZ, hr.trans (CHr.keep K hq hr.1), fun x hx => ?_⟩
  rcases n x hx with m | ⟨m1, m2⟩
  · exact ⟨Nat.lt_of_lt_of_le (hs x m).1 K.1, (hs x m).2.keep K hq hr.1⟩
  · exact ⟨m2, (Safe.new m1).keep K hq hr.1⟩
abbrev PaysS (l : Launch) (R : Room) (Z : State) (EL : List (String × Nat)) (W : Wd) (vm0 : Vm) (y : MethodName) (ln Wn : Nat) (as' : Array Value) (h : Heap) (kc nc : Nat) (Qv : Option Value → Heap → List Loc → Prop) : Prop :=
  BackS l R W.p W.e W.b (W.s.setVm vm0) W.a y ln Wn (fun P a => a = as' ∧ P.U.heap = h ∧ P.cells + kc ≤ R.cells ∧ P.slots + nc ≤ R.slots) (fun P _ v B => ∃ L, Qv v B.U.heap L ∧ B.locs = P.locs ++ L ∧ B.cells = P.cells + kc ∧ B.slots = P.slots + nc ∧ CHr Z EL vm0 h B.U.vm B.U.heap)
theorem Con.pays {ln : Nat} (hE : EW Z a0 EL) (K : Con l Z EL y bytes mxL rt rm as' h Qc) (w4 : (Cond.code y bytes mxL rt).before a0 Z = true) (wz : (Cond.initialized y.cls).before a0 Z = true) (hf : rm.frames + 1 ≤ R.frames) (hl : Wn + (mxL + 11) + rm.locals ≤ R.locals) : ∀ vm0, Inv Z EL W S vm0 h →
    PaysS l R Z EL W vm0 y ln Wn as' h rm.cells rm.slots (fun v h' L => Qc v h' ∧ Ext Z.heap h' ∧ Fr Z.heap.size L) := fun vm0 I => backOfSH (W := Wn) (Q := fun v h' L => Qc v h' ∧ Ext Z.heap h' ∧ Fr Z.heap.size L) (K []) I.2.1 w4 wz hf hl hE I.ch
theorem Inv.back {vm0 vm1 : Vm} {h1 : Heap} (I : Inv Z EL W S vm0 h) (hS : (W.s.setVm vm0).Since vm1 h1.size) (hg : h.size ≤ h1.size) (hr : CHr Z EL vm0 h vm1 h1) : Inv Z EL W S vm1 h1 := by
  obtain ⟨⟨k0, hS0, hk⟩, hZ, hr0, hs⟩ := I
  exact ⟨⟨h1.size, hS0.trans hS (Nat.le_trans hk hg), Nat.le_refl _⟩, State.Warmed39.trans (t := W.s.setVm vm0) hZ hS.1, hr0.trans hr, fun x hx => ⟨Nat.lt_of_lt_of_le (hs x hx).1 hg, hr.safe (hs x hx).1 (hs x hx).2⟩⟩
theorem callSN (C : Cx Z W own nm code maxL ret) (hd : decode code pc = .ok (.invokestatic ix, 3)) {τ : Type} {Qd : τ → Post} {S' : τ → List Addr} {Qv : Option Value → Heap → List Loc → Prop} (K : ∀ vm0, Cx Z (At W vm0) own nm code maxL ret → Wk.Pays l R (At W vm0) y 3 Wn as' h kc nc Qv) (hQ : Clean Z (fun v h' => ∃ t, Qd t v h') Qv) (hcar : ∀ t v h', Qd t v h' → CarN S (S' t) h h') (w1 : (Cond.methodLink own ix y).before a0 Z = true) (w2 : (Cond.static y).before a0 Z = true) (w3 : (Cond.initialized y.cls).before a0 Z = true) (w4 : (Cond.code y bytes mxL rt).before a0 Z = true) (hy : y.cls ≠ "java/lang/invoke/MethodHandle" ∧ y.cls ≠ "java/lang/invoke/VarHandle")
    (has : argsL.toArray = as') (hst : argsL.reverse ++ st = st') (hlen : ∀ sig, parseMethodDescriptor y.desc = some sig → argsL.length = sig.parameters.length) (hsz : Ls.size = maxL) (hW : (st.map fun v => v.category).sum ≤ Wn) (hk : k + kc = k') (hn : n + nc = n') (hk' : k' ≤ R.cells) (hn' : n' ≤ R.slots) (hp : pc + 3 = pc')
    (r : ∀ t v h', Qd t v h' → Ext Z.heap h' → Run l R Z EL W Q (S' t) h' k' n' (mkF W.m pc' Ls (v.toList ++ st))) : Run l R Z EL W Q S h k n (mkF W.m pc Ls st') := by
  subst hp hk hn has hst
  intro vm0 T locs X eT N O I
  obtain ⟨v, vm₁, ⟨T', L', k', n'⟩, -, X', ⟨L, q0, l1, y1, z1⟩, s'⟩ := Jvm.LawKit.callS X C.hx (y := y) (I.ow C) (mvT I.hZ w1) (mvT I.hZ w2) (mvT I.hZ w3) (mvT I.hZ w4) hy (K vm0 (I.cx C)) (g := mkF W.m pc Ls (argsL.reverse ++ st)) rfl (hsz.trans C.ml.symm) (argsL := argsL) (rest := st) hlen rfl (by show 2 * 0 + _ ≤ _; omega) (C.hb hd) (fun _ _ => ⟨rfl, eT, hk', hn'⟩)
  dsimp only [Pt.U, Pt.locs, Pt.cells, Pt.slots] at X' l1 y1 z1 s' q0
  subst l1 y1 z1
  obtain ⟨⟨t, q1⟩, q2, q3⟩ := hQ _ _ _ q0
  exact Go.step s' (r t v T'.heap q1 q2 vm0 T' _ X' rfl (N.app q3) q2 (I.carN (hcar _ _ _ q1)))
theorem callS (C : Cx Z W own nm code maxL ret) (hd : decode code pc = .ok (.invokestatic ix, 3)) {Qv : Option Value → Heap → List Loc → Prop} (K : ∀ vm0, Cx Z (At W vm0) own nm code maxL ret → Wk.Pays l R (At W vm0) y 3 Wn as' h kc nc Qv) (hQ : Clean Z Qc Qv) (hcar : ∀ v h', Qc v h' → Car S h h') (w1 : (Cond.methodLink own ix y).before a0 Z = true) (w2 : (Cond.static y).before a0 Z = true) (w3 : (Cond.initialized y.cls).before a0 Z = true) (w4 : (Cond.code y bytes mxL rt).before a0 Z = true) (hy : y.cls ≠ "java/lang/invoke/MethodHandle" ∧ y.cls ≠ "java/lang/invoke/VarHandle")
    (has : argsL.toArray = as') (hst : argsL.reverse ++ st = st') (hlen : ∀ sig, parseMethodDescriptor y.desc = some sig → argsL.length = sig.parameters.length) (hsz : Ls.size = maxL) (hW : (st.map fun v => v.category).sum ≤ Wn) (hk : k + kc = k') (hn : n + nc = n') (hk' : k' ≤ R.cells) (hn' : n' ≤ R.slots) (hp : pc + 3 = pc')
    (r : ∀ v h', Qc v h' → Ext Z.heap h' → Run l R Z EL W Q S h' k' n' (mkF W.m pc' Ls (v.toList ++ st))) : Run l R Z EL W Q S h k n (mkF W.m pc Ls st') := by
  subst hp hk hn has hst
  intro vm0 T locs X eT N O I
  obtain ⟨v, vm₁, ⟨T', L', k', n'⟩, -, X', ⟨L, q0, l1, y1, z1⟩, s'⟩ := Jvm.LawKit.callS X C.hx (y := y) (I.ow C) (mvT I.hZ w1) (mvT I.hZ w2) (mvT I.hZ w3) (mvT I.hZ w4) hy (K vm0 (I.cx C)) (g := mkF W.m pc Ls (argsL.reverse ++ st)) rfl (hsz.trans C.ml.symm) (argsL := argsL) (rest := st) hlen rfl (by show 2 * 0 + _ ≤ _; omega) (C.hb hd) (fun _ _ => ⟨rfl, eT, hk', hn'⟩)
  dsimp only [Pt.U, Pt.locs, Pt.cells, Pt.slots] at X' l1 y1 z1 s' q0
  subst l1 y1 z1
  obtain ⟨q1, q2, q3⟩ := hQ _ _ _ q0
  exact Go.step s' (r v T'.heap q1 q2 vm0 T' _ X' rfl (N.app q3) q2 (I.car (hcar _ _ q1)))
theorem callSS (C : Cx Z W own nm code maxL ret) (hd : decode code pc = .ok (.invokestatic ix, 3)) {Qv : Option Value → Heap → List Loc → Prop} (K : ∀ vm0, Inv Z EL W S vm0 h → PaysS l R Z EL W vm0 y 3 Wn as' h kc nc Qv) (hQ : Clean Z Qc Qv) (w1 : (Cond.methodLink own ix y).before a0 Z = true) (w2 : (Cond.static y).before a0 Z = true) (w3 : (Cond.initialized y.cls).before a0 Z = true) (w4 : (Cond.code y bytes mxL rt).before a0 Z = true) (hy : y.cls ≠ "java/lang/invoke/MethodHandle" ∧ y.cls ≠ "java/lang/invoke/VarHandle")
    (has : argsL.toArray = as') (hst : argsL.reverse ++ st = st') (hlen : ∀ sig, parseMethodDescriptor y.desc = some sig → argsL.length = sig.parameters.length) (hsz : Ls.size = maxL) (hW : (st.map fun v => v.category).sum ≤ Wn) (hk : k + kc = k') (hn : n + nc = n') (hk' : k' ≤ R.cells) (hn' : n' ≤ R.slots) (hp : pc + 3 = pc')
    (r : ∀ v h', Qc v h' → Ext Z.heap h' → Run l R Z EL W Q S h' k' n' (mkF W.m pc' Ls (v.toList ++ st))) : Run l R Z EL W Q S h k n (mkF W.m pc Ls st') := by
  subst hp hk hn has hst
  intro vm0 T locs X eT N O I
  obtain ⟨v, vm₁, ⟨T', L', k', n'⟩, -, X', hS, hg, ⟨L, q0, l1, y1, z1, hr⟩, s'⟩ := callSS X C.hx (y := y) (I.ow C) (mvT I.hZ w1) (mvT I.hZ w2) (mvT I.hZ w3) (mvT I.hZ w4) hy (K vm0 I) (g := mkF W.m pc Ls (argsL.reverse ++ st)) rfl (hsz.trans C.ml.symm) (argsL := argsL) (rest := st) hlen rfl (by show 2 * 0 + _ ≤ _; omega) (C.hb hd) (fun _ _ => ⟨rfl, eT, hk', hn'⟩)
  dsimp only [Pt.U, Pt.locs, Pt.cells, Pt.slots] at X' l1 y1 z1 s' q0 hS hg hr
  subst l1 y1 z1
  obtain ⟨q1, q2, q3⟩ := hQ _ _ _ q0
  exact Go.step (fun t => s'.trans) (r v T'.heap q1 q2 T'.vm T' _ X' rfl (N.app q3) q2 (I.back hS (eT ▸ hg) hr))
theorem callIN (C : Cx Z W own nm code maxL ret) (hd : decode code pc = .ok (.invokespecial ix, 3)) {a : Addr} {τ : Type} {Qd : τ → Post} {S' : τ → List Addr} {Qv : Option Value → Heap → List Loc → Prop} (K : ∀ vm0, Cx Z (At W vm0) own nm code maxL ret → Wk.Pays l R (At W vm0) y 3 Wn as' h kc nc Qv) (hQ : Clean Z (fun v h' => ∃ t, Qd t v h') Qv) (hcar : ∀ t v h', Qd t v h' → CarN S (S' t) h h') (hi : y.name = "<init>") (w1 : (Cond.methodLink own ix y).before a0 Z = true) (w2 : (Cond.instanceMethod y).before a0 Z = true) (w4 : (Cond.code y bytes mxL none).before a0 Z = true) (hy : y.cls ≠ "java/lang/invoke/MethodHandle" ∧ y.cls ≠ "java/lang/invoke/VarHandle")
    (has : (Value.ref a :: argsL).toArray = as') (hst : argsL.reverse ++ .ref a :: st = st') (hlen : ∀ sig, parseMethodDescriptor y.desc = some sig → argsL.length = sig.parameters.length) (hsz : Ls.size = maxL) (hW : (st.map fun v => v.category).sum ≤ Wn) (hk : k + kc = k') (hn : n + nc = n') (hk' : k' ≤ R.cells) (hn' : n' ≤ R.slots) (hp : pc + 3 = pc')
    (r : ∀ t v h', Qd t v h' → Ext Z.heap h' → Run l R Z EL W Q (S' t) h' k' n' (mkF W.m pc' Ls (v.toList ++ st))) : Run l R Z EL W Q S h k n (mkF W.m pc Ls st') := by
  subst hp hk hn has hst
  intro vm0 T locs X eT N O I
  obtain ⟨v, vm₁, ⟨T', L', k', n'⟩, -, X', ⟨L, q0, l1, y1, z1⟩, s'⟩ := X.specialBack C.hx (y := y) hi (I.ow C) (mvT I.hZ w1) (mvT I.hZ w2) (mvT I.hZ w4) hy (K vm0 (I.cx C)) (g := mkF W.m pc Ls (argsL.reverse ++ .ref a :: st)) rfl (hsz.trans C.ml.symm) (Steps.refl _) (a := a) (argsL := argsL) (rest := st) hlen rfl (by show 2 * 0 + _ ≤ _; omega) (C.hb hd) (fun _ _ => ⟨rfl, eT, hk', hn'⟩)
  dsimp only [Pt.U, Pt.locs, Pt.cells, Pt.slots] at X' l1 y1 z1 s' q0
  subst l1 y1 z1
  obtain ⟨⟨t, q1⟩, q2, q3⟩ := hQ _ _ _ q0
  exact Go.step (fun t => s'.trans) (r t v T'.heap q1 q2 vm0 T' _ X' rfl (N.app q3) q2 (I.carN (hcar _ _ _ q1)))
theorem callI (C : Cx Z W own nm code maxL ret) (hd : decode code pc = .ok (.invokespecial ix, 3)) {a : Addr} {Qv : Option Value → Heap → List Loc → Prop} (K : ∀ vm0, Cx Z (At W vm0) own nm code maxL ret → Wk.Pays l R (At W vm0) y 3 Wn as' h kc nc Qv) (hQ : Clean Z Qc Qv) (hcar : ∀ v h', Qc v h' → Car S h h') (hi : y.name = "<init>") (w1 : (Cond.methodLink own ix y).before a0 Z = true) (w2 : (Cond.instanceMethod y).before a0 Z = true) (w4 : (Cond.code y bytes mxL none).before a0 Z = true) (hy : y.cls ≠ "java/lang/invoke/MethodHandle" ∧ y.cls ≠ "java/lang/invoke/VarHandle")
    (has : (Value.ref a :: argsL).toArray = as') (hst : argsL.reverse ++ .ref a :: st = st') (hlen : ∀ sig, parseMethodDescriptor y.desc = some sig → argsL.length = sig.parameters.length) (hsz : Ls.size = maxL) (hW : (st.map fun v => v.category).sum ≤ Wn) (hk : k + kc = k') (hn : n + nc = n') (hk' : k' ≤ R.cells) (hn' : n' ≤ R.slots) (hp : pc + 3 = pc')
    (r : ∀ v h', Qc v h' → Ext Z.heap h' → Run l R Z EL W Q S h' k' n' (mkF W.m pc' Ls (v.toList ++ st))) : Run l R Z EL W Q S h k n (mkF W.m pc Ls st') := by
  subst hp hk hn has hst
  intro vm0 T locs X eT N O I
  obtain ⟨v, vm₁, ⟨T', L', k', n'⟩, -, X', ⟨L, q0, l1, y1, z1⟩, s'⟩ := X.specialBack C.hx (y := y) hi (I.ow C) (mvT I.hZ w1) (mvT I.hZ w2) (mvT I.hZ w4) hy (K vm0 (I.cx C)) (g := mkF W.m pc Ls (argsL.reverse ++ .ref a :: st)) rfl (hsz.trans C.ml.symm) (Steps.refl _) (a := a) (argsL := argsL) (rest := st) hlen rfl (by show 2 * 0 + _ ≤ _; omega) (C.hb hd) (fun _ _ => ⟨rfl, eT, hk', hn'⟩)
  dsimp only [Pt.U, Pt.locs, Pt.cells, Pt.slots] at X' l1 y1 z1 s' q0
  subst l1 y1 z1
  obtain ⟨q1, q2, q3⟩ := hQ _ _ _ q0
  exact Go.step (fun t => s'.trans) (r v T'.heap q1 q2 vm0 T' _ X' rfl (N.app q3) q2 (I.car (hcar _ _ q1)))
theorem callIS (C : Cx Z W own nm code maxL ret) (hd : decode code pc = .ok (.invokespecial ix, 3)) {a : Addr} {Qv : Option Value → Heap → List Loc → Prop} (K : ∀ vm0, Inv Z EL W S vm0 h → PaysS l R Z EL W vm0 y 3 Wn as' h kc nc Qv) (hQ : Clean Z Qc Qv) (hi : y.name = "<init>") (w1 : (Cond.methodLink own ix y).before a0 Z = true) (w2 : (Cond.instanceMethod y).before a0 Z = true) (w4 : (Cond.code y bytes mxL none).before a0 Z = true) (hy : y.cls ≠ "java/lang/invoke/MethodHandle" ∧ y.cls ≠ "java/lang/invoke/VarHandle")
    (has : (Value.ref a :: argsL).toArray = as') (hst : argsL.reverse ++ .ref a :: st = st') (hlen : ∀ sig, parseMethodDescriptor y.desc = some sig → argsL.length = sig.parameters.length) (hsz : Ls.size = maxL) (hW : (st.map fun v => v.category).sum ≤ Wn) (hk : k + kc = k') (hn : n + nc = n') (hk' : k' ≤ R.cells) (hn' : n' ≤ R.slots) (hp : pc + 3 = pc')
    (r : ∀ v h', Qc v h' → Ext Z.heap h' → Run l R Z EL W Q S h' k' n' (mkF W.m pc' Ls (v.toList ++ st))) : Run l R Z EL W Q S h k n (mkF W.m pc Ls st') := by
  subst hp hk hn has hst
  intro vm0 T locs X eT N O I
  obtain ⟨v, vm₁, ⟨T', L', k', n'⟩, -, X', hS, hg, ⟨L, q0, l1, y1, z1, hr⟩, s'⟩ := X.specialBackS C.hx (y := y) hi (I.ow C) (mvT I.hZ w1) (mvT I.hZ w2) (mvT I.hZ w4) hy (K vm0 I) (g := mkF W.m pc Ls (argsL.reverse ++ .ref a :: st)) rfl (hsz.trans C.ml.symm) (Steps.refl _) (a := a) (argsL := argsL) (rest := st) hlen rfl (by show 2 * 0 + _ ≤ _; omega) (C.hb hd) (fun _ _ => ⟨rfl, eT, hk', hn'⟩)
  dsimp only [Pt.U, Pt.locs, Pt.cells, Pt.slots] at X' l1 y1 z1 s' q0 hS hg hr
  subst l1 y1 z1
  obtain ⟨q1, q2, q3⟩ := hQ _ _ _ q0
  exact Go.step (fun t => s'.trans) (r v T'.heap q1 q2 T'.vm T' _ X' rfl (N.app q3) q2 (I.back hS (eT ▸ hg) hr))
theorem callVN (C : Cx Z W own nm code maxL ret) (hd : decode code pc = .ok (.invokevirtual ix, 3)) {y0 : MethodName} {K0 : String} {a : Addr} {τ : Type} {Qd : τ → Post} {S' : τ → List Addr} {Qv : Option Value → Heap → List Loc → Prop} (K : ∀ vm0, Cx Z (At W vm0) own nm code maxL ret → Wk.Pays l R (At W vm0) y 3 Wn as' h kc nc Qv) (hQ : Clean Z (fun v h' => ∃ t, Qd t v h') Qv) (hcar : ∀ t v h', Qd t v h' → CarN S (S' t) h h') (E : Exa Z h a K0) (w1 : (Cond.methodLink own ix y0).before a0 Z = true) (w2 : (Cond.declares y0).before a0 Z = true) (nf : ∀ vm0, Z.Warmed39 vm0 → NotFace (W.s.setVm vm0) y0) (w3 : (Cond.selects K0 y0 y).before a0 Z = true) (w5 : (Cond.instanceMethod y).before a0 Z = true) (hy : y0.cls ≠ "java/lang/invoke/MethodHandle" ∧ y0.cls ≠ "java/lang/invoke/VarHandle")
    (has : (Value.ref a :: argsL).toArray = as') (hst : argsL.reverse ++ .ref a :: st = st') (hlen : ∀ sig, parseMethodDescriptor y0.desc = some sig → argsL.length = sig.parameters.length) (hsz : Ls.size = maxL) (hW : (st.map fun v => v.category).sum ≤ Wn) (hk : k + kc = k') (hn : n + nc = n') (hk' : k' ≤ R.cells) (hn' : n' ≤ R.slots) (hp : pc + 3 = pc')
    (r : ∀ t v h', Qd t v h' → Ext Z.heap h' → Run l R Z EL W Q (S' t) h' k' n' (mkF W.m pc' Ls (v.toList ++ st))) : Run l R Z EL W Q S h k n (mkF W.m pc Ls st') := by
  subst hp hk hn has hst
  intro vm0 T locs X eT N O I
  obtain ⟨cq, kq, qa, qb, qc⟩ := isOf I.hZ eT E
  obtain ⟨v, vm₁, ⟨T', L', k', n'⟩, -, X', ⟨L, q0, l1, y1, z1⟩, s'⟩ := X.virtualBack C.hx (y := y0) (z := y) (I.ow C) (mvT I.hZ w1) (mvT I.hZ w2) (nf vm0 I.2.1) (mvT I.hZ w3) (mvT I.hZ w5) hy (K vm0 (I.cx C)) qa qc (g := mkF W.m pc Ls (argsL.reverse ++ .ref a :: st)) rfl (hsz.trans C.ml.symm) (Steps.refl _) (argsL := argsL) (rest := st) hlen rfl (by show 2 * 0 + _ ≤ _; omega) (C.hb hd) (fun _ _ => ⟨rfl, eT, hk', hn'⟩)
  dsimp only [Pt.U, Pt.locs, Pt.cells, Pt.slots] at X' l1 y1 z1 s' q0
  subst l1 y1 z1
  obtain ⟨⟨t, q1⟩, q2, q3⟩ := hQ _ _ _ q0
  exact Go.step (fun t => s'.trans) (r t v T'.heap q1 q2 vm0 T' _ X' rfl (N.app q3) q2 (I.carN (hcar _ _ _ q1)))
theorem callV (C : Cx Z W own nm code maxL ret) (hd : decode code pc = .ok (.invokevirtual ix, 3)) {y0 : MethodName} {K0 : String} {a : Addr} {Qv : Option Value → Heap → List Loc → Prop} (K : ∀ vm0, Cx Z (At W vm0) own nm code maxL ret → Wk.Pays l R (At W vm0) y 3 Wn as' h kc nc Qv) (hQ : Clean Z Qc Qv) (hcar : ∀ v h', Qc v h' → Car S h h') (E : Exa Z h a K0) (w1 : (Cond.methodLink own ix y0).before a0 Z = true) (w2 : (Cond.declares y0).before a0 Z = true) (nf : ∀ vm0, Z.Warmed39 vm0 → NotFace (W.s.setVm vm0) y0) (w3 : (Cond.selects K0 y0 y).before a0 Z = true) (w5 : (Cond.instanceMethod y).before a0 Z = true) (hy : y0.cls ≠ "java/lang/invoke/MethodHandle" ∧ y0.cls ≠ "java/lang/invoke/VarHandle")
    (has : (Value.ref a :: argsL).toArray = as') (hst : argsL.reverse ++ .ref a :: st = st') (hlen : ∀ sig, parseMethodDescriptor y0.desc = some sig → argsL.length = sig.parameters.length) (hsz : Ls.size = maxL) (hW : (st.map fun v => v.category).sum ≤ Wn) (hk : k + kc = k') (hn : n + nc = n') (hk' : k' ≤ R.cells) (hn' : n' ≤ R.slots) (hp : pc + 3 = pc')
    (r : ∀ v h', Qc v h' → Ext Z.heap h' → Run l R Z EL W Q S h' k' n' (mkF W.m pc' Ls (v.toList ++ st))) : Run l R Z EL W Q S h k n (mkF W.m pc Ls st') := by
  subst hp hk hn has hst
  intro vm0 T locs X eT N O I
  obtain ⟨cq, kq, qa, qb, qc⟩ := isOf I.hZ eT E
  obtain ⟨v, vm₁, ⟨T', L', k', n'⟩, -, X', ⟨L, q0, l1, y1, z1⟩, s'⟩ := X.virtualBack C.hx (y := y0) (z := y) (I.ow C) (mvT I.hZ w1) (mvT I.hZ w2) (nf vm0 I.2.1) (mvT I.hZ w3) (mvT I.hZ w5) hy (K vm0 (I.cx C)) qa qc (g := mkF W.m pc Ls (argsL.reverse ++ .ref a :: st)) rfl (hsz.trans C.ml.symm) (Steps.refl _) (argsL := argsL) (rest := st) hlen rfl (by show 2 * 0 + _ ≤ _; omega) (C.hb hd) (fun _ _ => ⟨rfl, eT, hk', hn'⟩)
  dsimp only [Pt.U, Pt.locs, Pt.cells, Pt.slots] at X' l1 y1 z1 s' q0
  subst l1 y1 z1
  obtain ⟨q1, q2, q3⟩ := hQ _ _ _ q0
  exact Go.step (fun t => s'.trans) (r v T'.heap q1 q2 vm0 T' _ X' rfl (N.app q3) q2 (I.car (hcar _ _ q1)))
theorem callVS (C : Cx Z W own nm code maxL ret) (hd : decode code pc = .ok (.invokevirtual ix, 3)) {y0 : MethodName} {K0 : String} {a : Addr} {Qv : Option Value → Heap → List Loc → Prop} (K : ∀ vm0, Inv Z EL W S vm0 h → PaysS l R Z EL W vm0 y 3 Wn as' h kc nc Qv) (hQ : Clean Z Qc Qv) (E : Exa Z h a K0) (w1 : (Cond.methodLink own ix y0).before a0 Z = true) (w2 : (Cond.declares y0).before a0 Z = true) (nf : ∀ vm0, Z.Warmed39 vm0 → NotFace (W.s.setVm vm0) y0) (w3 : (Cond.selects K0 y0 y).before a0 Z = true) (w5 : (Cond.instanceMethod y).before a0 Z = true) (hy : y0.cls ≠ "java/lang/invoke/MethodHandle" ∧ y0.cls ≠ "java/lang/invoke/VarHandle")
    (has : (Value.ref a :: argsL).toArray = as') (hst : argsL.reverse ++ .ref a :: st = st') (hlen : ∀ sig, parseMethodDescriptor y0.desc = some sig → argsL.length = sig.parameters.length) (hsz : Ls.size = maxL) (hW : (st.map fun v => v.category).sum ≤ Wn) (hk : k + kc = k') (hn : n + nc = n') (hk' : k' ≤ R.cells) (hn' : n' ≤ R.slots) (hp : pc + 3 = pc')
    (r : ∀ v h', Qc v h' → Ext Z.heap h' → Run l R Z EL W Q S h' k' n' (mkF W.m pc' Ls (v.toList ++ st))) : Run l R Z EL W Q S h k n (mkF W.m pc Ls st') := by
  subst hp hk hn has hst
  intro vm0 T locs X eT N O I
  obtain ⟨cq, kq, qa, qb, qc⟩ := isOf I.hZ eT E
  obtain ⟨v, vm₁, ⟨T', L', k', n'⟩, -, X', hS, hg, ⟨L, q0, l1, y1, z1, hr⟩, s'⟩ := X.virtualBackS C.hx (y := y0) (z := y) (I.ow C) (mvT I.hZ w1) (mvT I.hZ w2) (nf vm0 I.2.1) (mvT I.hZ w3) (mvT I.hZ w5) hy (K vm0 I) qa qc (g := mkF W.m pc Ls (argsL.reverse ++ .ref a :: st)) rfl (hsz.trans C.ml.symm) (Steps.refl _) (argsL := argsL) (rest := st) hlen rfl (by show 2 * 0 + _ ≤ _; omega) (C.hb hd) (fun _ _ => ⟨rfl, eT, hk', hn'⟩)
  dsimp only [Pt.U, Pt.locs, Pt.cells, Pt.slots] at X' l1 y1 z1 s' q0 hS hg hr
  subst l1 y1 z1
  obtain ⟨q1, q2, q3⟩ := hQ _ _ _ q0
  exact Go.step (fun t => s'.trans) (r v T'.heap q1 q2 T'.vm T' _ X' rfl (N.app q3) q2 (I.back hS (eT ▸ hg) hr))
end Calls
/-! ## returns -/
theorem Run.leave (C : Cx Z W own nm code maxL ret) (hE : EW Z a0 EL) {v : Option Value} {f : JFrame} (hv : ret = none → v = none) (q : Q v h) (hk : k ≤ R.cells) (hn : n ≤ R.slots)
    (s' : ∀ vm0 T locs, Std l R W vm0 T locs k n → ∀ fs, (∀ (f : JFrame) (acts : List Action), f.method = W.m → f.locked = none → f.entered = [] → (doReturn W.e (T.setTop f) acts v).1 = T.setFrames fs) → Steps W.p.tables W.e W.b (T.setTop f) (T.setFrames fs)) : Run l R Z EL W Q S h k n f := by
  intro vm0 T locs X eT N O I
  have hlk : W.t.locks = false := C.lk
  obtain ⟨fs, hr, hrun, hended, hW, hsame⟩ := X.leave (v := v) (fun hh => hv (C.rt.symm.trans hh))
  have e2 : (T.setFrames fs).heap = h := eT
  obtain ⟨⟨k0, hS, hk0⟩, hZ, hr0, -⟩ := I
  have hc := CHv.at X hZ hE hr0.1
  obtain ⟨e4, e5, e6⟩ := hS.ended (U := T.setFrames fs) hW (by rw [e2]; exact hk0) hsame
  exact ⟨_, _, s' vm0 T locs X fs hr, hrun, hended, _, _, rfl, ⟨by rw [e2]; exact q, by rw [e2]; exact O, N⟩, by rw [e2]; exact hr0.trans hc, ⟨_, rfl⟩, e4, e5, e6.mono hk hn⟩
theorem retV (C : Cx Z W own nm code maxL none) (hE : EW Z a0 EL) (hd : decode code pc = .ok (.return_, 1)) (hk : k ≤ R.cells) (hn : n ≤ R.slots) (q : Q none h) : Run l R Z EL W Q S h k n (mkF W.m pc Ls []) :=
  Run.leave C hE (fun _ => rfl) q hk hn (fun vm0 T locs X fs hr => X.returnOut C.hx C.rt (C.hb hd) hr)
theorem retI (C : Cx Z W own nm code maxL (some .int)) (hE : EW Z a0 EL) (hd : decode code pc = .ok (.ireturn, 1)) {z : Int32} (hk : k ≤ R.cells) (hn : n ≤ R.slots) (q : Q (some (.int z)) h) : Run l R Z EL W Q S h k n (mkF W.m pc Ls (.int z :: st)) :=
  Run.leave C hE (fun hh => nomatch hh) q hk hn (fun vm0 T locs X fs hr => retOut X C.hx C.rt rfl (Or.inl ⟨rfl, Or.inl rfl, z, rfl⟩) (C.hb hd) hr)
theorem retNar {ty : FieldType} (C : Cx Z W own nm code maxL (some ty)) (hE : EW Z a0 EL) (ht : ty = .boolean ∨ ty = .byte ∨ ty = .char ∨ ty = .short) (hd : decode code pc = .ok (.ireturn, 1)) {z z' : Int32} (hz : nar ty z = z') (hk : k ≤ R.cells) (hn : n ≤ R.slots) (q : Q (some (.int z')) h) : Run l R Z EL W Q S h k n (mkF W.m pc Ls (.int z :: st)) := by
  subst hz
  exact Run.leave C hE (fun hh => nomatch hh) q hk hn (fun vm0 T locs X fs hr => retN X C.hx C.rt ht (C.hb hd) hr)
theorem retL (C : Cx Z W own nm code maxL (some .long)) (hE : EW Z a0 EL) (hd : decode code pc = .ok (.lreturn, 1)) {z : Int64} (hk : k ≤ R.cells) (hn : n ≤ R.slots) (q : Q (some (.long z)) h) : Run l R Z EL W Q S h k n (mkF W.m pc Ls (.long z :: st)) :=
  Run.leave C hE (fun hh => nomatch hh) q hk hn (fun vm0 T locs X fs hr => retOut X C.hx C.rt rfl (Or.inr (Or.inl ⟨rfl, rfl, z, rfl⟩)) (C.hb hd) hr)
theorem retA {ty : FieldType} {v : Value} (C : Cx Z W own nm code maxL (some ty)) (hE : EW Z a0 EL) (ht : ty.isReference = true) (hv : v.isRef = true) (hd : decode code pc = .ok (.areturn, 1)) (hk : k ≤ R.cells) (hn : n ≤ R.slots) (q : Q (some v) h) : Run l R Z EL W Q S h k n (mkF W.m pc Ls (v :: st)) :=
  Run.leave C hE (fun hh => nomatch hh) q hk hn (fun vm0 T locs X fs hr => retOut X C.hx C.rt (by rcases ref_cases hv with rfl | ⟨a, rfl⟩ <;> cases ty <;> simp [FieldType.isReference] at ht <;> rfl) (Or.inr (Or.inr (Or.inr (Or.inr ⟨rfl, ht, hv⟩)))) (C.hb hd) hr)
end Kit
end Ww
abbrev EL : List (String × Nat) := consts_1
theorem own_EW {a0 : Array Value} {Z : State} (hw : Ws a0 Z) : EW Z a0 EL := (EW.cons (w123 hw) (by decide) (EW.cons (w34 hw) (by decide) EW.nil))
theorem wS {a0 : Array Value} {Z : State} (hw : Ws a0 Z) : ∀ a ∈ Bundle.stringAtoms, a.before a0 Z = true := by
  intro a ha
  simp only [Bundle.stringAtoms, List.mem_cons, List.not_mem_nil, or_false] at ha
  rcases ha with rfl | rfl | rfl | rfl | rfl | rfl | rfl
  · exact (w6 hw)
  · exact (w5 hw)
  · exact (w23 hw)
  · exact (w33 hw)
  · exact (w31 hw)
  · exact (w35 hw)
  · exact (w36 hw)
set_option maxRecDepth 65536 in
set_option maxHeartbeats 40000000 in
theorem own_chkLen (l : Launch) {Z : State} {a0 : Array Value} (hw : Ws a0 Z) {h0 : Heap} (O0 : Ext Z.heap h0) (x y : Int32) (h1 : ¬ y < x) :
    Wk.Con l Z (⟨"java/util/Arrays", "checkLength", "(II)V"⟩ : MethodName) jdk_65_method_131_code 2 none ({ frames := 0, cells := 0, slots := 0, locals := 0 } : Room) #[(.int x), (.int y)] h0 (fun v h' => v = none ∧ h' = h0) := by
  refine Wk.Con.intro (plainFor_of_name pn0) O0 (fun m => ef0 m x y) ?_
  intro W C
  replace C : Wk.Cx Z W "java/util/Arrays" "checkLength" jdk_65_method_131_code 2 none := C
  refine Wk.iloadN (pc' := 1) C d_jdk_65m131_0 rfl rfl ?_
  refine Wk.iloadN (pc' := 2) C d_jdk_65m131_1 rfl rfl ?_
  refine Wk.icmp_ge C d_jdk_65m131_2 (by decide) (pcT := 37) (by decide) (pc' := 5) rfl (fun q11 => ?_) (fun q => absurd q h1)
  exact Wk.retV C d_jdk_65m131_37 (by decide) (by decide) ⟨rfl, rfl⟩
set_option maxRecDepth 65536 in
set_option maxHeartbeats 40000000 in
theorem own_min2 (l : Launch) {Z : State} {a0 : Array Value} (hw : Ws a0 Z) {h0 : Heap} (O0 : Ext Z.heap h0) (x y : Int32) (h1 : ¬ x < y) :
    Wk.Con l Z (⟨"java/lang/Math", "min", "(II)I"⟩ : MethodName) jdk_29_method_69_code 2 (some .int) ({ frames := 0, cells := 0, slots := 0, locals := 0 } : Room) #[(.int x), (.int y)] h0 (fun v h' => v = some (.int y) ∧ h' = h0) := by
  refine Wk.Con.intro (Jvm.Free.JP.mathPlain rfl (by decide +kernel)) O0 (fun m => ef1 m x y) ?_
  intro W C
  replace C : Wk.Cx Z W "java/lang/Math" "min" jdk_29_method_69_code 2 (some .int) := C
  refine Wk.iloadN (pc' := 1) C d_jdk_29m69_0 rfl rfl ?_
  refine Wk.iloadN (pc' := 2) C d_jdk_29m69_1 rfl rfl ?_
  refine Wk.icmp_gt C d_jdk_29m69_2 (by decide) (pcT := 9) (by decide) (pc' := 5) rfl (fun q11 => ?_) (fun q11 => ?_)
  · -- pc 2: taken
    refine Wk.iloadN (pc' := 10) C d_jdk_29m69_9 rfl rfl ?_
    exact Wk.retI C d_jdk_29m69_10 (by decide) (by decide) ⟨rfl, rfl⟩
  · -- pc 2: not taken
    refine Wk.iloadN (pc' := 6) C d_jdk_29m69_5 rfl rfl ?_
    refine Wk.goto C d_jdk_29m69_6 (by decide) (pc' := 10) (by decide) ?_
    have he : x = y := by
      have a := h1
      have b := q11
      rw [Wk.ltI] at a b
      exact Wk.eqI (by omega)
    exact Wk.retI C d_jdk_29m69_10 (by decide) (by decide) ⟨by rw [he], rfl⟩
set_option maxRecDepth 65536 in
set_option maxHeartbeats 40000000 in
theorem own_corB (l : Launch) {Z : State} {a0 : Array Value} (hw : Ws a0 Z) {h0 : Heap} (O0 : Ext Z.heap h0) (t : Addr) (vs : List Value) (s e : Nat) (V : Wk.Ary Z h0 t .byte vs) (hN : vs.length ≤ 16) (hse : s ≤ e) (he : e ≤ vs.length) :
    Wk.Con l Z (⟨"java/util/Arrays", "copyOfRangeByte", "([BII)[B"⟩ : MethodName) jdk_65_method_133_code 5 (some (.array .byte)) ({ frames := 1, cells := 1, slots := 16, locals := 22 } : Room) #[(.ref t), (.int (Int32.ofNat s)), (.int (Int32.ofNat e))] h0 (fun v h' => ∃ b : Addr, v = some (.ref b) ∧ b = h0.size ∧ Ext h0 h' ∧ Wk.Ary Z h' b .byte ((vs.drop s).take (e - s))) := by
  refine Wk.Con.intro (plainFor_of_name pn0) O0 (fun m => ef2 m t (Int32.ofNat s) (Int32.ofNat e)) ?_
  intro W C
  replace C : Wk.Cx Z W "java/util/Arrays" "copyOfRangeByte" jdk_65_method_133_code 5 (some (.array .byte)) := C
  refine Wk.iloadN (pc' := 1) C d_jdk_65m133_0 rfl rfl ?_
  refine Wk.iloadN (pc' := 2) C d_jdk_65m133_1 rfl rfl ?_
  refine Wk.callS (pc' := 5) C d_jdk_65m133_2 (Wk.Con.pays C (Wn := 0) (own_chkLen l hw O0 (Int32.ofNat s) (Int32.ofNat e) (fun q => absurd ((Wk.lt32 (by omega) (by omega)).mp q) (by omega))) (w163 hw) (w156 hw) (by decide) (by decide)) Wk.cleanC (w161 hw) (w162 hw) (w156 hw) (w163 hw) (by decide) (argsL := [(.int (Int32.ofNat s)), (.int (Int32.ofNat e))]) (st := []) rfl rfl (lenOf pd0 rfl) rfl (Nat.le_of_eq rfl) (k' := 0) rfl (n' := 0) rfl (by decide) (by decide) rfl ?_
  intro r11 h12 Q12 O12
  obtain ⟨rfl, e13⟩ := Q12
  obtain rfl := e13.symm
  refine Wk.iloadN (pc' := 6) C d_jdk_65m133_5 rfl rfl ?_
  refine Wk.iloadN (pc' := 7) C d_jdk_65m133_6 rfl rfl ?_
  obtain ⟨v14, hv14⟩ : ∃ z : Int32, (Int32.ofNat e) - (Int32.ofNat s) = z := ⟨_, rfl⟩
  refine Wk.isub (pc' := 8) C d_jdk_65m133_7 hv14 rfl ?_
  have f15 : v14 = (Int32.ofNat (e - s)) := Wk.sub32 hse (by omega) hv14
  rw [f15]
  refine Wk.istoreN (pc' := 9) C d_jdk_65m133_8 (Ls' := #[.val (.ref t), .val (.int (Int32.ofNat s)), .val (.int (Int32.ofNat e)), .val (.int (Int32.ofNat (e - s))), .unset]) rfl rfl ?_
  refine Wk.iloadN (pc' := 10) C d_jdk_65m133_9 rfl rfl ?_
  refine Wk.newA (pc' := 12) C d_jdk_65m133_10 (ty := .byte) rfl (w23 hw) (Wk.nn32 (by omega)) (cap := 16) (by rw [(Wk.nat32 (n := e - s) (by omega)).2]; omega) (by decide) (k' := 1) rfl (n' := 16) rfl (by decide) (by decide) rfl rfl ?_
  intro a16 h17 ga16 za16 E17 Va16 O17
  have V18 : Wk.Ary Z h17 a16 .byte (List.replicate (e - s) (.int 0)) := by rw [← (Wk.nat32 (n := e - s) (by omega)).2]; exact Va16
  refine Wk.astore (pc' := 14) C d_jdk_65m133_12 rfl (Ls' := #[.val (.ref t), .val (.int (Int32.ofNat s)), .val (.int (Int32.ofNat e)), .val (.int (Int32.ofNat (e - s))), .val (.ref a16)]) rfl rfl ?_
  refine Wk.aloadN (pc' := 15) C d_jdk_65m133_14 rfl rfl rfl ?_
  refine Wk.iloadN (pc' := 16) C d_jdk_65m133_15 rfl rfl ?_
  refine Wk.aload (pc' := 18) C d_jdk_65m133_16 rfl rfl rfl ?_
  refine Wk.iconst (pc' := 19) C d_jdk_65m133_18 (v := (0 : Int32)) rfl rfl ?_
  refine Wk.aloadN (pc' := 20) C d_jdk_65m133_19 rfl rfl rfl ?_
  refine Wk.alen (pc' := 21) C d_jdk_65m133_20 (V.ext E17) (z := (Int32.ofNat vs.length)) rfl rfl ?_
  refine Wk.iloadN (pc' := 22) C d_jdk_65m133_21 rfl rfl ?_
  obtain ⟨v19, hv19⟩ : ∃ z : Int32, (Int32.ofNat vs.length) - (Int32.ofNat s) = z := ⟨_, rfl⟩
  refine Wk.isub (pc' := 23) C d_jdk_65m133_22 hv19 rfl ?_
  have f20 : v19 = (Int32.ofNat (vs.length - s)) := Wk.sub32 (by omega) (by omega) hv19
  rw [f20]
  refine Wk.iloadN (pc' := 24) C d_jdk_65m133_23 rfl rfl ?_
  refine Wk.callS (pc' := 27) C d_jdk_65m133_24 (Wk.Con.pays C (Wn := 4) (own_min2 l hw O17 (Int32.ofNat (vs.length - s)) (Int32.ofNat (e - s)) (fun q => absurd ((Wk.lt32 (by omega) (by omega)).mp q) (by omega))) (w167 hw) (w166 hw) (by decide) (by decide)) Wk.cleanC (w164 hw) (w165 hw) (w166 hw) (w167 hw) (by decide) (argsL := [(.int (Int32.ofNat (vs.length - s))), (.int (Int32.ofNat (e - s)))]) (st := [(.int (0 : Int32)), (.ref a16), (.int (Int32.ofNat s)), (.ref t)]) rfl rfl (lenOf pd1 rfl) rfl (Nat.le_of_eq rfl) (k' := 1) rfl (n' := 16) rfl (by decide) (by decide) rfl ?_
  intro r21 h22 Q22 O22
  obtain ⟨rfl, e23⟩ := Q22
  obtain rfl := e23.symm
  refine Wk.acopy (pc' := 30) C d_jdk_65m133_27 (w168 hw) (w122 hw) (w120 hw) (w121 hw) (Wn := 0) (V.ext E17) V18 rfl (Wk.nn32 (by omega)) (by decide) (Wk.nn32 (by omega)) (by rw [(Wk.nat32 (n := s) (by omega)).2, (Wk.nat32 (n := e - s) (by omega)).2]; omega) (by rw [(Wk.nat32 (n := e - s) (by omega)).2]; simp) (vd' := ((vs.drop s).take (e - s))) (by rw [(Wk.nat32 (n := s) (by omega)).2, (Wk.nat32 (n := e - s) (by omega)).2]; simp) za16 rfl (by decide) (Nat.le_of_eq rfl) (by decide) rfl ?_
  intro h24 K24 V24 O24
  refine Wk.aload (pc' := 32) C d_jdk_65m133_30 rfl rfl rfl ?_
  have X25 : Ext h0 h24 := Wk.Ext.keep1 (Z := Z) E17 K24 (Nat.le_of_eq ga16.symm)
  exact Wk.retA C rfl rfl d_jdk_65m133_32 (by decide) (by decide) ⟨_, rfl, ga16, X25, V24⟩
set_option maxRecDepth 65536 in
set_option maxHeartbeats 40000000 in
theorem own_cor (l : Launch) {Z : State} {a0 : Array Value} (hw : Ws a0 Z) {h0 : Heap} (O0 : Ext Z.heap h0) (t : Addr) (vs : List Value) (s e : Nat) (V : Wk.Ary Z h0 t .byte vs) (hN : vs.length ≤ 16) (hse : s ≤ e) (he : e ≤ vs.length) (hne : ¬ (s = 0 ∧ e = vs.length)) :
    Wk.Con l Z (⟨"java/util/Arrays", "copyOfRange", "([BII)[B"⟩ : MethodName) jdk_65_method_132_code 3 (some (.array .byte)) ({ frames := 2, cells := 1, slots := 16, locals := 40 } : Room) #[(.ref t), (.int (Int32.ofNat s)), (.int (Int32.ofNat e))] h0 (fun v h' => ∃ b : Addr, v = some (.ref b) ∧ b = h0.size ∧ Ext h0 h' ∧ Wk.Ary Z h' b .byte ((vs.drop s).take (e - s))) := by
  refine Wk.Con.intro (plainFor_of_name pn0) O0 (fun m => ef3 m t (Int32.ofNat s) (Int32.ofNat e)) ?_
  intro W C
  replace C : Wk.Cx Z W "java/util/Arrays" "copyOfRange" jdk_65_method_132_code 3 (some (.array .byte)) := C
  refine Wk.iloadN (pc' := 1) C d_jdk_65m132_0 rfl rfl ?_
  refine Wk.if_ne C d_jdk_65m132_1 (by decide) (pcT := 10) (by decide) (pc' := 4) rfl (fun q11 => ?_) (fun q11 => ?_)
  · -- pc 1: taken
    refine Wk.aloadN (pc' := 11) C d_jdk_65m132_10 rfl rfl rfl ?_
    refine Wk.iloadN (pc' := 12) C d_jdk_65m132_11 rfl rfl ?_
    refine Wk.iloadN (pc' := 13) C d_jdk_65m132_12 rfl rfl ?_
    refine Wk.callS (pc' := 16) C d_jdk_65m132_13 (Wk.Con.pays C (Wn := 0) (own_corB l hw O0 t vs s e V hN hse he) (w160 hw) (w156 hw) (by decide) (by decide)) Wk.cleanC (w158 hw) (w159 hw) (w156 hw) (w160 hw) (by decide) (argsL := [(.ref t), (.int (Int32.ofNat s)), (.int (Int32.ofNat e))]) (st := []) rfl rfl (lenOf pd2 rfl) rfl (Nat.le_of_eq rfl) (k' := 1) rfl (n' := 16) rfl (by decide) (by decide) rfl ?_
    intro r12 h13 Q13 O13
    obtain ⟨b14, rfl, gb14, E13, V13⟩ := Q13
    exact Wk.retA C rfl rfl d_jdk_65m132_16 (by decide) (by decide) ⟨_, rfl, gb14, E13, V13⟩
  · -- pc 1: not taken
    refine Wk.iloadN (pc' := 5) C d_jdk_65m132_4 rfl rfl ?_
    refine Wk.aloadN (pc' := 6) C d_jdk_65m132_5 rfl rfl rfl ?_
    refine Wk.alen (pc' := 7) C d_jdk_65m132_6 V (z := (Int32.ofNat vs.length)) rfl rfl ?_
    refine Wk.icmp_eq C d_jdk_65m132_7 (by decide) (pcT := 17) (by decide) (pc' := 10) rfl (fun q => absurd ⟨(Wk.eq32 (b := 0) (by omega) (by omega)).mp q11, (Wk.eq32 (by omega) (by omega)).mp q⟩ hne) (fun q15 => ?_)
    refine Wk.aloadN (pc' := 11) C d_jdk_65m132_10 rfl rfl rfl ?_
    refine Wk.iloadN (pc' := 12) C d_jdk_65m132_11 rfl rfl ?_
    refine Wk.iloadN (pc' := 13) C d_jdk_65m132_12 rfl rfl ?_
    refine Wk.callS (pc' := 16) C d_jdk_65m132_13 (Wk.Con.pays C (Wn := 0) (own_corB l hw O0 t vs s e V hN hse he) (w160 hw) (w156 hw) (by decide) (by decide)) Wk.cleanC (w158 hw) (w159 hw) (w156 hw) (w160 hw) (by decide) (argsL := [(.ref t), (.int (Int32.ofNat s)), (.int (Int32.ofNat e))]) (st := []) rfl rfl (lenOf pd2 rfl) rfl (Nat.le_of_eq rfl) (k' := 1) rfl (n' := 16) rfl (by decide) (by decide) rfl ?_
    intro r16 h17 Q17 O17
    obtain ⟨b18, rfl, gb18, E17, V17⟩ := Q17
    exact Wk.retA C rfl rfl d_jdk_65m132_16 (by decide) (by decide) ⟨_, rfl, gb18, E17, V17⟩
def sb16 (cs : List Int32) : List Value := (cs.map fun c => c.toInt8.toInt32).map Value.int ++ List.replicate (16 - cs.length) (.int 0)
theorem sb16_len {cs : List Int32} (h : cs.length ≤ 16) : (sb16 cs).length = 16 := by simp [sb16]; omega
theorem sb16_app {cs ds : List Int32} (h : cs.length + ds.length ≤ 16) : (sb16 cs).take cs.length ++ (((ds.map fun c => c.toInt8.toInt32).map Value.int).drop 0).take ds.length ++ (sb16 cs).drop (cs.length + ds.length) = sb16 (cs ++ ds) := by
  have e1 : (sb16 cs).take cs.length = (cs.map fun c => c.toInt8.toInt32).map Value.int := by
    unfold sb16
    rw [List.take_append_of_le_length (by simp), List.take_of_length_le (by simp)]
  have e2 : (sb16 cs).drop (cs.length + ds.length) = List.replicate (16 - (cs.length + ds.length)) (.int 0) := by
    unfold sb16
    rw [List.drop_append, List.drop_eq_nil_of_le (by simp), List.nil_append, List.length_map, List.length_map, List.drop_replicate]
    congr 1; omega
  rw [e1, e2, List.drop_zero, List.take_of_length_le (by simp)]
  simp [sb16]
theorem sb16_take {cs : List Int32} : ((sb16 cs).drop 0).take (cs.length - 0) = (cs.map fun c => c.toInt8.toInt32).map Value.int := by
  rw [List.drop_zero, Nat.sub_zero]
  unfold sb16
  rw [List.take_append_of_le_length (by simp), List.take_of_length_le (by simp)]
theorem own_shl0 {x v : Int32} (h : x <<< ((0 : Int32) &&& 31) = v) : v = x := by
  rw [← h, show ((0 : Int32) &&& 31) = 0 by decide]
  exact Int32.shiftLeft_zero
set_option maxRecDepth 65536 in
set_option maxHeartbeats 40000000 in
theorem own_sbI (l : Launch) {Z : State} {a0 : Array Value} (hw : Ws a0 Z) {h0 : Heap} (O0 : Ext Z.heap h0) (hs : Sets Z) (a1 : Addr) (g1 : Z.heap.size ≤ a1) (E1 : Exa Z h0 a1 "java/lang/StringBuilder") (F1 : Fld Z h0 a1 "java/lang/AbstractStringBuilder" "value" "[B" .null) (F2 : Fld Z h0 a1 "java/lang/AbstractStringBuilder" "coder" "B" (.int (0 : Int32))) (F3 : Fld Z h0 a1 "java/lang/AbstractStringBuilder" "count" "I" (.int (0 : Int32))) :
    Wk.Con l Z (⟨"java/lang/AbstractStringBuilder", "<init>", "(I)V"⟩ : MethodName) jdk_68_method_2_code 2 none ({ frames := 1, cells := 1, slots := 16, locals := 14 } : Room) #[(.ref a1), (.int (16 : Int32))] h0 (fun v h' => ∃ t : Addr, v = none ∧ t = h0.size ∧ Z.heap.size ≤ t ∧ Keep h0 h' [a1] ∧ Exa Z h' a1 "java/lang/StringBuilder" ∧ Fld Z h' a1 "java/lang/AbstractStringBuilder" "value" "[B" (.ref t) ∧ Fld Z h' a1 "java/lang/AbstractStringBuilder" "coder" "B" (.int 0) ∧ Fld Z h' a1 "java/lang/AbstractStringBuilder" "count" "I" (.int (Int32.ofNat ([] : List Int32).length)) ∧ Wk.Ary Z h' t .byte (sb16 ([] : List Int32))) := by
  refine Wk.Con.intro (plainFor_of_name pn1) O0 (fun m => ef4 m a1) ?_
  intro W C
  replace C : Wk.Cx Z W "java/lang/AbstractStringBuilder" "<init>" jdk_68_method_2_code 2 none := C
  obtain ⟨zc, fm, SC, hzc, -, -⟩ := hs
  refine Wk.aloadN (pc' := 1) C d_jdk_68m2_0 rfl rfl rfl ?_
  refine Wk.initO (pc' := 4) C d_jdk_68m2_1 (Wn := 0) (w70 hw) (w16 hw) (w17 hw) rfl (by decide) (Nat.le_of_eq rfl) (by decide) rfl ?_
  refine Wk.getS (pc' := 7) C d_jdk_68m2_4 (w71 hw) Via.refl (SC.ext O0) rfl ?_
  refine Wk.if_eq C d_jdk_68m2_7 (by decide) (pcT := 25) (by decide) (pc' := 10) rfl (fun q => absurd q hzc) (fun q11 => ?_)
  refine Wk.aloadN (pc' := 11) C d_jdk_68m2_10 rfl rfl rfl ?_
  refine Wk.iloadN (pc' := 12) C d_jdk_68m2_11 rfl rfl ?_
  refine Wk.newA (pc' := 14) C d_jdk_68m2_12 (ty := .byte) rfl (w23 hw) (by decide) (cap := 16) (by decide) (by decide) (k' := 1) rfl (n' := 16) rfl (by decide) (by decide) rfl rfl ?_
  intro a12 h13 ga12 za12 E13 Va12 O13
  have V14 : Wk.Ary Z h13 a12 .byte [(.int (0 : Int32)), (.int (0 : Int32)), (.int (0 : Int32)), (.int (0 : Int32)), (.int (0 : Int32)), (.int (0 : Int32)), (.int (0 : Int32)), (.int (0 : Int32)), (.int (0 : Int32)), (.int (0 : Int32)), (.int (0 : Int32)), (.int (0 : Int32)), (.int (0 : Int32)), (.int (0 : Int32)), (.int (0 : Int32)), (.int (0 : Int32))] := Va12
  refine Wk.putF (pc' := 17) C d_jdk_68m2_14 (w72 hw) Via.refl (F1.ext E13) (E1.ext E13) (Or.inl (w73 hw)) (w59 hw) (ty := (.array .byte)) (by decide) rfl rfl g1 rfl ?_
  intro h15 W15 O15
  have F16 := (F1.ext E13).same W15
  refine Wk.aloadN (pc' := 18) C d_jdk_68m2_17 rfl rfl rfl ?_
  refine Wk.iconst (pc' := 19) C d_jdk_68m2_18 (v := (0 : Int32)) rfl rfl ?_
  refine Wk.putF (pc' := 22) C d_jdk_68m2_19 (w74 hw) Via.refl ((F2.ext E13).other W15 (Or.inr (slot_ne (Or.inl (w75 hw)) (Or.inl (w73 hw)) (by decide) (t := .byte) (t' := (.array .byte)) (by decide) (by decide)))) ((E1.ext E13).wr W15) (Or.inl (w75 hw)) (w59 hw) (ty := .byte) (by decide) (by decide) (by decide) g1 rfl ?_
  intro h17 W17 O17
  have F18 := ((F2.ext E13).other W15 (Or.inr (slot_ne (Or.inl (w75 hw)) (Or.inl (w73 hw)) (by decide) (t := .byte) (t' := (.array .byte)) (by decide) (by decide)))).same W17
  refine Wk.goto C d_jdk_68m2_22 (by decide) (pc' := 38) (by decide) ?_
  exact Wk.retV C d_jdk_68m2_38 (by decide) (by decide) ⟨a12, rfl, ga12, za12, ((((Keep.refl _ _).ext E13).wr W15 (Or.inl (List.mem_singleton.mpr rfl))).wr W17 (Or.inl (List.mem_singleton.mpr rfl))), (((E1.ext E13).wr W15).wr W17), (F16.other W17 (Or.inr (slot_ne (Or.inl (w73 hw)) (Or.inl (w75 hw)) (by decide) (t := (.array .byte)) (t' := .byte) (by decide) (by decide)))), F18, (((F3.ext E13).other W15 (Or.inr (slot_ne (Or.inl (w97 hw)) (Or.inl (w73 hw)) (by decide) (t := .int) (t' := (.array .byte)) (by decide) (by decide)))).other W17 (Or.inr (slot_ne (Or.inl (w97 hw)) (Or.inl (w75 hw)) (by decide) (t := .int) (t' := .byte) (by decide) (by decide)))), ((V14.other W15 (Ne.symm (Nat.ne_of_lt (Nat.lt_of_lt_of_le E1.lt (Nat.le_of_eq ga12.symm))))).other W17 (Ne.symm (Nat.ne_of_lt (Nat.lt_of_lt_of_le E1.lt (Nat.le_of_eq ga12.symm)))))⟩
set_option maxRecDepth 65536 in
set_option maxHeartbeats 40000000 in
theorem own_sb0 (l : Launch) {Z : State} {a0 : Array Value} (hw : Ws a0 Z) {h0 : Heap} (O0 : Ext Z.heap h0) (hs : Sets Z) (a1 : Addr) (g1 : Z.heap.size ≤ a1) (E1 : Exa Z h0 a1 "java/lang/StringBuilder") (F1 : Fld Z h0 a1 "java/lang/AbstractStringBuilder" "value" "[B" .null) (F2 : Fld Z h0 a1 "java/lang/AbstractStringBuilder" "coder" "B" (.int (0 : Int32))) (F3 : Fld Z h0 a1 "java/lang/AbstractStringBuilder" "count" "I" (.int (0 : Int32))) :
    Wk.Con l Z (⟨"java/lang/StringBuilder", "<init>", "()V"⟩ : MethodName) jdk_67_method_1_code 1 none ({ frames := 2, cells := 1, slots := 16, locals := 30 } : Room) #[(.ref a1)] h0 (fun v h' => ∃ t : Addr, v = none ∧ t = h0.size ∧ Z.heap.size ≤ t ∧ Keep h0 h' [a1] ∧ Exa Z h' a1 "java/lang/StringBuilder" ∧ Fld Z h' a1 "java/lang/AbstractStringBuilder" "value" "[B" (.ref t) ∧ Fld Z h' a1 "java/lang/AbstractStringBuilder" "coder" "B" (.int 0) ∧ Fld Z h' a1 "java/lang/AbstractStringBuilder" "count" "I" (.int (Int32.ofNat ([] : List Int32).length)) ∧ Wk.Ary Z h' t .byte (sb16 ([] : List Int32))) := by
  refine Wk.Con.intro (plainFor_of_name pn2) O0 (fun m => ef5 m a1) ?_
  intro W C
  replace C : Wk.Cx Z W "java/lang/StringBuilder" "<init>" jdk_67_method_1_code 1 none := C
  refine Wk.aloadN (pc' := 1) C d_jdk_67m1_0 rfl rfl rfl ?_
  refine Wk.bipush (pc' := 3) C d_jdk_67m1_1 (v := (16 : Int32)) rfl rfl ?_
  refine Wk.callI (pc' := 6) C d_jdk_67m1_3 (a := a1) (Wk.Con.pays C (Wn := 0) (own_sbI l hw O0 hs a1 g1 E1 F1 F2 F3) (w69 hw) (w68 hw) (by decide) (by decide)) Wk.cleanC rfl (w64 hw) (w65 hw) (w69 hw) (by decide) (argsL := [(.int (16 : Int32))]) (st := []) rfl rfl (lenOf pd3 rfl) rfl (Nat.le_of_eq rfl) (k' := 1) rfl (n' := 16) rfl (by decide) (by decide) rfl ?_
  intro r11 h12 Q12 O12
  obtain ⟨t13, rfl, gt13, zt13, K12, A12, U12, C12, N12, V12⟩ := Q12
  exact Wk.retV C d_jdk_67m1_6 (by decide) (by decide) ⟨t13, rfl, gt13, zt13, ((Keep.refl _ _).trans K12 (allS (Or.inl (List.mem_singleton.mpr rfl)) all0)), A12, U12, C12, N12, V12⟩
set_option maxRecDepth 65536 in
set_option maxHeartbeats 40000000 in
theorem own_ecap (l : Launch) {Z : State} {a0 : Array Value} (hw : Ws a0 Z) {h0 : Heap} (O0 : Ext Z.heap h0) (a1 t : Addr) (cs : List Int32) (n : Nat) (g1 : Z.heap.size ≤ a1) (gt : Z.heap.size ≤ t) (nt : t ≠ a1) (E1 : Exa Z h0 a1 "java/lang/StringBuilder") (F1 : Fld Z h0 a1 "java/lang/AbstractStringBuilder" "value" "[B" (.ref t)) (F2 : Fld Z h0 a1 "java/lang/AbstractStringBuilder" "coder" "B" (.int 0)) (F3 : Fld Z h0 a1 "java/lang/AbstractStringBuilder" "count" "I" (.int (Int32.ofNat cs.length))) (F4 : Wk.Ary Z h0 t .byte (sb16 cs)) (hc : cs.length ≤ 16) (hn : n ≤ 16) :
    Wk.Con l Z (⟨"java/lang/AbstractStringBuilder", "ensureCapacityInternal", "(I)V"⟩ : MethodName) jdk_68_method_9_code 3 none ({ frames := 0, cells := 0, slots := 0, locals := 0 } : Room) #[(.ref a1), (.int (Int32.ofNat n))] h0 (fun v h' => v = none ∧ h' = h0) := by
  refine Wk.Con.intro (plainFor_of_name pn1) O0 (fun m => ef6 m a1 (Int32.ofNat n)) ?_
  intro W C
  replace C : Wk.Cx Z W "java/lang/AbstractStringBuilder" "ensureCapacityInternal" jdk_68_method_9_code 3 none := C
  refine Wk.aloadN (pc' := 1) C d_jdk_68m9_0 rfl rfl rfl ?_
  refine Wk.getF (pc' := 4) C d_jdk_68m9_1 (w72 hw) Via.refl F1 rfl ?_
  refine Wk.alen (pc' := 5) C d_jdk_68m9_4 F4 (z := (16 : Int32)) (by rw [sb16_len hc]; rfl) rfl ?_
  refine Wk.aloadN (pc' := 6) C d_jdk_68m9_5 rfl rfl rfl ?_
  refine Wk.getF (pc' := 9) C d_jdk_68m9_6 (w74 hw) Via.refl F2 rfl ?_
  refine Wk.ishr (pc' := 10) C d_jdk_68m9_9 (v := (16 : Int32)) (by decide) rfl ?_
  refine Wk.istoreN (pc' := 11) C d_jdk_68m9_10 (Ls' := #[.val (.ref a1), .val (.int (Int32.ofNat n)), .val (.int (16 : Int32))]) rfl rfl ?_
  refine Wk.iloadN (pc' := 12) C d_jdk_68m9_11 rfl rfl ?_
  refine Wk.iloadN (pc' := 13) C d_jdk_68m9_12 rfl rfl ?_
  obtain ⟨v11, hv11⟩ : ∃ z : Int32, (Int32.ofNat n) - (16 : Int32) = z := ⟨_, rfl⟩
  refine Wk.isub (pc' := 14) C d_jdk_68m9_13 hv11 rfl ?_
  have hle : ¬ (0 : Int32) < v11 := by
    have a := Wk.subI hv11
    have b := rng32 v11
    have c16 : (16 : Int32).toInt = 16 := by decide
    have c0 : (0 : Int32).toInt = 0 := by decide
    rw [(Wk.nat32 (n := n) (by omega)).1, c16] at a
    rw [Wk.ltI, c0]
    omega
  refine Wk.if_le C d_jdk_68m9_14 (by decide) (pcT := 38) (by decide) (pc' := 17) rfl (fun q12 => ?_) (fun q => absurd q hle)
  exact Wk.retV C d_jdk_68m9_38 (by decide) (by decide) ⟨rfl, rfl⟩
set_option maxRecDepth 65536 in
set_option maxHeartbeats 40000000 in
theorem own_coder (l : Launch) {Z : State} {a0 : Array Value} (hw : Ws a0 Z) {h0 : Heap} (O0 : Ext Z.heap h0) (hs : Sets Z) (x : Addr) (ds : List Int32) (F : Str Z h0 x ds) :
    Wk.Con l Z (⟨"java/lang/String", "coder", "()B"⟩ : MethodName) jdk_42_method_152_code 1 (some .byte) ({ frames := 0, cells := 0, slots := 0, locals := 0 } : Room) #[(.ref x)] h0 (fun v h' => v = some (.int 0) ∧ h' = h0) := by
  refine Wk.Con.intro (plainFor_of_name pn3) O0 (fun m => ef7 m x) ?_
  intro W C
  replace C : Wk.Cx Z W "java/lang/String" "coder" jdk_42_method_152_code 1 (some .byte) := C
  obtain ⟨zc, fm, SC, hzc, -, -⟩ := hs
  refine Wk.getS (pc' := 3) C d_jdk_42m152_0 (w18 hw) Via.refl (SC.ext O0) rfl ?_
  refine Wk.if_eq C d_jdk_42m152_3 (by decide) (pcT := 13) (by decide) (pc' := 6) rfl (fun q => absurd q hzc) (fun q11 => ?_)
  refine Wk.aloadN (pc' := 7) C d_jdk_42m152_6 rfl rfl rfl ?_
  refine Wk.getF (pc' := 10) C d_jdk_42m152_7 (w30 hw) Via.refl F.2.1 rfl ?_
  refine Wk.goto C d_jdk_42m152_10 (by decide) (pc' := 14) (by decide) ?_
  exact Wk.retNar (ty := .byte) C (by simp) d_jdk_42m152_14 rfl (by decide) (by decide) ⟨rfl, rfl⟩
set_option maxRecDepth 65536 in
set_option maxHeartbeats 40000000 in
theorem own_infl (l : Launch) {Z : State} {a0 : Array Value} (hw : Ws a0 Z) {h0 : Heap} (O0 : Ext Z.heap h0) (hs : Sets Z) (a1 t x : Addr) (cs ds : List Int32) (g1 : Z.heap.size ≤ a1) (gt : Z.heap.size ≤ t) (nt : t ≠ a1) (E1 : Exa Z h0 a1 "java/lang/StringBuilder") (F1 : Fld Z h0 a1 "java/lang/AbstractStringBuilder" "value" "[B" (.ref t)) (F2 : Fld Z h0 a1 "java/lang/AbstractStringBuilder" "coder" "B" (.int 0)) (F3 : Fld Z h0 a1 "java/lang/AbstractStringBuilder" "count" "I" (.int (Int32.ofNat cs.length))) (F4 : Wk.Ary Z h0 t .byte (sb16 cs)) (F : Str Z h0 x ds) :
    Wk.Con l Z (⟨"java/lang/AbstractStringBuilder", "inflateIfNeededFor", "(Ljava/lang/String;)V"⟩ : MethodName) jdk_68_method_71_code 2 none ({ frames := 1, cells := 0, slots := 0, locals := 14 } : Room) #[(.ref a1), (.ref x)] h0 (fun v h' => v = none ∧ h' = h0) := by
  refine Wk.Con.intro (plainFor_of_name pn1) O0 (fun m => ef8 m a1 x) ?_
  intro W C
  replace C : Wk.Cx Z W "java/lang/AbstractStringBuilder" "inflateIfNeededFor" jdk_68_method_71_code 2 none := C
  have hs0 := hs
  obtain ⟨zc, fm, SC, hzc, -, -⟩ := hs
  have hs := hs0
  refine Wk.getS (pc' := 3) C d_jdk_68m71_0 (w71 hw) Via.refl (SC.ext O0) rfl ?_
  refine Wk.if_eq C d_jdk_68m71_3 (by decide) (pcT := 21) (by decide) (pc' := 6) rfl (fun q => absurd q hzc) (fun q11 => ?_)
  refine Wk.aloadN (pc' := 7) C d_jdk_68m71_6 rfl rfl rfl ?_
  refine Wk.getF (pc' := 10) C d_jdk_68m71_7 (w74 hw) Via.refl F2 rfl ?_
  refine Wk.aloadN (pc' := 11) C d_jdk_68m71_10 rfl rfl rfl ?_
  refine Wk.callV (pc' := 14) C d_jdk_68m71_11 (a := x) (Wk.Con.pays C (Wn := 1) (own_coder l hw O0 hs x ds F) (w95 hw) (w6 hw) (by decide) (by decide)) Wk.cleanC F.exa (w113 hw) (w92 hw) (notFace_of_selects (args := #[]) (mvT C.hZ (w94 hw))) (w94 hw) (w93 hw) (by decide) (argsL := []) (st := [(.int (0 : Int32))]) rfl rfl (lenOf pd4 rfl) rfl (Nat.le_of_eq rfl) (k' := 0) rfl (n' := 0) rfl (by decide) (by decide) rfl ?_
  intro r12 h13 Q13 O13
  obtain ⟨rfl, e14⟩ := Q13
  obtain rfl := e14.symm
  refine Wk.icmp_eq C d_jdk_68m71_14 (by decide) (pcT := 21) (by decide) (pc' := 17) rfl (fun q15 => ?_) (fun q => absurd q (by decide))
  exact Wk.retV C d_jdk_68m71_21 (by decide) (by decide) ⟨rfl, rfl⟩
set_option maxRecDepth 65536 in
set_option maxHeartbeats 40000000 in
theorem own_getB (l : Launch) {Z : State} {a0 : Array Value} (hw : Ws a0 Z) {h0 : Heap} (O0 : Ext Z.heap h0) (hs : Sets Z) (t x : Addr) (cs ds : List Int32) (gt : Z.heap.size ≤ t) (F4 : Wk.Ary Z h0 t .byte (sb16 cs)) (F : Str Z h0 x ds) (hl : cs.length + ds.length ≤ 16) :
    Wk.Con l Z (⟨"java/lang/String", "getBytes", "([BIB)V"⟩ : MethodName) jdk_42_method_147_code 4 none ({ frames := 1, cells := 0, slots := 0, locals := 18 } : Room) #[(.ref x), (.ref t), (.int (Int32.ofNat cs.length)), (.int (0 : Int32))] h0 (fun v h' => v = none ∧ Keep h0 h' [t] ∧ Wk.Ary Z h' t .byte (sb16 (cs ++ ds))) := by
  refine Wk.Con.intro (plainFor_of_name pn3) O0 (fun m => ef9 m x t (Int32.ofNat cs.length)) ?_
  intro W C
  replace C : Wk.Cx Z W "java/lang/String" "getBytes" jdk_42_method_147_code 4 none := C
  obtain ⟨u, G1, U⟩ := F.2.2.1
  refine Wk.aloadN (pc' := 1) C d_jdk_42m147_0 rfl rfl rfl ?_
  refine Wk.callV (pc' := 4) C d_jdk_42m147_1 (a := x) (Wk.Con.pays C (Wn := 0) (own_coder l hw O0 hs x ds F) (w95 hw) (w6 hw) (by decide) (by decide)) Wk.cleanC F.exa (w91 hw) (w92 hw) (notFace_of_selects (args := #[]) (mvT C.hZ (w94 hw))) (w94 hw) (w93 hw) (by decide) (argsL := []) (st := []) rfl rfl (lenOf pd4 rfl) rfl (Nat.le_of_eq rfl) (k' := 0) rfl (n' := 0) rfl (by decide) (by decide) rfl ?_
  intro r11 h12 Q12 O12
  obtain ⟨rfl, e13⟩ := Q12
  obtain rfl := e13.symm
  refine Wk.iloadN (pc' := 5) C d_jdk_42m147_4 rfl rfl ?_
  refine Wk.icmp_ne C d_jdk_42m147_5 (by decide) (pcT := 28) (by decide) (pc' := 8) rfl (fun q => absurd q (by decide)) (fun q14 => ?_)
  refine Wk.aloadN (pc' := 9) C d_jdk_42m147_8 rfl rfl rfl ?_
  refine Wk.getF (pc' := 12) C d_jdk_42m147_9 (w32 hw) Via.refl G1 rfl ?_
  refine Wk.iconst (pc' := 13) C d_jdk_42m147_12 (v := (0 : Int32)) rfl rfl ?_
  refine Wk.aloadN (pc' := 14) C d_jdk_42m147_13 rfl rfl rfl ?_
  refine Wk.iloadN (pc' := 15) C d_jdk_42m147_14 rfl rfl ?_
  refine Wk.iloadN (pc' := 16) C d_jdk_42m147_15 rfl rfl ?_
  obtain ⟨v15, hv15⟩ : ∃ z : Int32, (Int32.ofNat cs.length) <<< ((0 : Int32) &&& 31) = z := ⟨_, rfl⟩
  refine Wk.ishl (pc' := 17) C d_jdk_42m147_16 hv15 rfl ?_
  have f16 : v15 = (Int32.ofNat cs.length) := own_shl0 hv15
  rw [f16]
  refine Wk.aloadN (pc' := 18) C d_jdk_42m147_17 rfl rfl rfl ?_
  refine Wk.getF (pc' := 21) C d_jdk_42m147_18 (w32 hw) Via.refl G1 rfl ?_
  refine Wk.alen (pc' := 22) C d_jdk_42m147_21 U (z := (Int32.ofNat ds.length)) (by simp) rfl ?_
  refine Wk.acopy (pc' := 25) C d_jdk_42m147_22 (w119 hw) (w122 hw) (w120 hw) (w121 hw) (Wn := 0) U F4 rfl (by decide) (Wk.nn32 (by omega)) (Wk.nn32 (by omega)) (by rw [(Wk.nat32 (n := ds.length) (by omega)).2]; show 0 + _ ≤ _; simp) (by rw [(Wk.nat32 (n := cs.length) (by omega)).2, (Wk.nat32 (n := ds.length) (by omega)).2, sb16_len (by omega)]; exact hl) (vd' := (sb16 (cs ++ ds))) (by rw [(Wk.nat32 (n := cs.length) (by omega)).2, (Wk.nat32 (n := ds.length) (by omega)).2]; exact sb16_app hl) gt rfl (by decide) (Nat.le_of_eq rfl) (by decide) rfl ?_
  intro h17 K17 V17 O17
  refine Wk.goto C d_jdk_42m147_25 (by decide) (pc' := 43) (by decide) ?_
  exact Wk.retV C d_jdk_42m147_43 (by decide) (by decide) ⟨rfl, ((Keep.refl _ _).trans K17 (allS (Or.inl (List.mem_singleton.mpr rfl)) all0)), V17⟩
set_option maxRecDepth 65536 in
set_option maxHeartbeats 40000000 in
theorem own_put (l : Launch) {Z : State} {a0 : Array Value} (hw : Ws a0 Z) {h0 : Heap} (O0 : Ext Z.heap h0) (hs : Sets Z) (a1 t x : Addr) (cs ds : List Int32) (g1 : Z.heap.size ≤ a1) (gt : Z.heap.size ≤ t) (nt : t ≠ a1) (E1 : Exa Z h0 a1 "java/lang/StringBuilder") (F1 : Fld Z h0 a1 "java/lang/AbstractStringBuilder" "value" "[B" (.ref t)) (F2 : Fld Z h0 a1 "java/lang/AbstractStringBuilder" "coder" "B" (.int 0)) (F3 : Fld Z h0 a1 "java/lang/AbstractStringBuilder" "count" "I" (.int (Int32.ofNat cs.length))) (F4 : Wk.Ary Z h0 t .byte (sb16 cs)) (F : Str Z h0 x ds) (hl : cs.length + ds.length ≤ 16) :
    Wk.Con l Z (⟨"java/lang/AbstractStringBuilder", "putStringAt", "(ILjava/lang/String;)V"⟩ : MethodName) jdk_68_method_73_code 3 none ({ frames := 2, cells := 0, slots := 0, locals := 36 } : Room) #[(.ref a1), (.int (Int32.ofNat cs.length)), (.ref x)] h0 (fun v h' => v = none ∧ Keep h0 h' [t] ∧ Wk.Ary Z h' t .byte (sb16 (cs ++ ds))) := by
  refine Wk.Con.intro (plainFor_of_name pn1) O0 (fun m => ef10 m a1 (Int32.ofNat cs.length) x) ?_
  intro W C
  replace C : Wk.Cx Z W "java/lang/AbstractStringBuilder" "putStringAt" jdk_68_method_73_code 3 none := C
  refine Wk.aloadN (pc' := 1) C d_jdk_68m73_0 rfl rfl rfl ?_
  refine Wk.aloadN (pc' := 2) C d_jdk_68m73_1 rfl rfl rfl ?_
  refine Wk.callV (pc' := 5) C d_jdk_68m73_2 (a := a1) (Wk.Con.pays C (Wn := 0) (own_infl l hw O0 hs a1 t x cs ds g1 gt nt E1 F1 F2 F3 F4 F) (w112 hw) (w68 hw) (by decide) (by decide)) Wk.cleanC E1 (w108 hw) (Wk.declOf (w109 hw) (w112 hw)) (notFace_of_selects (args := #[]) (mvT C.hZ (w111 hw))) (w111 hw) (w109 hw) (by decide) (argsL := [(.ref x)]) (st := []) rfl rfl (lenOf pd5 rfl) rfl (Nat.le_of_eq rfl) (k' := 0) rfl (n' := 0) rfl (by decide) (by decide) rfl ?_
  intro r11 h12 Q12 O12
  obtain ⟨rfl, e13⟩ := Q12
  obtain rfl := e13.symm
  refine Wk.aloadN (pc' := 6) C d_jdk_68m73_5 rfl rfl rfl ?_
  refine Wk.aloadN (pc' := 7) C d_jdk_68m73_6 rfl rfl rfl ?_
  refine Wk.getF (pc' := 10) C d_jdk_68m73_7 (w72 hw) Via.refl F1 rfl ?_
  refine Wk.iloadN (pc' := 11) C d_jdk_68m73_10 rfl rfl ?_
  refine Wk.aloadN (pc' := 12) C d_jdk_68m73_11 rfl rfl rfl ?_
  refine Wk.getF (pc' := 15) C d_jdk_68m73_12 (w74 hw) Via.refl F2 rfl ?_
  refine Wk.callV (pc' := 18) C d_jdk_68m73_15 (a := x) (Wk.Con.pays C (Wn := 0) (own_getB l hw O0 hs t x cs ds gt F4 F hl) (w118 hw) (w6 hw) (by decide) (by decide)) Wk.cleanC F.exa (w114 hw) (w115 hw) (notFace_of_selects (args := #[]) (mvT C.hZ (w117 hw))) (w117 hw) (w116 hw) (by decide) (argsL := [(.ref t), (.int (Int32.ofNat cs.length)), (.int (0 : Int32))]) (st := []) rfl rfl (lenOf pd6 rfl) rfl (Nat.le_of_eq rfl) (k' := 0) rfl (n' := 0) rfl (by decide) (by decide) rfl ?_
  intro r14 h15 Q15 O15
  obtain ⟨rfl, K15, V15⟩ := Q15
  exact Wk.retV C d_jdk_68m73_18 (by decide) (by decide) ⟨rfl, ((Keep.refl _ _).trans K15 (allS (Or.inl (List.mem_singleton.mpr rfl)) all0)), V15⟩
set_option maxRecDepth 65536 in
set_option maxHeartbeats 40000000 in
theorem own_aappend (l : Launch) {Z : State} {a0 : Array Value} (hw : Ws a0 Z) {h0 : Heap} (O0 : Ext Z.heap h0) (hs : Sets Z) (a1 t x : Addr) (cs ds : List Int32) (g1 : Z.heap.size ≤ a1) (gt : Z.heap.size ≤ t) (nt : t ≠ a1) (E1 : Exa Z h0 a1 "java/lang/StringBuilder") (F1 : Fld Z h0 a1 "java/lang/AbstractStringBuilder" "value" "[B" (.ref t)) (F2 : Fld Z h0 a1 "java/lang/AbstractStringBuilder" "coder" "B" (.int 0)) (F3 : Fld Z h0 a1 "java/lang/AbstractStringBuilder" "count" "I" (.int (Int32.ofNat cs.length))) (F4 : Wk.Ary Z h0 t .byte (sb16 cs)) (F : Str Z h0 x ds) (hl : cs.length + ds.length ≤ 16) :
    Wk.Con l Z (⟨"java/lang/AbstractStringBuilder", "append", "(Ljava/lang/String;)Ljava/lang/AbstractStringBuilder;"⟩ : MethodName) jdk_68_method_22_code 3 (some (.object "java/lang/AbstractStringBuilder")) ({ frames := 3, cells := 0, slots := 0, locals := 52 } : Room) #[(.ref a1), (.ref x)] h0 (fun v h' => v = some (.ref a1) ∧ Keep h0 h' [a1, t] ∧ Exa Z h' a1 "java/lang/StringBuilder" ∧ Fld Z h' a1 "java/lang/AbstractStringBuilder" "value" "[B" (.ref t) ∧ Fld Z h' a1 "java/lang/AbstractStringBuilder" "coder" "B" (.int 0) ∧ Fld Z h' a1 "java/lang/AbstractStringBuilder" "count" "I" (.int (Int32.ofNat (cs ++ ds).length)) ∧ Wk.Ary Z h' t .byte (sb16 (cs ++ ds))) := by
  refine Wk.Con.intro (plainFor_of_name pn1) O0 (fun m => ef11 m a1 x) ?_
  intro W C
  replace C : Wk.Cx Z W "java/lang/AbstractStringBuilder" "append" jdk_68_method_22_code 3 (some (.object "java/lang/AbstractStringBuilder")) := C
  refine Wk.aloadN (pc' := 1) C d_jdk_68m22_0 rfl rfl rfl ?_
  refine Wk.ifnonnullY C d_jdk_68m22_1 (by decide) (pc' := 9) (by decide) ?_
  refine Wk.aloadN (pc' := 10) C d_jdk_68m22_9 rfl rfl rfl ?_
  refine Wk.callV (pc' := 13) C d_jdk_68m22_10 (a := x) (strLen C hw hs O0 (Wn := 0) F (by decide) (by decide)) (pureC (P := fun v => v = some (.int (Int32.ofNat ds.length))) O0) F.exa (w86 hw) (w87 hw) (notFace_of_selects (args := #[]) (mvT C.hZ (w89 hw))) (w89 hw) (w88 hw) (by decide) (argsL := []) (st := []) rfl rfl (lenOf pd7 rfl) rfl (Nat.le_of_eq rfl) (k' := 0) rfl (n' := 0) rfl (by decide) (by decide) rfl ?_
  intro r11 h12 Q12 O12
  obtain ⟨rfl, e13⟩ := Q12
  obtain rfl := e13.symm
  refine Wk.istoreN (pc' := 14) C d_jdk_68m22_13 (Ls' := #[.val (.ref a1), .val (.ref x), .val (.int (Int32.ofNat ds.length))]) rfl rfl ?_
  refine Wk.aloadN (pc' := 15) C d_jdk_68m22_14 rfl rfl rfl ?_
  refine Wk.aloadN (pc' := 16) C d_jdk_68m22_15 rfl rfl rfl ?_
  refine Wk.getF (pc' := 19) C d_jdk_68m22_16 (w96 hw) Via.refl F3 rfl ?_
  refine Wk.iloadN (pc' := 20) C d_jdk_68m22_19 rfl rfl ?_
  obtain ⟨v14, hv14⟩ : ∃ z : Int32, (Int32.ofNat cs.length) + (Int32.ofNat ds.length) = z := ⟨_, rfl⟩
  refine Wk.iadd (pc' := 21) C d_jdk_68m22_20 hv14 rfl ?_
  have f15 : v14 = (Int32.ofNat (cs.length + ds.length)) := Wk.add32 (by omega) hv14
  rw [f15]
  refine Wk.callV (pc' := 24) C d_jdk_68m22_21 (a := a1) (Wk.Con.pays C (Wn := 0) (own_ecap l hw O0 a1 t cs (cs.length + ds.length) g1 gt nt E1 F1 F2 F3 F4 (by omega) (by omega)) (w102 hw) (w68 hw) (by decide) (by decide)) Wk.cleanC E1 (w98 hw) (Wk.declOf (w99 hw) (w102 hw)) (notFace_of_selects (args := #[]) (mvT C.hZ (w101 hw))) (w101 hw) (w99 hw) (by decide) (argsL := [(.int (Int32.ofNat (cs.length + ds.length)))]) (st := []) rfl rfl (lenOf pd3 rfl) rfl (Nat.le_of_eq rfl) (k' := 0) rfl (n' := 0) rfl (by decide) (by decide) rfl ?_
  intro r16 h17 Q17 O17
  obtain ⟨rfl, e18⟩ := Q17
  obtain rfl := e18.symm
  refine Wk.aloadN (pc' := 25) C d_jdk_68m22_24 rfl rfl rfl ?_
  refine Wk.aloadN (pc' := 26) C d_jdk_68m22_25 rfl rfl rfl ?_
  refine Wk.getF (pc' := 29) C d_jdk_68m22_26 (w96 hw) Via.refl F3 rfl ?_
  refine Wk.aloadN (pc' := 30) C d_jdk_68m22_29 rfl rfl rfl ?_
  refine Wk.callV (pc' := 33) C d_jdk_68m22_30 (a := a1) (Wk.Con.pays C (Wn := 0) (own_put l hw O0 hs a1 t x cs ds g1 gt nt E1 F1 F2 F3 F4 F hl) (w107 hw) (w68 hw) (by decide) (by decide)) Wk.cleanC E1 (w103 hw) (Wk.declOf (w104 hw) (w107 hw)) (notFace_of_selects (args := #[]) (mvT C.hZ (w106 hw))) (w106 hw) (w104 hw) (by decide) (argsL := [(.int (Int32.ofNat cs.length)), (.ref x)]) (st := []) rfl rfl (lenOf pd8 rfl) rfl (Nat.le_of_eq rfl) (k' := 0) rfl (n' := 0) rfl (by decide) (by decide) rfl ?_
  intro r19 h20 Q20 O20
  obtain ⟨rfl, K20, V20⟩ := Q20
  refine Wk.aloadN (pc' := 34) C d_jdk_68m22_33 rfl rfl rfl ?_
  refine Wk.dup (pc' := 35) C d_jdk_68m22_34 rfl rfl ?_
  refine Wk.getF (pc' := 38) C d_jdk_68m22_35 (w96 hw) Via.refl (F3.keep K20 (ninS (Ne.symm nt) nin0)) rfl ?_
  refine Wk.iloadN (pc' := 39) C d_jdk_68m22_38 rfl rfl ?_
  refine Wk.iadd (pc' := 40) C d_jdk_68m22_39 hv14 rfl ?_
  have f21 : v14 = (Int32.ofNat (cs.length + ds.length)) := Wk.add32 (by omega) hv14
  rw [f21]
  refine Wk.putF (pc' := 43) C d_jdk_68m22_40 (w96 hw) Via.refl (F3.keep K20 (ninS (Ne.symm nt) nin0)) (E1.keep K20) (Or.inl (w97 hw)) (w59 hw) (ty := .int) (by decide) rfl rfl g1 rfl ?_
  intro h22 W22 O22
  have F23 := (F3.keep K20 (ninS (Ne.symm nt) nin0)).same W22
  refine Wk.aloadN (pc' := 44) C d_jdk_68m22_43 rfl rfl rfl ?_
  exact Wk.retA C rfl rfl d_jdk_68m22_44 (by decide) (by decide) ⟨rfl, (((Keep.refl _ _).trans K20 (allS (Or.inl (List.mem_of_getElem? (i := 1) rfl)) all0)).wr W22 (Or.inl (List.mem_of_getElem? (i := 0) rfl))), ((E1.keep K20).wr W22), ((F1.keep K20 (ninS (Ne.symm nt) nin0)).other W22 (Or.inr (slot_ne (Or.inl (w73 hw)) (Or.inl (w97 hw)) (by decide) (t := (.array .byte)) (t' := .int) (by decide) (by decide)))), ((F2.keep K20 (ninS (Ne.symm nt) nin0)).other W22 (Or.inr (slot_ne (Or.inl (w75 hw)) (Or.inl (w97 hw)) (by decide) (t := .byte) (t' := .int) (by decide) (by decide)))), by rw [List.length_append]; exact F23, (V20.other W22 nt)⟩
set_option maxRecDepth 65536 in
set_option maxHeartbeats 40000000 in
theorem own_append (l : Launch) {Z : State} {a0 : Array Value} (hw : Ws a0 Z) {h0 : Heap} (O0 : Ext Z.heap h0) (hs : Sets Z) (a1 t x : Addr) (cs ds : List Int32) (g1 : Z.heap.size ≤ a1) (gt : Z.heap.size ≤ t) (nt : t ≠ a1) (E1 : Exa Z h0 a1 "java/lang/StringBuilder") (F1 : Fld Z h0 a1 "java/lang/AbstractStringBuilder" "value" "[B" (.ref t)) (F2 : Fld Z h0 a1 "java/lang/AbstractStringBuilder" "coder" "B" (.int 0)) (F3 : Fld Z h0 a1 "java/lang/AbstractStringBuilder" "count" "I" (.int (Int32.ofNat cs.length))) (F4 : Wk.Ary Z h0 t .byte (sb16 cs)) (F : Str Z h0 x ds) (hl : cs.length + ds.length ≤ 16) :
    Wk.Con l Z (⟨"java/lang/StringBuilder", "append", "(Ljava/lang/String;)Ljava/lang/StringBuilder;"⟩ : MethodName) jdk_67_method_7_code 2 (some (.object "java/lang/StringBuilder")) ({ frames := 4, cells := 0, slots := 0, locals := 68 } : Room) #[(.ref a1), (.ref x)] h0 (fun v h' => v = some (.ref a1) ∧ Keep h0 h' [a1, t] ∧ Exa Z h' a1 "java/lang/StringBuilder" ∧ Fld Z h' a1 "java/lang/AbstractStringBuilder" "value" "[B" (.ref t) ∧ Fld Z h' a1 "java/lang/AbstractStringBuilder" "coder" "B" (.int 0) ∧ Fld Z h' a1 "java/lang/AbstractStringBuilder" "count" "I" (.int (Int32.ofNat (cs ++ ds).length)) ∧ Wk.Ary Z h' t .byte (sb16 (cs ++ ds))) := by
  refine Wk.Con.intro (plainFor_of_name pn2) O0 (fun m => ef12 m a1 x) ?_
  intro W C
  replace C : Wk.Cx Z W "java/lang/StringBuilder" "append" jdk_67_method_7_code 2 (some (.object "java/lang/StringBuilder")) := C
  refine Wk.aloadN (pc' := 1) C d_jdk_67m7_0 rfl rfl rfl ?_
  refine Wk.aloadN (pc' := 2) C d_jdk_67m7_1 rfl rfl rfl ?_
  refine Wk.callSup (pc' := 5) C d_jdk_67m7_2 (a := a1) (Wk.Con.pays C (Wn := 0) (own_aappend l hw O0 hs a1 t x cs ds g1 gt nt E1 F1 F2 F3 F4 F hl) (w85 hw) (w68 hw) (by decide) (by decide)) Wk.cleanC E1 (w81 hw) (Wk.sameOf (w82 hw) (w101 hw) rfl (by decide)) (w82 hw) (w83 hw) (w85 hw) (by decide) (argsL := [(.ref x)]) (st := []) rfl rfl (lenOf pd9 rfl) rfl (Nat.le_of_eq rfl) (k' := 0) rfl (n' := 0) rfl (by decide) (by decide) rfl ?_
  intro r11 h12 Q12 O12
  obtain ⟨rfl, K12, A12, U12, C12, N12, V12⟩ := Q12
  refine Wk.pop (pc' := 6) C d_jdk_67m7_5 rfl rfl ?_
  refine Wk.aloadN (pc' := 7) C d_jdk_67m7_6 rfl rfl rfl ?_
  exact Wk.retA C rfl rfl d_jdk_67m7_7 (by decide) (by decide) ⟨rfl, ((Keep.refl _ _).trans K12 (allS (Or.inl (List.mem_of_getElem? (i := 0) rfl)) (allS (Or.inl (List.mem_of_getElem? (i := 1) rfl)) all0))), A12, U12, C12, N12, V12⟩
set_option maxRecDepth 65536 in
set_option maxHeartbeats 40000000 in
theorem own_gv (l : Launch) {Z : State} {a0 : Array Value} (hw : Ws a0 Z) {h0 : Heap} (O0 : Ext Z.heap h0) (a1 t : Addr) (cs : List Int32) (g1 : Z.heap.size ≤ a1) (gt : Z.heap.size ≤ t) (nt : t ≠ a1) (E1 : Exa Z h0 a1 "java/lang/StringBuilder") (F1 : Fld Z h0 a1 "java/lang/AbstractStringBuilder" "value" "[B" (.ref t)) (F2 : Fld Z h0 a1 "java/lang/AbstractStringBuilder" "coder" "B" (.int 0)) (F3 : Fld Z h0 a1 "java/lang/AbstractStringBuilder" "count" "I" (.int (Int32.ofNat cs.length))) (F4 : Wk.Ary Z h0 t .byte (sb16 cs)) :
    Wk.Con l Z (⟨"java/lang/AbstractStringBuilder", "getValue", "()[B"⟩ : MethodName) jdk_68_method_64_code 1 (some (.array .byte)) ({ frames := 0, cells := 0, slots := 0, locals := 0 } : Room) #[(.ref a1)] h0 (fun v h' => v = some (.ref t) ∧ h' = h0) := by
  refine Wk.Con.intro (plainFor_of_name pn1) O0 (fun m => ef13 m a1) ?_
  intro W C
  replace C : Wk.Cx Z W "java/lang/AbstractStringBuilder" "getValue" jdk_68_method_64_code 1 (some (.array .byte)) := C
  refine Wk.aloadN (pc' := 1) C d_jdk_68m64_0 rfl rfl rfl ?_
  refine Wk.getF (pc' := 4) C d_jdk_68m64_1 (w72 hw) Via.refl F1 rfl ?_
  exact Wk.retA C rfl rfl d_jdk_68m64_4 (by decide) (by decide) ⟨rfl, rfl⟩
set_option maxRecDepth 65536 in
set_option maxHeartbeats 40000000 in
theorem own_alen (l : Launch) {Z : State} {a0 : Array Value} (hw : Ws a0 Z) {h0 : Heap} (O0 : Ext Z.heap h0) (a1 t : Addr) (cs : List Int32) (g1 : Z.heap.size ≤ a1) (gt : Z.heap.size ≤ t) (nt : t ≠ a1) (E1 : Exa Z h0 a1 "java/lang/StringBuilder") (F1 : Fld Z h0 a1 "java/lang/AbstractStringBuilder" "value" "[B" (.ref t)) (F2 : Fld Z h0 a1 "java/lang/AbstractStringBuilder" "coder" "B" (.int 0)) (F3 : Fld Z h0 a1 "java/lang/AbstractStringBuilder" "count" "I" (.int (Int32.ofNat cs.length))) (F4 : Wk.Ary Z h0 t .byte (sb16 cs)) :
    Wk.Con l Z (⟨"java/lang/AbstractStringBuilder", "length", "()I"⟩ : MethodName) jdk_68_method_6_code 1 (some .int) ({ frames := 0, cells := 0, slots := 0, locals := 0 } : Room) #[(.ref a1)] h0 (fun v h' => v = some (.int (Int32.ofNat cs.length)) ∧ h' = h0) := by
  refine Wk.Con.intro (plainFor_of_name pn1) O0 (fun m => ef14 m a1) ?_
  intro W C
  replace C : Wk.Cx Z W "java/lang/AbstractStringBuilder" "length" jdk_68_method_6_code 1 (some .int) := C
  refine Wk.aloadN (pc' := 1) C d_jdk_68m6_0 rfl rfl rfl ?_
  refine Wk.getF (pc' := 4) C d_jdk_68m6_1 (w96 hw) Via.refl F3 rfl ?_
  exact Wk.retI C d_jdk_68m6_4 (by decide) (by decide) ⟨rfl, rfl⟩
set_option maxRecDepth 65536 in
set_option maxHeartbeats 40000000 in
theorem own_slen (l : Launch) {Z : State} {a0 : Array Value} (hw : Ws a0 Z) {h0 : Heap} (O0 : Ext Z.heap h0) (a1 t : Addr) (cs : List Int32) (g1 : Z.heap.size ≤ a1) (gt : Z.heap.size ≤ t) (nt : t ≠ a1) (E1 : Exa Z h0 a1 "java/lang/StringBuilder") (F1 : Fld Z h0 a1 "java/lang/AbstractStringBuilder" "value" "[B" (.ref t)) (F2 : Fld Z h0 a1 "java/lang/AbstractStringBuilder" "coder" "B" (.int 0)) (F3 : Fld Z h0 a1 "java/lang/AbstractStringBuilder" "count" "I" (.int (Int32.ofNat cs.length))) (F4 : Wk.Ary Z h0 t .byte (sb16 cs)) :
    Wk.Con l Z (⟨"java/lang/StringBuilder", "length", "()I"⟩ : MethodName) jdk_67_method_93_code 1 (some .int) ({ frames := 1, cells := 0, slots := 0, locals := 12 } : Room) #[(.ref a1)] h0 (fun v h' => v = some (.int (Int32.ofNat cs.length)) ∧ h' = h0) := by
  refine Wk.Con.intro (plainFor_of_name pn2) O0 (fun m => ef15 m a1) ?_
  intro W C
  replace C : Wk.Cx Z W "java/lang/StringBuilder" "length" jdk_67_method_93_code 1 (some .int) := C
  refine Wk.aloadN (pc' := 1) C d_jdk_67m93_0 rfl rfl rfl ?_
  refine Wk.callSup (pc' := 4) C d_jdk_67m93_1 (a := a1) (Wk.Con.pays C (Wn := 0) (own_alen l hw O0  a1 t cs g1 gt nt E1 F1 F2 F3 F4) (w148 hw) (w68 hw) (by decide) (by decide)) Wk.cleanC E1 (w147 hw) (Wk.sameOf (w143 hw) (w101 hw) rfl (by decide)) (w143 hw) (w83 hw) (w148 hw) (by decide) (argsL := []) (st := []) rfl rfl (lenOf pd7 rfl) rfl (Nat.le_of_eq rfl) (k' := 0) rfl (n' := 0) rfl (by decide) (by decide) rfl ?_
  intro r11 h12 Q12 O12
  obtain ⟨rfl, e13⟩ := Q12
  obtain rfl := e13.symm
  exact Wk.retI C d_jdk_67m93_4 (by decide) (by decide) ⟨rfl, rfl⟩
set_option maxRecDepth 65536 in
set_option maxHeartbeats 40000000 in
theorem own_sbL1 (l : Launch) {Z : State} {a0 : Array Value} (hw : Ws a0 Z) {h0 : Heap} (O0 : Ext Z.heap h0) (hs : Sets Z) (a1 t : Addr) (cs : List Int32) (g1 : Z.heap.size ≤ a1) (gt : Z.heap.size ≤ t) (nt : t ≠ a1) (E1 : Exa Z h0 a1 "java/lang/StringBuilder") (F1 : Fld Z h0 a1 "java/lang/AbstractStringBuilder" "value" "[B" (.ref t)) (F2 : Fld Z h0 a1 "java/lang/AbstractStringBuilder" "coder" "B" (.int 0)) (F3 : Fld Z h0 a1 "java/lang/AbstractStringBuilder" "count" "I" (.int (Int32.ofNat cs.length))) (F4 : Wk.Ary Z h0 t .byte (sb16 cs)) :
    Wk.Con l Z (⟨"java/lang/AbstractStringBuilder", "isLatin1", "()Z"⟩ : MethodName) jdk_68_method_68_code 1 (some .boolean) ({ frames := 0, cells := 0, slots := 0, locals := 0 } : Room) #[(.ref a1)] h0 (fun v h' => v = some (.int 1) ∧ h' = h0) := by
  refine Wk.Con.intro (plainFor_of_name pn1) O0 (fun m => ef16 m a1) ?_
  intro W C
  replace C : Wk.Cx Z W "java/lang/AbstractStringBuilder" "isLatin1" jdk_68_method_68_code 1 (some .boolean) := C
  obtain ⟨zc, fm, SC, hzc, -, -⟩ := hs
  refine Wk.getS (pc' := 3) C d_jdk_68m68_0 (w71 hw) Via.refl (SC.ext O0) rfl ?_
  refine Wk.if_eq C d_jdk_68m68_3 (by decide) (pcT := 17) (by decide) (pc' := 6) rfl (fun q => absurd q hzc) (fun q11 => ?_)
  refine Wk.aloadN (pc' := 7) C d_jdk_68m68_6 rfl rfl rfl ?_
  refine Wk.getF (pc' := 10) C d_jdk_68m68_7 (w74 hw) Via.refl F2 rfl ?_
  refine Wk.if_ne C d_jdk_68m68_10 (by decide) (pcT := 17) (by decide) (pc' := 13) rfl (fun q => absurd q (by decide)) (fun q12 => ?_)
  refine Wk.iconst (pc' := 14) C d_jdk_68m68_13 (v := (1 : Int32)) rfl rfl ?_
  refine Wk.goto C d_jdk_68m68_14 (by decide) (pc' := 18) (by decide) ?_
  exact Wk.retNar (ty := .boolean) C (by simp) d_jdk_68m68_18 rfl (by decide) (by decide) ⟨rfl, rfl⟩
set_option maxRecDepth 65536 in
set_option maxHeartbeats 40000000 in
theorem own_strSB2 (l : Launch) {Z : State} {a0 : Array Value} (hw : Ws a0 Z) {h0 : Heap} (O0 : Ext Z.heap h0) (hs : Sets Z) (a1 t x0 : Addr) (cs : List Int32) (g1 : Z.heap.size ≤ a1) (gt : Z.heap.size ≤ t) (nt : t ≠ a1) (E1 : Exa Z h0 a1 "java/lang/StringBuilder") (F1 : Fld Z h0 a1 "java/lang/AbstractStringBuilder" "value" "[B" (.ref t)) (F2 : Fld Z h0 a1 "java/lang/AbstractStringBuilder" "coder" "B" (.int 0)) (F3 : Fld Z h0 a1 "java/lang/AbstractStringBuilder" "count" "I" (.int (Int32.ofNat cs.length))) (F4 : Wk.Ary Z h0 t .byte (sb16 cs)) (g0 : Z.heap.size ≤ x0) (E0 : Exa Z h0 x0 "java/lang/String") (G1 : Fld Z h0 x0 "java/lang/String" "value" "[B" .null) (G2 : Fld Z h0 x0 "java/lang/String" "coder" "B" (.int (0 : Int32))) (n0 : x0 ≠ a1) (n1 : x0 ≠ t) (hp : ∀ c ∈ cs, ¬ c < 0 ∧ ¬ (255 : Int32) < c) (hl : cs.length < 16) :
    Wk.Con l Z (⟨"java/lang/String", "<init>", "(Ljava/lang/AbstractStringBuilder;Ljava/lang/Void;)V"⟩ : MethodName) jdk_42_method_150_code 5 none ({ frames := 3, cells := 1, slots := 16, locals := 56 } : Room) #[(.ref x0), (.ref a1), .null] h0 (fun v h' => v = none ∧ Keep h0 h' [x0] ∧ Str Z h' x0 cs) := by
  refine Wk.Con.intro (plainFor_of_name pn3) O0 (fun m => ef17 m x0 a1) ?_
  intro W C
  replace C : Wk.Cx Z W "java/lang/String" "<init>" jdk_42_method_150_code 5 none := C
  refine Wk.aloadN (pc' := 1) C d_jdk_42m150_0 rfl rfl rfl ?_
  refine Wk.initO (pc' := 4) C d_jdk_42m150_1 (Wn := 0) (w15 hw) (w16 hw) (w17 hw) rfl (by decide) (Nat.le_of_eq rfl) (by decide) rfl ?_
  refine Wk.aloadN (pc' := 5) C d_jdk_42m150_4 rfl rfl rfl ?_
  refine Wk.callV (pc' := 8) C d_jdk_42m150_5 (a := a1) (Wk.Con.pays C (Wn := 0) (own_gv l hw O0  a1 t cs g1 gt nt E1 F1 F2 F3 F4) (w140 hw) (w68 hw) (by decide) (by decide)) Wk.cleanC E1 (w136 hw) (w137 hw) (notFace_of_selects (args := #[]) (mvT C.hZ (w139 hw))) (w139 hw) (w138 hw) (by decide) (argsL := []) (st := []) rfl rfl (lenOf pd10 rfl) rfl (Nat.le_of_eq rfl) (k' := 0) rfl (n' := 0) rfl (by decide) (by decide) rfl ?_
  intro r11 h12 Q12 O12
  obtain ⟨rfl, e13⟩ := Q12
  obtain rfl := e13.symm
  refine Wk.astoreN (pc' := 9) C d_jdk_42m150_8 rfl (Ls' := #[.val (.ref x0), .val (.ref a1), .val .null, .val (.ref t), .unset]) rfl rfl ?_
  refine Wk.aloadN (pc' := 10) C d_jdk_42m150_9 rfl rfl rfl ?_
  refine Wk.callV (pc' := 13) C d_jdk_42m150_10 (a := a1) (Wk.Con.pays C (Wn := 0) (own_slen l hw O0  a1 t cs g1 gt nt E1 F1 F2 F3 F4) (w146 hw) (w60 hw) (by decide) (by decide)) Wk.cleanC E1 (w141 hw) (w142 hw) (Wk.nfOf (args := #[]) (mvT C.hZ (w101 hw)) rfl) (w144 hw) (w145 hw) (by decide) (argsL := []) (st := []) rfl rfl (lenOf pd7 rfl) rfl (Nat.le_of_eq rfl) (k' := 0) rfl (n' := 0) rfl (by decide) (by decide) rfl ?_
  intro r14 h15 Q15 O15
  obtain ⟨rfl, e16⟩ := Q15
  obtain rfl := e16.symm
  refine Wk.istore (pc' := 15) C d_jdk_42m150_13 (Ls' := #[.val (.ref x0), .val (.ref a1), .val .null, .val (.ref t), .val (.int (Int32.ofNat cs.length))]) rfl rfl ?_
  refine Wk.aloadN (pc' := 16) C d_jdk_42m150_15 rfl rfl rfl ?_
  refine Wk.callV (pc' := 19) C d_jdk_42m150_16 (a := a1) (Wk.Con.pays C (Wn := 0) (own_sbL1 l hw O0 hs a1 t cs g1 gt nt E1 F1 F2 F3 F4) (w153 hw) (w68 hw) (by decide) (by decide)) Wk.cleanC E1 (w149 hw) (w150 hw) (notFace_of_selects (args := #[]) (mvT C.hZ (w152 hw))) (w152 hw) (w151 hw) (by decide) (argsL := []) (st := []) rfl rfl (lenOf pd11 rfl) rfl (Nat.le_of_eq rfl) (k' := 0) rfl (n' := 0) rfl (by decide) (by decide) rfl ?_
  intro r17 h18 Q18 O18
  obtain ⟨rfl, e19⟩ := Q18
  obtain rfl := e19.symm
  refine Wk.if_eq C d_jdk_42m150_19 (by decide) (pcT := 41) (by decide) (pc' := 22) rfl (fun q => absurd q (by decide)) (fun q20 => ?_)
  refine Wk.aloadN (pc' := 23) C d_jdk_42m150_22 rfl rfl rfl ?_
  refine Wk.iconst (pc' := 24) C d_jdk_42m150_23 (v := (0 : Int32)) rfl rfl ?_
  refine Wk.putF (pc' := 27) C d_jdk_42m150_24 (w30 hw) Via.refl G2 E0 (Or.inr ⟨(w31 hw), rfl, rfl⟩) (w5 hw) (ty := .byte) (by decide) (by decide) (by decide) g0 rfl ?_
  intro h21 W21 O21
  have F22 := G2.same W21
  refine Wk.aloadN (pc' := 28) C d_jdk_42m150_27 rfl rfl rfl ?_
  refine Wk.aloadN (pc' := 29) C d_jdk_42m150_28 rfl rfl rfl ?_
  refine Wk.iconst (pc' := 30) C d_jdk_42m150_29 (v := (0 : Int32)) rfl rfl ?_
  refine Wk.iload (pc' := 32) C d_jdk_42m150_30 rfl rfl ?_
  refine Wk.callS (pc' := 35) C d_jdk_42m150_32 (Wk.Con.pays C (Wn := 1) (own_cor l hw O21 t (sb16 cs) 0 cs.length (F4.other W21 (Ne.symm n1)) (by rw [sb16_len (by omega)]; omega) (by omega) (by rw [sb16_len (by omega)]; omega) (by rw [sb16_len (by omega)]; omega)) (w157 hw) (w156 hw) (by decide) (by decide)) Wk.cleanC (w154 hw) (w155 hw) (w156 hw) (w157 hw) (by decide) (argsL := [(.ref t), (.int (0 : Int32)), (.int (Int32.ofNat cs.length))]) (st := [(.ref x0)]) rfl rfl (lenOf pd2 rfl) rfl (Nat.le_of_eq rfl) (k' := 1) rfl (n' := 16) rfl (by decide) (by decide) rfl ?_
  intro r23 h24 Q24 O24
  obtain ⟨b25, rfl, gb25, E24, V24⟩ := Q24
  refine Wk.putF (pc' := 38) C d_jdk_42m150_35 (w32 hw) Via.refl ((G1.other W21 (Or.inr (slot_ne (Or.inr (w33 hw)) (Or.inr (w31 hw)) (by decide) (t := (.array .byte)) (t' := .byte) (by decide) (by decide)))).ext E24) ((E0.wr W21).ext E24) (Or.inr ⟨(w33 hw), rfl, rfl⟩) (w5 hw) (ty := (.array .byte)) (by decide) rfl rfl g0 rfl ?_
  intro h26 W26 O26
  have F27 := ((G1.other W21 (Or.inr (slot_ne (Or.inr (w33 hw)) (Or.inr (w31 hw)) (by decide) (t := (.array .byte)) (t' := .byte) (by decide) (by decide)))).ext E24).same W26
  refine Wk.goto C d_jdk_42m150_38 (by decide) (pc' := 97) (by decide) ?_
  exact Wk.retV C d_jdk_42m150_97 (by decide) (by decide) ⟨rfl, ((((Keep.refl _ _).wr W21 (Or.inl (List.mem_singleton.mpr rfl))).ext E24).wr W26 (Or.inl (List.mem_singleton.mpr rfl))), (((E0.wr W21).ext E24).wr W26), ((F22.ext E24).other W26 (Or.inr (slot_ne (Or.inr (w31 hw)) (Or.inr (w33 hw)) (by decide) (t := .byte) (t' := (.array .byte)) (by decide) (by decide)))), ⟨_, F27, by rw [← sb16_take]; exact (V24.other W26 (Ne.symm (Nat.ne_of_lt (Nat.lt_of_lt_of_le (E0.wr W21).lt (Nat.le_of_eq gb25.symm)))))⟩, hp, by omega⟩
set_option maxRecDepth 65536 in
set_option maxHeartbeats 40000000 in
theorem own_strSB1 (l : Launch) {Z : State} {a0 : Array Value} (hw : Ws a0 Z) {h0 : Heap} (O0 : Ext Z.heap h0) (hs : Sets Z) (a1 t x0 : Addr) (cs : List Int32) (g1 : Z.heap.size ≤ a1) (gt : Z.heap.size ≤ t) (nt : t ≠ a1) (E1 : Exa Z h0 a1 "java/lang/StringBuilder") (F1 : Fld Z h0 a1 "java/lang/AbstractStringBuilder" "value" "[B" (.ref t)) (F2 : Fld Z h0 a1 "java/lang/AbstractStringBuilder" "coder" "B" (.int 0)) (F3 : Fld Z h0 a1 "java/lang/AbstractStringBuilder" "count" "I" (.int (Int32.ofNat cs.length))) (F4 : Wk.Ary Z h0 t .byte (sb16 cs)) (g0 : Z.heap.size ≤ x0) (E0 : Exa Z h0 x0 "java/lang/String") (G1 : Fld Z h0 x0 "java/lang/String" "value" "[B" .null) (G2 : Fld Z h0 x0 "java/lang/String" "coder" "B" (.int (0 : Int32))) (n0 : x0 ≠ a1) (n1 : x0 ≠ t) (hp : ∀ c ∈ cs, ¬ c < 0 ∧ ¬ (255 : Int32) < c) (hl : cs.length < 16) :
    Wk.Con l Z (⟨"java/lang/String", "<init>", "(Ljava/lang/StringBuilder;)V"⟩ : MethodName) jdk_42_method_53_code 2 none ({ frames := 4, cells := 1, slots := 16, locals := 73 } : Room) #[(.ref x0), (.ref a1)] h0 (fun v h' => v = none ∧ Keep h0 h' [x0] ∧ Str Z h' x0 cs) := by
  refine Wk.Con.intro (plainFor_of_name pn3) O0 (fun m => ef18 m x0 a1) ?_
  intro W C
  replace C : Wk.Cx Z W "java/lang/String" "<init>" jdk_42_method_53_code 2 none := C
  refine Wk.aloadN (pc' := 1) C d_jdk_42m53_0 rfl rfl rfl ?_
  refine Wk.aloadN (pc' := 2) C d_jdk_42m53_1 rfl rfl rfl ?_
  refine Wk.aconstNull (pc' := 3) C d_jdk_42m53_2 rfl ?_
  refine Wk.callI (pc' := 6) C d_jdk_42m53_3 (a := x0) (Wk.Con.pays C (Wn := 0) (own_strSB2 l hw O0 hs a1 t x0 cs g1 gt nt E1 F1 F2 F3 F4 g0 E0 G1 G2 n0 n1 hp hl) (w135 hw) (w6 hw) (by decide) (by decide)) Wk.cleanC rfl (w133 hw) (w134 hw) (w135 hw) (by decide) (argsL := [(.ref a1), .null]) (st := []) rfl rfl (lenOf pd12 rfl) rfl (Nat.le_of_eq rfl) (k' := 1) rfl (n' := 16) rfl (by decide) (by decide) rfl ?_
  intro r11 h12 Q12 O12
  obtain ⟨rfl, K12, S12⟩ := Q12
  exact Wk.retV C d_jdk_42m53_6 (by decide) (by decide) ⟨rfl, ((Keep.refl _ _).trans K12 (allS (Or.inl (List.mem_singleton.mpr rfl)) all0)), S12⟩
set_option maxRecDepth 65536 in
set_option maxHeartbeats 40000000 in
theorem own_toStr (l : Launch) {Z : State} {a0 : Array Value} (hw : Ws a0 Z) {h0 : Heap} (O0 : Ext Z.heap h0) (hs : Sets Z) (a1 t : Addr) (cs : List Int32) (g1 : Z.heap.size ≤ a1) (gt : Z.heap.size ≤ t) (nt : t ≠ a1) (E1 : Exa Z h0 a1 "java/lang/StringBuilder") (F1 : Fld Z h0 a1 "java/lang/AbstractStringBuilder" "value" "[B" (.ref t)) (F2 : Fld Z h0 a1 "java/lang/AbstractStringBuilder" "coder" "B" (.int 0)) (F3 : Fld Z h0 a1 "java/lang/AbstractStringBuilder" "count" "I" (.int (Int32.ofNat cs.length))) (F4 : Wk.Ary Z h0 t .byte (sb16 cs)) (hp : ∀ c ∈ cs, ¬ c < 0 ∧ ¬ (255 : Int32) < c) (hl : cs.length < 16) :
    Wk.Con l Z (⟨"java/lang/StringBuilder", "toString", "()Ljava/lang/String;"⟩ : MethodName) jdk_67_method_42_code 1 (some (.object "java/lang/String")) ({ frames := 5, cells := 2, slots := 20, locals := 88 } : Room) #[(.ref a1)] h0 (fun v h' => ∃ x' : Addr, v = some (.ref x') ∧ x' = h0.size ∧ Ext h0 h' ∧ Str Z h' x' cs) := by
  refine Wk.Con.intro (plainFor_of_name pn2) O0 (fun m => ef19 m a1) ?_
  intro W C
  replace C : Wk.Cx Z W "java/lang/StringBuilder" "toString" jdk_67_method_42_code 1 (some (.object "java/lang/String")) := C
  refine Wk.newO (pc' := 3) C d_jdk_67m42_0 (w129 hw) (w5 hw) (w6 hw) (k' := 1) rfl (n' := 4) rfl (by decide) (by decide) rfl ?_
  intro a11 h12 ga11 za11 E12 Aa11 Da11 Ua11 O12
  have F13 : Fld Z h12 a11 "java/lang/String" "coder" "B" (.int (0 : Int32)) := Da11 (Or.inr (w31 hw)) (ty := .byte) (by decide)
  have F14 : Fld Z h12 a11 "java/lang/String" "value" "[B" .null := Da11 (Or.inr (w33 hw)) (ty := (.array .byte)) (by decide)
  refine Wk.dup (pc' := 4) C d_jdk_67m42_3 rfl rfl ?_
  refine Wk.aloadN (pc' := 5) C d_jdk_67m42_4 rfl rfl rfl ?_
  refine Wk.callI (pc' := 8) C d_jdk_67m42_5 (a := a11) (Wk.Con.pays C (Wn := 1) (own_strSB1 l hw O12 hs a1 t a11 cs g1 gt nt (E1.ext E12) (F1.ext E12) (F2.ext E12) (F3.ext E12) (F4.ext E12) za11 Aa11 F14 F13 (Ne.symm (Nat.ne_of_lt (Nat.lt_of_lt_of_le E1.lt (Nat.le_of_eq ga11.symm)))) (Ne.symm (Nat.ne_of_lt (Nat.lt_of_lt_of_le F4.lt (Nat.le_of_eq ga11.symm)))) hp hl) (w132 hw) (w6 hw) (by decide) (by decide)) Wk.cleanC rfl (w130 hw) (w131 hw) (w132 hw) (by decide) (argsL := [(.ref a1)]) (st := [(.ref a11)]) rfl rfl (lenOf pd13 rfl) rfl (Nat.le_of_eq rfl) (k' := 2) rfl (n' := 20) rfl (by decide) (by decide) rfl ?_
  intro r15 h16 Q16 O16
  obtain ⟨rfl, K16, S16⟩ := Q16
  have X17 : Ext h0 h16 := Wk.Ext.keep1 (Z := Z) E12 K16 (Nat.le_of_eq ga11.symm)
  exact Wk.retA C rfl rfl d_jdk_67m42_8 (by decide) (by decide) ⟨_, rfl, ga11, X17, S16⟩
set_option maxRecDepth 65536 in
set_option maxHeartbeats 40000000 in
theorem own_new4e (l : Launch) {Z : State} {a0 : Array Value} (hw : Ws a0 Z) (hE : EW Z a0 EL) {h0 : Heap} (O0 : Ext Z.heap h0) (a1 a2 : Addr) (g1 : Z.heap.size ≤ a1) (E1 : Exa Z h0 a1 "java/lang/String") (F1 : Fld Z h0 a1 "java/lang/String" "value" "[B" .null) (F2 : Fld Z h0 a1 "java/lang/String" "coder" "B" (.int (0 : Int32))) :
    Ww.Con l Z EL (⟨"java/lang/String", "<init>", "([CIILjava/lang/Void;)V"⟩ : MethodName) jdk_42_method_149_code 6 none ({ frames := 1, cells := 4, slots := 8, locals := 12 } : Room) #[(.ref a1), (.ref a2), (.int (0 : Int32)), (.int (0 : Int32)), .null] h0 (fun v h' => v = none ∧ Keep h0 h' [a1] ∧ Str Z h' a1 []) := by
  refine Ww.Con.intro (plainFor_of_name pn3) O0 (fun m => ef20 m a1 a2) ?_
  intro W C
  replace C : Wk.Cx Z W "java/lang/String" "<init>" jdk_42_method_149_code 6 none := C
  refine Ww.Run.safe E1.lt (Ww.SafeAt.str0 E1 F1) ?_
  refine Ww.aloadN (pc' := 1) C d_jdk_42m149_0 rfl rfl rfl ?_
  refine Ww.initO (pc' := 4) C d_jdk_42m149_1 (Wn := 0) (w15 hw) (w16 hw) (w17 hw) rfl (by decide) (Nat.le_of_eq rfl) (by decide) rfl ?_
  refine Ww.iloadN (pc' := 5) C d_jdk_42m149_4 rfl rfl ?_
  refine Ww.if_ne C d_jdk_42m149_5 (by decide) (pcT := 27) (by decide) (pc' := 8) rfl (fun q => absurd q (by decide)) (fun q11 => ?_)
  refine Ww.aloadN (pc' := 9) C d_jdk_42m149_8 rfl rfl rfl ?_
  refine Ww.ldcS (pc' := 11) C d_jdk_42m149_9 (w34 hw) (wS hw) hE (by decide) (vs := []) ⟨by decide, by decide⟩ (z := (0 : Int32)) (by decide) (by decide) (nb := 0) (by decide) (by decide) (k' := 2) rfl (n' := 4) rfl (by decide) (by decide) rfl ?_
  intro a12 b13 h14 E14 A14 C14 V14 B14 N14 O14
  refine Ww.getF (pc' := 14) C d_jdk_42m149_11 (w32 hw) Via.refl V14 rfl ?_
  refine Ww.putF (pc' := 17) C d_jdk_42m149_14 (w32 hw) Via.refl (F1.ext E14) (E1.ext E14) (Or.inr ⟨(w33 hw), rfl, rfl⟩) (w5 hw) (ty := (.array .byte)) (by decide) rfl rfl g1 (List.mem_of_getElem? (i := 0) rfl) rfl ?_
  intro h15 W15 O15
  have F16 := (F1.ext E14).same W15
  refine Ww.aloadN (pc' := 18) C d_jdk_42m149_17 rfl rfl rfl ?_
  refine Ww.ldcS (pc' := 20) C d_jdk_42m149_18 (w34 hw) (wS hw) hE (by decide) (vs := []) ⟨by decide, by decide⟩ (z := (0 : Int32)) (by decide) (by decide) (nb := 0) (by decide) (by decide) (k' := 4) rfl (n' := 8) rfl (by decide) (by decide) rfl ?_
  intro a17 b18 h19 E19 A19 C19 V19 B19 N19 O19
  refine Ww.getF (pc' := 23) C d_jdk_42m149_20 (w30 hw) Via.refl C19 rfl ?_
  refine Ww.putF (pc' := 26) C d_jdk_42m149_23 (w30 hw) Via.refl (((F2.ext E14).other W15 (Or.inr (slot_ne (Or.inr (w31 hw)) (Or.inr (w33 hw)) (by decide) (t := .byte) (t' := (.array .byte)) (by decide) (by decide)))).ext E19) (((E1.ext E14).wr W15).ext E19) (Or.inr ⟨(w31 hw), rfl, rfl⟩) (w5 hw) (ty := .byte) (by decide) (by decide) (by decide) g1 (List.mem_of_getElem? (i := 0) rfl) rfl ?_
  intro h20 W20 O20
  have F21 := (((F2.ext E14).other W15 (Or.inr (slot_ne (Or.inr (w31 hw)) (Or.inr (w33 hw)) (by decide) (t := .byte) (t' := (.array .byte)) (by decide) (by decide)))).ext E19).same W20
  exact Ww.retV C hE d_jdk_42m149_26 (by decide) (by decide) ⟨rfl, (((((Keep.refl _ _).ext E14).wr W15 (Or.inl (List.mem_singleton.mpr rfl))).ext E19).wr W20 (Or.inl (List.mem_singleton.mpr rfl))), ((((E1.ext E14).wr W15).ext E19).wr W20), F21, ⟨_, ((F16.ext E19).other W20 (Or.inr (slot_ne (Or.inr (w33 hw)) (Or.inr (w31 hw)) (by decide) (t := (.array .byte)) (t' := .byte) (by decide) (by decide)))), (((B14.other W15 (Ne.symm (N14 a1 (List.mem_of_getElem? (i := 0) rfl)).2)).ext E19).other W20 (Ne.symm (N14 a1 (List.mem_of_getElem? (i := 0) rfl)).2))⟩, (fun _ h => nomatch h), by decide⟩
set_option maxRecDepth 65536 in
set_option maxHeartbeats 40000000 in
theorem own_newE (l : Launch) {Z : State} {a0 : Array Value} (hw : Ws a0 Z) (hE : EW Z a0 EL) {h0 : Heap} (O0 : Ext Z.heap h0) (a1 a2 : Addr) (g1 : Z.heap.size ≤ a1) (E1 : Exa Z h0 a1 "java/lang/String") (F1 : Fld Z h0 a1 "java/lang/String" "value" "[B" .null) (F2 : Fld Z h0 a1 "java/lang/String" "coder" "B" (.int (0 : Int32))) (V2 : Wk.Ary Z h0 a2 .char []) :
    Ww.Con l Z EL (⟨"java/lang/String", "<init>", "([C)V"⟩ : MethodName) jdk_42_method_3_code 2 none ({ frames := 2, cells := 4, slots := 8, locals := 29 } : Room) #[(.ref a1), (.ref a2)] h0 (fun v h' => v = none ∧ Keep h0 h' [a1] ∧ Str Z h' a1 []) := by
  refine Ww.Con.intro (plainFor_of_name pn3) O0 (fun m => ef21 m a1 a2) ?_
  intro W C
  replace C : Wk.Cx Z W "java/lang/String" "<init>" jdk_42_method_3_code 2 none := C
  refine Ww.aloadN (pc' := 1) C d_jdk_42m3_0 rfl rfl rfl ?_
  refine Ww.aloadN (pc' := 2) C d_jdk_42m3_1 rfl rfl rfl ?_
  refine Ww.iconst (pc' := 3) C d_jdk_42m3_2 (v := (0 : Int32)) rfl rfl ?_
  refine Ww.aloadN (pc' := 4) C d_jdk_42m3_3 rfl rfl rfl ?_
  refine Ww.alen (pc' := 5) C d_jdk_42m3_4 V2 (z := (0 : Int32)) rfl rfl ?_
  refine Ww.aconstNull (pc' := 6) C d_jdk_42m3_5 rfl ?_
  refine Ww.callIS (pc' := 9) C d_jdk_42m3_6 (a := a1) (Ww.Con.pays hE (Wn := 0) (own_new4e l hw hE O0 a1 a2 g1 E1 F1 F2) (w14 hw) (w6 hw) (by decide) (by decide)) Wk.cleanC rfl (w11 hw) (w12 hw) (w14 hw) (by decide) (argsL := [(.ref a2), (.int (0 : Int32)), (.int (0 : Int32)), .null]) (st := []) rfl rfl (lenOf pd14 rfl) rfl (Nat.le_of_eq rfl) (k' := 4) rfl (n' := 8) rfl (by decide) (by decide) rfl ?_
  intro r11 h12 Q12 O12
  obtain ⟨rfl, Kh12, Sh12⟩ := Q12
  exact Ww.retV C hE d_jdk_42m3_9 (by decide) (by decide) ⟨rfl, ((Keep.refl _ _).trans Kh12 (allS (Or.inl (List.mem_singleton.mpr rfl)) all0)), Sh12⟩
set_option maxRecDepth 65536 in
set_option maxHeartbeats 40000000 in
theorem own_str0 (l : Launch) {Z : State} {a0 : Array Value} (hw : Ws a0 Z) (hE : EW Z a0 EL) {h0 : Heap} (O0 : Ext Z.heap h0) (hs : Sets Z) (c1 c2 c3 : Int32) (rc1 : ¬ c1 < 0 ∧ ¬ (255 : Int32) < c1) (rc2 : ¬ c2 < 0 ∧ ¬ (255 : Int32) < c2) (rc3 : ¬ c3 < 0 ∧ ¬ (255 : Int32) < c3) :
    Ww.Con l Z EL (⟨"com/example/isomorph/isomorph/MethodNameToStringPinLaw", "str", "(ICCC)Ljava/lang/String;"⟩ : MethodName) method_2_code 4 (some (.object "java/lang/String")) ({ frames := 5, cells := 6, slots := 16, locals := 74 } : Room) #[(.int (0 : Int32)), (.int c1), (.int c2), (.int c3)] h0 (fun v h' => ∃ x' : Addr, v = some (.ref x') ∧ Ext h0 h' ∧ Str Z h' x' []) := by
  refine Ww.Con.intro (plainFor_of_name pn4) O0 (fun m => ef22 m c1 c2 c3) ?_
  intro W C
  replace C : Wk.Cx Z W "com/example/isomorph/isomorph/MethodNameToStringPinLaw" "str" method_2_code 4 (some (.object "java/lang/String")) := C
  refine Ww.iloadN (pc' := 1) C d_method_2_0 rfl rfl ?_
  refine Ww.if_ne C d_method_2_1 (by decide) (pcT := 15) (by decide) (pc' := 4) rfl (fun q => absurd q (by decide)) (fun q11 => ?_)
  refine Ww.newO (pc' := 7) C d_method_2_4 (w4 hw) (w5 hw) (w6 hw) (k' := 1) rfl (n' := 4) rfl (by decide) (by decide) rfl ?_
  intro a12 h13 ga12 za12 E13 Aa12 Da12 Ua12 O13
  have F14 : Fld Z h13 a12 "java/lang/String" "coder" "B" (.int (0 : Int32)) := Da12 (Or.inr (w31 hw)) (ty := .byte) (by decide)
  have F15 : Fld Z h13 a12 "java/lang/String" "value" "[B" .null := Da12 (Or.inr (w33 hw)) (ty := (.array .byte)) (by decide)
  refine Ww.dup (pc' := 8) C d_method_2_7 rfl rfl ?_
  refine Ww.iconst (pc' := 9) C d_method_2_8 (v := (0 : Int32)) rfl rfl ?_
  refine Ww.newA (pc' := 11) C d_method_2_9 (ty := .char) rfl (w7 hw) (by decide) (cap := 0) (by decide) (by decide) (k' := 2) rfl (n' := 4) rfl (by decide) (by decide) rfl rfl ?_
  intro a16 h17 ga16 za16 E17 Va16 O17
  have V18 : Wk.Ary Z h17 a16 .char [] := Va16
  refine Ww.callIS (pc' := 14) C d_method_2_11 (a := a12) (Ww.Con.pays hE (Wn := 1) (own_newE l hw hE O17 a12 a16 za12 (Aa12.ext E17) (F15.ext E17) (F14.ext E17) V18) (w10 hw) (w6 hw) (by decide) (by decide)) Wk.cleanC rfl (w8 hw) (w9 hw) (w10 hw) (by decide) (argsL := [(.ref a16)]) (st := [(.ref a12)]) rfl rfl (lenOf pd15 rfl) rfl (Nat.le_of_eq rfl) (k' := 6) rfl (n' := 12) rfl (by decide) (by decide) rfl ?_
  intro r19 h20 Q20 O20
  obtain ⟨rfl, Kh20, Sh20⟩ := Q20
  have X21 : Ext h0 h17 := Wk.Ext.trans E13 E17
  have X22 : Ext h0 h20 := Wk.Ext.keep1 (Z := Z) X21 Kh20 (Nat.le_of_eq ga12.symm)
  exact Ww.retA C hE rfl rfl d_method_2_14 (by decide) (by decide) ⟨_, rfl, X22, Sh20⟩
set_option maxRecDepth 65536 in
set_option maxHeartbeats 40000000 in
theorem own_str1 (l : Launch) {Z : State} {a0 : Array Value} (hw : Ws a0 Z) (hE : EW Z a0 EL) {h0 : Heap} (O0 : Ext Z.heap h0) (hs : Sets Z) (c1 c2 c3 : Int32) (rc1 : ¬ c1 < 0 ∧ ¬ (255 : Int32) < c1) (rc2 : ¬ c2 < 0 ∧ ¬ (255 : Int32) < c2) (rc3 : ¬ c3 < 0 ∧ ¬ (255 : Int32) < c3) :
    Ww.Con l Z EL (⟨"com/example/isomorph/isomorph/MethodNameToStringPinLaw", "str", "(ICCC)Ljava/lang/String;"⟩ : MethodName) method_2_code 4 (some (.object "java/lang/String")) ({ frames := 5, cells := 6, slots := 16, locals := 74 } : Room) #[(.int (1 : Int32)), (.int c1), (.int c2), (.int c3)] h0 (fun v h' => ∃ x' : Addr, v = some (.ref x') ∧ Ext h0 h' ∧ Str Z h' x' [c1]) := by
  refine Ww.Con.intro (plainFor_of_name pn4) O0 (fun m => ef23 m c1 c2 c3) ?_
  intro W C
  replace C : Wk.Cx Z W "com/example/isomorph/isomorph/MethodNameToStringPinLaw" "str" method_2_code 4 (some (.object "java/lang/String")) := C
  refine Ww.iloadN (pc' := 1) C d_method_2_0 rfl rfl ?_
  refine Ww.if_ne C d_method_2_1 (by decide) (pcT := 15) (by decide) (pc' := 4) rfl (fun q11 => ?_) (fun q => absurd q (by decide))
  refine Ww.iloadN (pc' := 16) C d_method_2_15 rfl rfl ?_
  refine Ww.iconst (pc' := 17) C d_method_2_16 (v := (1 : Int32)) rfl rfl ?_
  refine Ww.icmp_ne C d_method_2_17 (by decide) (pcT := 35) (by decide) (pc' := 20) rfl (fun q => absurd q (by decide)) (fun q12 => ?_)
  refine Ww.newO (pc' := 23) C d_method_2_20 (w4 hw) (w5 hw) (w6 hw) (k' := 1) rfl (n' := 4) rfl (by decide) (by decide) rfl ?_
  intro a13 h14 ga13 za13 E14 Aa13 Da13 Ua13 O14
  have F15 : Fld Z h14 a13 "java/lang/String" "coder" "B" (.int (0 : Int32)) := Da13 (Or.inr (w31 hw)) (ty := .byte) (by decide)
  have F16 : Fld Z h14 a13 "java/lang/String" "value" "[B" .null := Da13 (Or.inr (w33 hw)) (ty := (.array .byte)) (by decide)
  refine Ww.dup (pc' := 24) C d_method_2_23 rfl rfl ?_
  refine Ww.iconst (pc' := 25) C d_method_2_24 (v := (1 : Int32)) rfl rfl ?_
  refine Ww.newA (pc' := 27) C d_method_2_25 (ty := .char) rfl (w7 hw) (by decide) (cap := 1) (by decide) (by decide) (k' := 2) rfl (n' := 5) rfl (by decide) (by decide) rfl rfl ?_
  intro a17 h18 ga17 za17 E18 Va17 O18
  have V19 : Wk.Ary Z h18 a17 .char [(.int (0 : Int32))] := Va17
  refine Ww.dup (pc' := 28) C d_method_2_27 rfl rfl ?_
  refine Ww.iconst (pc' := 29) C d_method_2_28 (v := (0 : Int32)) rfl rfl ?_
  refine Ww.iloadN (pc' := 30) C d_method_2_29 rfl rfl ?_
  refine Ww.castore (pc' := 31) C d_method_2_30 V19 (by decide) (show _ < _ from Nat.le_of_ble_eq_true rfl) (Wk.nar_rng rc1) (vs' := [(.int c1)]) rfl za17 (List.mem_of_getElem? (i := 0) rfl) rfl ?_
  intro h20 W20 V20 O20
  have hp21 : ∀ c ∈ ([c1] : List Int32), ¬ c < 0 ∧ ¬ (255 : Int32) < c := (List.forall_mem_cons.mpr ⟨rc1, (fun _ h => nomatch h)⟩)
  have X22 : Ext h14 h20 := Wk.Ext.wr (Z := Z) E18 W20 (Nat.le_of_eq ga17.symm)
  refine Ww.callI (pc' := 34) C d_method_2_31 (a := a13) (fun vm0 C => (strNew C hw hs O20 (cs := [c1]) (n := 1) (Wn := 1) za13 (Aa13.ext X22) (F16.ext X22) (F15.ext X22) V20 rfl (by decide) (by decide) hp21 (by decide) (by decide))) (strNewC (n := 1) O20 za13 rfl (by decide) hp21) (fun v h' q => Or.inr (Or.inr ⟨[a13], allS (List.mem_of_getElem? (i := 1) rfl) all0, q.2.1⟩)) rfl (w8 hw) (w9 hw) (w10 hw) (by decide) (argsL := [(.ref a17)]) (st := [(.ref a13)]) rfl rfl (lenOf pd15 rfl) rfl (Nat.le_of_eq rfl) (k' := 3) rfl (n' := 6) rfl (by decide) (by decide) rfl ?_
  intro r23 h24 Q24 O24
  obtain ⟨rfl, Kh24, Sh24⟩ := Q24
  have X25 : Ext h0 h18 := Wk.Ext.trans E14 E18
  have X26 : Ext h0 h20 := Wk.Ext.wr (Z := Z) X25 W20 (Nat.le_trans E14.1 (Nat.le_of_eq ga17.symm))
  have X27 : Ext h0 h24 := Wk.Ext.keep1 (Z := Z) X26 Kh24 (Nat.le_of_eq ga13.symm)
  exact Ww.retA C hE rfl rfl d_method_2_34 (by decide) (by decide) ⟨_, rfl, X27, Sh24⟩
set_option maxRecDepth 65536 in
set_option maxHeartbeats 40000000 in
theorem own_str2 (l : Launch) {Z : State} {a0 : Array Value} (hw : Ws a0 Z) (hE : EW Z a0 EL) {h0 : Heap} (O0 : Ext Z.heap h0) (hs : Sets Z) (c1 c2 c3 : Int32) (rc1 : ¬ c1 < 0 ∧ ¬ (255 : Int32) < c1) (rc2 : ¬ c2 < 0 ∧ ¬ (255 : Int32) < c2) (rc3 : ¬ c3 < 0 ∧ ¬ (255 : Int32) < c3) :
    Ww.Con l Z EL (⟨"com/example/isomorph/isomorph/MethodNameToStringPinLaw", "str", "(ICCC)Ljava/lang/String;"⟩ : MethodName) method_2_code 4 (some (.object "java/lang/String")) ({ frames := 5, cells := 6, slots := 16, locals := 74 } : Room) #[(.int (2 : Int32)), (.int c1), (.int c2), (.int c3)] h0 (fun v h' => ∃ x' : Addr, v = some (.ref x') ∧ Ext h0 h' ∧ Str Z h' x' [c1, c2]) := by
  refine Ww.Con.intro (plainFor_of_name pn4) O0 (fun m => ef24 m c1 c2 c3) ?_
  intro W C
  replace C : Wk.Cx Z W "com/example/isomorph/isomorph/MethodNameToStringPinLaw" "str" method_2_code 4 (some (.object "java/lang/String")) := C
  refine Ww.iloadN (pc' := 1) C d_method_2_0 rfl rfl ?_
  refine Ww.if_ne C d_method_2_1 (by decide) (pcT := 15) (by decide) (pc' := 4) rfl (fun q11 => ?_) (fun q => absurd q (by decide))
  refine Ww.iloadN (pc' := 16) C d_method_2_15 rfl rfl ?_
  refine Ww.iconst (pc' := 17) C d_method_2_16 (v := (1 : Int32)) rfl rfl ?_
  refine Ww.icmp_ne C d_method_2_17 (by decide) (pcT := 35) (by decide) (pc' := 20) rfl (fun q12 => ?_) (fun q => absurd q (by decide))
  refine Ww.iloadN (pc' := 36) C d_method_2_35 rfl rfl ?_
  refine Ww.iconst (pc' := 37) C d_method_2_36 (v := (2 : Int32)) rfl rfl ?_
  refine Ww.icmp_ne C d_method_2_37 (by decide) (pcT := 59) (by decide) (pc' := 40) rfl (fun q => absurd q (by decide)) (fun q13 => ?_)
  refine Ww.newO (pc' := 43) C d_method_2_40 (w4 hw) (w5 hw) (w6 hw) (k' := 1) rfl (n' := 4) rfl (by decide) (by decide) rfl ?_
  intro a14 h15 ga14 za14 E15 Aa14 Da14 Ua14 O15
  have F16 : Fld Z h15 a14 "java/lang/String" "coder" "B" (.int (0 : Int32)) := Da14 (Or.inr (w31 hw)) (ty := .byte) (by decide)
  have F17 : Fld Z h15 a14 "java/lang/String" "value" "[B" .null := Da14 (Or.inr (w33 hw)) (ty := (.array .byte)) (by decide)
  refine Ww.dup (pc' := 44) C d_method_2_43 rfl rfl ?_
  refine Ww.iconst (pc' := 45) C d_method_2_44 (v := (2 : Int32)) rfl rfl ?_
  refine Ww.newA (pc' := 47) C d_method_2_45 (ty := .char) rfl (w7 hw) (by decide) (cap := 2) (by decide) (by decide) (k' := 2) rfl (n' := 6) rfl (by decide) (by decide) rfl rfl ?_
  intro a18 h19 ga18 za18 E19 Va18 O19
  have V20 : Wk.Ary Z h19 a18 .char [(.int (0 : Int32)), (.int (0 : Int32))] := Va18
  refine Ww.dup (pc' := 48) C d_method_2_47 rfl rfl ?_
  refine Ww.iconst (pc' := 49) C d_method_2_48 (v := (0 : Int32)) rfl rfl ?_
  refine Ww.iloadN (pc' := 50) C d_method_2_49 rfl rfl ?_
  refine Ww.castore (pc' := 51) C d_method_2_50 V20 (by decide) (show _ < _ from Nat.le_of_ble_eq_true rfl) (Wk.nar_rng rc1) (vs' := [(.int c1), (.int (0 : Int32))]) rfl za18 (List.mem_of_getElem? (i := 0) rfl) rfl ?_
  intro h21 W21 V21 O21
  refine Ww.dup (pc' := 52) C d_method_2_51 rfl rfl ?_
  refine Ww.iconst (pc' := 53) C d_method_2_52 (v := (1 : Int32)) rfl rfl ?_
  refine Ww.iloadN (pc' := 54) C d_method_2_53 rfl rfl ?_
  refine Ww.castore (pc' := 55) C d_method_2_54 V21 (by decide) (show _ < _ from Nat.le_of_ble_eq_true rfl) (Wk.nar_rng rc2) (vs' := [(.int c1), (.int c2)]) rfl za18 (List.mem_of_getElem? (i := 0) rfl) rfl ?_
  intro h22 W22 V22 O22
  have hp23 : ∀ c ∈ ([c1, c2] : List Int32), ¬ c < 0 ∧ ¬ (255 : Int32) < c := (List.forall_mem_cons.mpr ⟨rc1, (List.forall_mem_cons.mpr ⟨rc2, (fun _ h => nomatch h)⟩)⟩)
  have X24 : Ext h15 h21 := Wk.Ext.wr (Z := Z) E19 W21 (Nat.le_of_eq ga18.symm)
  have X25 : Ext h15 h22 := Wk.Ext.wr (Z := Z) X24 W22 (Nat.le_of_eq ga18.symm)
  refine Ww.callI (pc' := 58) C d_method_2_55 (a := a14) (fun vm0 C => (strNew C hw hs O22 (cs := [c1, c2]) (n := 2) (Wn := 1) za14 (Aa14.ext X25) (F17.ext X25) (F16.ext X25) V22 rfl (by decide) (by decide) hp23 (by decide) (by decide))) (strNewC (n := 2) O22 za14 rfl (by decide) hp23) (fun v h' q => Or.inr (Or.inr ⟨[a14], allS (List.mem_of_getElem? (i := 1) rfl) all0, q.2.1⟩)) rfl (w8 hw) (w9 hw) (w10 hw) (by decide) (argsL := [(.ref a18)]) (st := [(.ref a14)]) rfl rfl (lenOf pd15 rfl) rfl (Nat.le_of_eq rfl) (k' := 3) rfl (n' := 8) rfl (by decide) (by decide) rfl ?_
  intro r26 h27 Q27 O27
  obtain ⟨rfl, Kh27, Sh27⟩ := Q27
  have X28 : Ext h0 h19 := Wk.Ext.trans E15 E19
  have X29 : Ext h0 h21 := Wk.Ext.wr (Z := Z) X28 W21 (Nat.le_trans E15.1 (Nat.le_of_eq ga18.symm))
  have X30 : Ext h0 h22 := Wk.Ext.wr (Z := Z) X29 W22 (Nat.le_trans E15.1 (Nat.le_of_eq ga18.symm))
  have X31 : Ext h0 h27 := Wk.Ext.keep1 (Z := Z) X30 Kh27 (Nat.le_of_eq ga14.symm)
  exact Ww.retA C hE rfl rfl d_method_2_58 (by decide) (by decide) ⟨_, rfl, X31, Sh27⟩
set_option maxRecDepth 65536 in
set_option maxHeartbeats 40000000 in
theorem own_str3 (l : Launch) {Z : State} {a0 : Array Value} (hw : Ws a0 Z) (hE : EW Z a0 EL) {h0 : Heap} (O0 : Ext Z.heap h0) (hs : Sets Z) (c1 c2 c3 : Int32) (rc1 : ¬ c1 < 0 ∧ ¬ (255 : Int32) < c1) (rc2 : ¬ c2 < 0 ∧ ¬ (255 : Int32) < c2) (rc3 : ¬ c3 < 0 ∧ ¬ (255 : Int32) < c3) :
    Ww.Con l Z EL (⟨"com/example/isomorph/isomorph/MethodNameToStringPinLaw", "str", "(ICCC)Ljava/lang/String;"⟩ : MethodName) method_2_code 4 (some (.object "java/lang/String")) ({ frames := 5, cells := 6, slots := 16, locals := 74 } : Room) #[(.int (3 : Int32)), (.int c1), (.int c2), (.int c3)] h0 (fun v h' => ∃ x' : Addr, v = some (.ref x') ∧ Ext h0 h' ∧ Str Z h' x' [c1, c2, c3]) := by
  refine Ww.Con.intro (plainFor_of_name pn4) O0 (fun m => ef25 m c1 c2 c3) ?_
  intro W C
  replace C : Wk.Cx Z W "com/example/isomorph/isomorph/MethodNameToStringPinLaw" "str" method_2_code 4 (some (.object "java/lang/String")) := C
  refine Ww.iloadN (pc' := 1) C d_method_2_0 rfl rfl ?_
  refine Ww.if_ne C d_method_2_1 (by decide) (pcT := 15) (by decide) (pc' := 4) rfl (fun q11 => ?_) (fun q => absurd q (by decide))
  refine Ww.iloadN (pc' := 16) C d_method_2_15 rfl rfl ?_
  refine Ww.iconst (pc' := 17) C d_method_2_16 (v := (1 : Int32)) rfl rfl ?_
  refine Ww.icmp_ne C d_method_2_17 (by decide) (pcT := 35) (by decide) (pc' := 20) rfl (fun q12 => ?_) (fun q => absurd q (by decide))
  refine Ww.iloadN (pc' := 36) C d_method_2_35 rfl rfl ?_
  refine Ww.iconst (pc' := 37) C d_method_2_36 (v := (2 : Int32)) rfl rfl ?_
  refine Ww.icmp_ne C d_method_2_37 (by decide) (pcT := 59) (by decide) (pc' := 40) rfl (fun q13 => ?_) (fun q => absurd q (by decide))
  refine Ww.newO (pc' := 62) C d_method_2_59 (w4 hw) (w5 hw) (w6 hw) (k' := 1) rfl (n' := 4) rfl (by decide) (by decide) rfl ?_
  intro a14 h15 ga14 za14 E15 Aa14 Da14 Ua14 O15
  have F16 : Fld Z h15 a14 "java/lang/String" "coder" "B" (.int (0 : Int32)) := Da14 (Or.inr (w31 hw)) (ty := .byte) (by decide)
  have F17 : Fld Z h15 a14 "java/lang/String" "value" "[B" .null := Da14 (Or.inr (w33 hw)) (ty := (.array .byte)) (by decide)
  refine Ww.dup (pc' := 63) C d_method_2_62 rfl rfl ?_
  refine Ww.iconst (pc' := 64) C d_method_2_63 (v := (3 : Int32)) rfl rfl ?_
  refine Ww.newA (pc' := 66) C d_method_2_64 (ty := .char) rfl (w7 hw) (by decide) (cap := 3) (by decide) (by decide) (k' := 2) rfl (n' := 7) rfl (by decide) (by decide) rfl rfl ?_
  intro a18 h19 ga18 za18 E19 Va18 O19
  have V20 : Wk.Ary Z h19 a18 .char [(.int (0 : Int32)), (.int (0 : Int32)), (.int (0 : Int32))] := Va18
  refine Ww.dup (pc' := 67) C d_method_2_66 rfl rfl ?_
  refine Ww.iconst (pc' := 68) C d_method_2_67 (v := (0 : Int32)) rfl rfl ?_
  refine Ww.iloadN (pc' := 69) C d_method_2_68 rfl rfl ?_
  refine Ww.castore (pc' := 70) C d_method_2_69 V20 (by decide) (show _ < _ from Nat.le_of_ble_eq_true rfl) (Wk.nar_rng rc1) (vs' := [(.int c1), (.int (0 : Int32)), (.int (0 : Int32))]) rfl za18 (List.mem_of_getElem? (i := 0) rfl) rfl ?_
  intro h21 W21 V21 O21
  refine Ww.dup (pc' := 71) C d_method_2_70 rfl rfl ?_
  refine Ww.iconst (pc' := 72) C d_method_2_71 (v := (1 : Int32)) rfl rfl ?_
  refine Ww.iloadN (pc' := 73) C d_method_2_72 rfl rfl ?_
  refine Ww.castore (pc' := 74) C d_method_2_73 V21 (by decide) (show _ < _ from Nat.le_of_ble_eq_true rfl) (Wk.nar_rng rc2) (vs' := [(.int c1), (.int c2), (.int (0 : Int32))]) rfl za18 (List.mem_of_getElem? (i := 0) rfl) rfl ?_
  intro h22 W22 V22 O22
  refine Ww.dup (pc' := 75) C d_method_2_74 rfl rfl ?_
  refine Ww.iconst (pc' := 76) C d_method_2_75 (v := (2 : Int32)) rfl rfl ?_
  refine Ww.iloadN (pc' := 77) C d_method_2_76 rfl rfl ?_
  refine Ww.castore (pc' := 78) C d_method_2_77 V22 (by decide) (show _ < _ from Nat.le_of_ble_eq_true rfl) (Wk.nar_rng rc3) (vs' := [(.int c1), (.int c2), (.int c3)]) rfl za18 (List.mem_of_getElem? (i := 0) rfl) rfl ?_
  intro h23 W23 V23 O23
  have hp24 : ∀ c ∈ ([c1, c2, c3] : List Int32), ¬ c < 0 ∧ ¬ (255 : Int32) < c := (List.forall_mem_cons.mpr ⟨rc1, (List.forall_mem_cons.mpr ⟨rc2, (List.forall_mem_cons.mpr ⟨rc3, (fun _ h => nomatch h)⟩)⟩)⟩)
  have X25 : Ext h15 h21 := Wk.Ext.wr (Z := Z) E19 W21 (Nat.le_of_eq ga18.symm)
  have X26 : Ext h15 h22 := Wk.Ext.wr (Z := Z) X25 W22 (Nat.le_of_eq ga18.symm)
  have X27 : Ext h15 h23 := Wk.Ext.wr (Z := Z) X26 W23 (Nat.le_of_eq ga18.symm)
  refine Ww.callI (pc' := 81) C d_method_2_78 (a := a14) (fun vm0 C => (strNew C hw hs O23 (cs := [c1, c2, c3]) (n := 3) (Wn := 1) za14 (Aa14.ext X27) (F17.ext X27) (F16.ext X27) V23 rfl (by decide) (by decide) hp24 (by decide) (by decide))) (strNewC (n := 3) O23 za14 rfl (by decide) hp24) (fun v h' q => Or.inr (Or.inr ⟨[a14], allS (List.mem_of_getElem? (i := 1) rfl) all0, q.2.1⟩)) rfl (w8 hw) (w9 hw) (w10 hw) (by decide) (argsL := [(.ref a18)]) (st := [(.ref a14)]) rfl rfl (lenOf pd15 rfl) rfl (Nat.le_of_eq rfl) (k' := 3) rfl (n' := 10) rfl (by decide) (by decide) rfl ?_
  intro r28 h29 Q29 O29
  obtain ⟨rfl, Kh29, Sh29⟩ := Q29
  have X30 : Ext h0 h19 := Wk.Ext.trans E15 E19
  have X31 : Ext h0 h21 := Wk.Ext.wr (Z := Z) X30 W21 (Nat.le_trans E15.1 (Nat.le_of_eq ga18.symm))
  have X32 : Ext h0 h22 := Wk.Ext.wr (Z := Z) X31 W22 (Nat.le_trans E15.1 (Nat.le_of_eq ga18.symm))
  have X33 : Ext h0 h23 := Wk.Ext.wr (Z := Z) X32 W23 (Nat.le_trans E15.1 (Nat.le_of_eq ga18.symm))
  have X34 : Ext h0 h29 := Wk.Ext.keep1 (Z := Z) X33 Kh29 (Nat.le_of_eq ga14.symm)
  exact Ww.retA C hE rfl rfl d_method_2_81 (by decide) (by decide) ⟨_, rfl, X34, Sh29⟩
set_option maxRecDepth 65536 in
set_option maxHeartbeats 40000000 in
theorem own_record (l : Launch) {Z : State} {a0 : Array Value} (hw : Ws a0 Z) {h0 : Heap} (O0 : Ext Z.heap h0) (a1 : Addr)  :
    Wk.Con l Z (⟨"java/lang/Record", "<init>", "()V"⟩ : MethodName) jdk_30_method_1_code 1 none ({ frames := 1, cells := 0, slots := 0, locals := 12 } : Room) #[(.ref a1)] h0 (fun v h' => v = none ∧ h' = h0) := by
  refine Wk.Con.intro (plainFor_of_name pn5) O0 (fun m => ef26 m a1) ?_
  intro W C
  replace C : Wk.Cx Z W "java/lang/Record" "<init>" jdk_30_method_1_code 1 none := C
  refine Wk.aloadN (pc' := 1) C d_jdk_30m1_0 rfl rfl rfl ?_
  refine Wk.initO (pc' := 4) C d_jdk_30m1_1 (Wn := 0) (w48 hw) (w16 hw) (w17 hw) rfl (by decide) (Nat.le_of_eq rfl) (by decide) rfl ?_
  exact Wk.retV C d_jdk_30m1_4 (by decide) (by decide) ⟨rfl, rfl⟩
set_option maxRecDepth 65536 in
set_option maxHeartbeats 40000000 in
theorem own_mnInit (l : Launch) {Z : State} {a0 : Array Value} (hw : Ws a0 Z) {h0 : Heap} (O0 : Ext Z.heap h0) (a1 x y : Addr) (g1 : Z.heap.size ≤ a1) (E1 : Exa Z h0 a1 "com/example/isomorph/isomorph/MethodName") (F0 : Fld Z h0 a1 "com/example/isomorph/isomorph/MethodName" "className" "Ljava/lang/String;" .null) (F1 : Fld Z h0 a1 "com/example/isomorph/isomorph/MethodName" "methodName" "Ljava/lang/String;" .null) :
    Wk.Con l Z (⟨"com/example/isomorph/isomorph/MethodName", "<init>", "(Ljava/lang/String;Ljava/lang/String;)V"⟩ : MethodName) prog_2_method_1_code 3 none ({ frames := 2, cells := 0, slots := 0, locals := 24 } : Room) #[(.ref a1), (.ref x), (.ref y)] h0 (fun v h' => v = none ∧ Keep h0 h' [a1] ∧ Exa Z h' a1 "com/example/isomorph/isomorph/MethodName" ∧ Fld Z h' a1 "com/example/isomorph/isomorph/MethodName" "className" "Ljava/lang/String;" (.ref x) ∧ Fld Z h' a1 "com/example/isomorph/isomorph/MethodName" "methodName" "Ljava/lang/String;" (.ref y)) := by
  refine Wk.Con.intro (plainFor_of_name pn6) O0 (fun m => ef27 m a1 x y) ?_
  intro W C
  replace C : Wk.Cx Z W "com/example/isomorph/isomorph/MethodName" "<init>" prog_2_method_1_code 3 none := C
  refine Wk.aloadN (pc' := 1) C d_prog_2m1_0 rfl rfl rfl ?_
  refine Wk.callI (pc' := 4) C d_prog_2m1_1 (a := a1) (Wk.Con.pays C (Wn := 0) (own_record l hw O0 a1) (w47 hw) (w46 hw) (by decide) (by decide)) Wk.cleanC rfl (w43 hw) (w44 hw) (w47 hw) (by decide) (argsL := []) (st := []) rfl rfl (lenOf pd16 rfl) rfl (Nat.le_of_eq rfl) (k' := 0) rfl (n' := 0) rfl (by decide) (by decide) rfl ?_
  intro r11 h12 Q12 O12
  obtain ⟨rfl, e13⟩ := Q12
  obtain rfl := e13.symm
  refine Wk.aloadN (pc' := 5) C d_prog_2m1_4 rfl rfl rfl ?_
  refine Wk.aloadN (pc' := 6) C d_prog_2m1_5 rfl rfl rfl ?_
  refine Wk.putF (pc' := 9) C d_prog_2m1_6 (w49 hw) Via.refl F0 E1 (Or.inr ⟨(w50 hw), rfl, rfl⟩) (w38 hw) (ty := (.object "java/lang/String")) (by decide) rfl rfl g1 rfl ?_
  intro h14 W14 O14
  have F15 := F0.same W14
  refine Wk.aloadN (pc' := 10) C d_prog_2m1_9 rfl rfl rfl ?_
  refine Wk.aloadN (pc' := 11) C d_prog_2m1_10 rfl rfl rfl ?_
  refine Wk.putF (pc' := 14) C d_prog_2m1_11 (w51 hw) Via.refl (F1.other W14 (Or.inr (slot_ne (Or.inr (w52 hw)) (Or.inr (w50 hw)) (by decide) (t := (.object "java/lang/String")) (t' := (.object "java/lang/String")) (by decide) (by decide)))) (E1.wr W14) (Or.inr ⟨(w52 hw), rfl, rfl⟩) (w38 hw) (ty := (.object "java/lang/String")) (by decide) rfl rfl g1 rfl ?_
  intro h16 W16 O16
  have F17 := (F1.other W14 (Or.inr (slot_ne (Or.inr (w52 hw)) (Or.inr (w50 hw)) (by decide) (t := (.object "java/lang/String")) (t' := (.object "java/lang/String")) (by decide) (by decide)))).same W16
  exact Wk.retV C d_prog_2m1_14 (by decide) (by decide) ⟨rfl, (((Keep.refl _ _).wr W14 (Or.inl (List.mem_singleton.mpr rfl))).wr W16 (Or.inl (List.mem_singleton.mpr rfl))), ((E1.wr W14).wr W16), (F15.other W16 (Or.inr (slot_ne (Or.inr (w50 hw)) (Or.inr (w52 hw)) (by decide) (t := (.object "java/lang/String")) (t' := (.object "java/lang/String")) (by decide) (by decide)))), F17⟩
set_option maxRecDepth 65536 in
set_option maxHeartbeats 40000000 in
theorem own_mnTo (l : Launch) {Z : State} {a0 : Array Value} (hw : Ws a0 Z) (hE : EW Z a0 EL) {h0 : Heap} (O0 : Ext Z.heap h0) (hs : Sets Z) (m0 x y : Addr) (c1 c2 : List Int32) (F0 : Fld Z h0 m0 "com/example/isomorph/isomorph/MethodName" "className" "Ljava/lang/String;" (.ref x)) (F1 : Fld Z h0 m0 "com/example/isomorph/isomorph/MethodName" "methodName" "Ljava/lang/String;" (.ref y)) (SX : Str Z h0 x c1) (SY : Str Z h0 y c2) (l1 : c1.length ≤ 3) (l2 : c2.length ≤ 3) :
    Ww.Con l Z EL (⟨"com/example/isomorph/isomorph/MethodName", "toString", "()Ljava/lang/String;"⟩ : MethodName) prog_2_method_5_code 1 (some (.object "java/lang/String")) ({ frames := 6, cells := 6, slots := 64, locals := 110 } : Room) #[(.ref m0)] h0 (fun v h' => ∃ x' : Addr, v = some (.ref x') ∧ Ext h0 h' ∧ Str Z h' x' ((([] ++ c1) ++ [46]) ++ c2)) := by
  refine Ww.Con.intro (plainFor_of_name pn6) O0 (fun m => ef28 m m0) ?_
  intro W C
  replace C : Wk.Cx Z W "com/example/isomorph/isomorph/MethodName" "toString" prog_2_method_5_code 1 (some (.object "java/lang/String")) := C
  refine Ww.newO (pc' := 3) C d_prog_2m5_0 (w58 hw) (w59 hw) (w60 hw) (k' := 1) rfl (n' := 4) rfl (by decide) (by decide) rfl ?_
  intro a11 h12 ga11 za11 E12 Aa11 Da11 Ua11 O12
  have F13 : Fld Z h12 a11 "java/lang/AbstractStringBuilder" "value" "[B" .null := Da11 (Or.inl (w73 hw)) (ty := (.array .byte)) (by decide)
  have F14 : Fld Z h12 a11 "java/lang/AbstractStringBuilder" "coder" "B" (.int (0 : Int32)) := Da11 (Or.inl (w75 hw)) (ty := .byte) (by decide)
  have F15 : Fld Z h12 a11 "java/lang/AbstractStringBuilder" "count" "I" (.int (0 : Int32)) := Da11 (Or.inl (w97 hw)) (ty := .int) (by decide)
  refine Ww.dup (pc' := 4) C d_prog_2m5_3 rfl rfl ?_
  refine Ww.callIN (pc' := 7) C d_prog_2m5_4 (a := a11) (fun vm0 C => (Wk.Con.pays C (Wn := 1) (own_sb0 l hw O12 hs a11 za11 Aa11 F13 F14 F15) (w63 hw) (w60 hw) (by decide) (by decide))) (S' := fun t18 => [t18, a11]) Wk.cleanC (fun t18 v h' q => ⟨[a11], allS (Or.inl (List.mem_of_getElem? (i := 0) rfl)) all0, q.2.2.2.1, allS (Or.inr ⟨Nat.le_of_eq q.2.1.symm, q.2.2.2.2.2.2.2.2.lt⟩) (fun x hx => Or.inl hx)⟩) rfl (w61 hw) (w62 hw) (w63 hw) (by decide) (argsL := []) (st := [(.ref a11)]) rfl rfl (lenOf pd16 rfl) rfl (Nat.le_of_eq rfl) (k' := 2) rfl (n' := 20) rfl (by decide) (by decide) rfl ?_
  intro t18 r16 h17 Q17 O17
  obtain ⟨rfl, gt18, zt18, K17, A17, U17, C17, N17, V17⟩ := Q17
  refine Ww.aloadN (pc' := 8) C d_prog_2m5_7 rfl rfl rfl ?_
  have X19 : Ext h0 h17 := Wk.Ext.keep1 (Z := Z) E12 K17 (Nat.le_of_eq ga11.symm)
  refine Ww.getF (pc' := 11) C d_prog_2m5_8 (w49 hw) Via.refl (F0.ext X19) rfl ?_
  refine Ww.callV (pc' := 14) C d_prog_2m5_11 (a := a11) (fun vm0 C => (Wk.Con.pays C (Wn := 0) (own_append l hw O17 hs a11 t18 x ([] : List Int32) c1 za11 zt18 (Ne.symm (Nat.ne_of_lt (Nat.lt_of_lt_of_le Aa11.lt (Nat.le_of_eq gt18.symm)))) A17 U17 C17 N17 V17 (SX.ext X19) (by simp only [List.length_append, List.length_nil, List.length_cons]; omega)) (w80 hw) (w60 hw) (by decide) (by decide))) Wk.cleanC (fun v h' q => Or.inr (Or.inr ⟨[a11, t18], allS (List.mem_of_getElem? (i := 1) rfl) (allS (List.mem_of_getElem? (i := 0) rfl) all0), q.2.1⟩)) A17 (w76 hw) (w77 hw) (fun vm0 hZ0 => notFace_of_selects (args := #[]) (mvT (s := W.s.setVm vm0) hZ0 (w79 hw))) (w79 hw) (w78 hw) (by decide) (argsL := [(.ref x)]) (st := []) rfl rfl (lenOf pd17 rfl) rfl (Nat.le_of_eq rfl) (k' := 2) rfl (n' := 20) rfl (by decide) (by decide) rfl ?_
  intro r20 h21 Q21 O21
  obtain ⟨rfl, K21, A21, U21, C21, N21, V21⟩ := Q21
  refine Ww.ldcS (pc' := 16) C d_prog_2m5_14 (w123 hw) (wS hw) hE (by decide) (vs := [(.int (46 : Int32))]) ⟨by decide, by decide⟩ (z := (1 : Int32)) (by decide) (by decide) (nb := 4) (by decide) (by decide) (k' := 4) rfl (n' := 28) rfl (by decide) (by decide) rfl ?_
  intro a22 b23 h24 E24 A24 C24 V24 B24 N24 O24
  have SD : Str Z h24 a22 [46] := by
    have e46 : ((46 : Int32).toInt8.toInt32) = 46 := by decide
    refine ⟨A24, C24, ⟨_, V24, ?_⟩, by decide, by decide⟩
    show Wk.Ary Z _ _ .byte [.int ((46 : Int32).toInt8.toInt32)]
    rw [e46]
    exact B24
  refine Ww.callV (pc' := 19) C d_prog_2m5_16 (a := a11) (fun vm0 C => (Wk.Con.pays C (Wn := 0) (own_append l hw O24 hs a11 t18 a22 (([] : List Int32) ++ c1) ([46] : List Int32) za11 zt18 (Ne.symm (Nat.ne_of_lt (Nat.lt_of_lt_of_le Aa11.lt (Nat.le_of_eq gt18.symm)))) (A21.ext E24) (U21.ext E24) (C21.ext E24) (N21.ext E24) (V21.ext E24) SD (by simp only [List.length_append, List.length_nil, List.length_cons]; omega)) (w80 hw) (w60 hw) (by decide) (by decide))) Wk.cleanC (fun v h' q => Or.inr (Or.inr ⟨[a11, t18], allS (List.mem_of_getElem? (i := 1) rfl) (allS (List.mem_of_getElem? (i := 0) rfl) all0), q.2.1⟩)) (A21.ext E24) (w76 hw) (w77 hw) (fun vm0 hZ0 => notFace_of_selects (args := #[]) (mvT (s := W.s.setVm vm0) hZ0 (w79 hw))) (w79 hw) (w78 hw) (by decide) (argsL := [(.ref a22)]) (st := []) rfl rfl (lenOf pd17 rfl) rfl (Nat.le_of_eq rfl) (k' := 4) rfl (n' := 28) rfl (by decide) (by decide) rfl ?_
  intro r25 h26 Q26 O26
  obtain ⟨rfl, K26, A26, U26, C26, N26, V26⟩ := Q26
  refine Ww.aloadN (pc' := 20) C d_prog_2m5_19 rfl rfl rfl ?_
  have X27 : Ext h0 h21 := Wk.Ext.keepN (Z := Z) X19 K21 (allS (Nat.le_of_eq ga11.symm) (allS (Nat.le_trans E12.1 (Nat.le_of_eq gt18.symm)) all0))
  have X28 : Ext h0 h24 := Wk.Ext.trans X27 E24
  have X29 : Ext h0 h26 := Wk.Ext.keepN (Z := Z) X28 K26 (allS (Nat.le_of_eq ga11.symm) (allS (Nat.le_trans E12.1 (Nat.le_of_eq gt18.symm)) all0))
  refine Ww.getF (pc' := 23) C d_prog_2m5_20 (w51 hw) Via.refl (F1.ext X29) rfl ?_
  refine Ww.callV (pc' := 26) C d_prog_2m5_23 (a := a11) (fun vm0 C => (Wk.Con.pays C (Wn := 0) (own_append l hw O26 hs a11 t18 y ((([] : List Int32) ++ c1) ++ ([46] : List Int32)) c2 za11 zt18 (Ne.symm (Nat.ne_of_lt (Nat.lt_of_lt_of_le Aa11.lt (Nat.le_of_eq gt18.symm)))) A26 U26 C26 N26 V26 (SY.ext X29) (by simp only [List.length_append, List.length_nil, List.length_cons]; omega)) (w80 hw) (w60 hw) (by decide) (by decide))) Wk.cleanC (fun v h' q => Or.inr (Or.inr ⟨[a11, t18], allS (List.mem_of_getElem? (i := 1) rfl) (allS (List.mem_of_getElem? (i := 0) rfl) all0), q.2.1⟩)) A26 (w76 hw) (w77 hw) (fun vm0 hZ0 => notFace_of_selects (args := #[]) (mvT (s := W.s.setVm vm0) hZ0 (w79 hw))) (w79 hw) (w78 hw) (by decide) (argsL := [(.ref y)]) (st := []) rfl rfl (lenOf pd17 rfl) rfl (Nat.le_of_eq rfl) (k' := 4) rfl (n' := 28) rfl (by decide) (by decide) rfl ?_
  intro r30 h31 Q31 O31
  obtain ⟨rfl, K31, A31, U31, C31, N31, V31⟩ := Q31
  have hp9 : ∀ c ∈ (((([] : List Int32) ++ c1) ++ ([46] : List Int32)) ++ c2), ¬ c < 0 ∧ ¬ (255 : Int32) < c := by
    intro c hc
    rcases List.mem_append.mp hc with hc | hc
    · rcases List.mem_append.mp hc with hc | hc
      · exact SX.2.2.2.1 c hc
      · cases List.mem_singleton.mp hc; decide
    · exact SY.2.2.2.1 c hc
  refine Ww.callV (pc' := 29) C d_prog_2m5_26 (a := a11) (fun vm0 C => (Wk.Con.pays C (Wn := 0) (own_toStr l hw O31 hs a11 t18 (((([] : List Int32) ++ c1) ++ ([46] : List Int32)) ++ c2) za11 zt18 (Ne.symm (Nat.ne_of_lt (Nat.lt_of_lt_of_le Aa11.lt (Nat.le_of_eq gt18.symm)))) A31 U31 C31 N31 V31 hp9 (by simp only [List.length_append, List.length_nil, List.length_cons]; omega)) (w128 hw) (w60 hw) (by decide) (by decide))) Wk.cleanC (fun v h' q => by obtain ⟨_, -, -, e, -⟩ := q; exact Or.inr (Or.inl e)) A31 (w124 hw) (w125 hw) (fun vm0 hZ0 => notFace_of_selects (args := #[]) (mvT (s := W.s.setVm vm0) hZ0 (w127 hw))) (w127 hw) (w126 hw) (by decide) (argsL := []) (st := []) rfl rfl (lenOf pd18 rfl) rfl (Nat.le_of_eq rfl) (k' := 6) rfl (n' := 48) rfl (by decide) (by decide) rfl ?_
  intro r32 h33 Q33 O33
  obtain ⟨x34, rfl, gx34, E33, S33⟩ := Q33
  have X35 : Ext h0 h31 := Wk.Ext.keepN (Z := Z) X29 K31 (allS (Nat.le_of_eq ga11.symm) (allS (Nat.le_trans E12.1 (Nat.le_of_eq gt18.symm)) all0))
  have X36 : Ext h0 h33 := Wk.Ext.trans X35 E33
  exact Ww.retA C hE rfl rfl d_prog_2m5_29 (by decide) (by decide) ⟨_, rfl, X36, S33⟩
theorem own_m3 {p v : Int32} (h : p &&& 3 = v) : v = 0 ∨ v = 1 ∨ v = 2 ∨ v = 3 := by
  have q := c_mask p 3 2 (by decide) (by decide)
  rw [h] at q
  have c0 : (0 : Int32).toInt = 0 := by decide
  have c1 : (1 : Int32).toInt = 1 := by decide
  have c2 : (2 : Int32).toInt = 2 := by decide
  have c3 : (3 : Int32).toInt = 3 := by decide
  have a : v.toInt = 0 ∨ v.toInt = 1 ∨ v.toInt = 2 ∨ v.toInt = 3 := by omega
  rcases a with a | a | a | a
  · exact Or.inl (Wk.eqI (a.trans c0.symm))
  · exact Or.inr (Or.inl (Wk.eqI (a.trans c1.symm)))
  · exact Or.inr (Or.inr (Or.inl (Wk.eqI (a.trans c2.symm))))
  · exact Or.inr (Or.inr (Or.inr (Wk.eqI (a.trans c3.symm))))
set_option maxRecDepth 65536 in
set_option maxHeartbeats 80000000 in
theorem own_law (l : Launch) {Z : State} {a0 : Array Value} (hw : Ws a0 Z) (hE : EW Z a0 EL) (p0 p1 p2 p3 p4 p5 : Int32) (hs : Sets Z)  :
    Ww.Con l Z EL x code maxLocals ret room_1 #[(.int p0), (.int p1), (.int p2), (.int p3), (.int p4), (.int p5)] Z.heap (fun v _ => v = some (.int 1)) := by
  refine Ww.Con.intro (plainFor_of_name pn4) (Wk.Ext.refl _) (fun m => ef29 m p0 p1 p2 p3 p4 p5) ?_
  intro W C
  replace C : Wk.Cx Z W "com/example/isomorph/isomorph/MethodNameToStringPinLaw" "law" code 19 (some .boolean) := C
  have O0 : Ext Z.heap Z.heap := Wk.Ext.refl _
  refine Ww.iload (pc' := 2) C at_0 rfl rfl ?_
  refine Ww.iconst (pc' := 3) C at_2 (v := (3 : Int32)) rfl rfl ?_
  obtain ⟨v11, hv11⟩ : ∃ z : Int32, p5 &&& (3 : Int32) = z := ⟨_, rfl⟩
  refine Ww.iand (pc' := 4) C at_3 hv11 rfl ?_
  refine Ww.istore (pc' := 6) C at_4 (Ls' := #[.val (.int p0), .val (.int p1), .val (.int p2), .val (.int p3), .val (.int p4), .val (.int p5), .val (.int v11), .unset, .unset, .unset, .unset, .unset, .unset, .unset, .unset, .unset, .unset, .unset, .unset]) rfl rfl ?_
  refine Ww.iload (pc' := 8) C at_6 rfl rfl ?_
  refine Ww.iconst (pc' := 9) C at_8 (v := (2 : Int32)) rfl rfl ?_
  obtain ⟨v12, hv12⟩ : ∃ z : Int32, (p5.toUInt32 >>> ((2 : Int32) &&& 31).toUInt32).toInt32 = z := ⟨_, rfl⟩
  refine Ww.iushr (pc' := 10) C at_9 hv12 rfl ?_
  refine Ww.iconst (pc' := 11) C at_10 (v := (3 : Int32)) rfl rfl ?_
  obtain ⟨v13, hv13⟩ : ∃ z : Int32, v12 &&& (3 : Int32) = z := ⟨_, rfl⟩
  refine Ww.iand (pc' := 12) C at_11 hv13 rfl ?_
  refine Ww.istore (pc' := 14) C at_12 (Ls' := #[.val (.int p0), .val (.int p1), .val (.int p2), .val (.int p3), .val (.int p4), .val (.int p5), .val (.int v11), .val (.int v13), .unset, .unset, .unset, .unset, .unset, .unset, .unset, .unset, .unset, .unset, .unset]) rfl rfl ?_
  refine Ww.iloadN (pc' := 15) C at_14 rfl rfl ?_
  refine Ww.sipush (pc' := 18) C at_15 (v := (255 : Int32)) rfl rfl ?_
  obtain ⟨v14, hv14⟩ : ∃ z : Int32, p0 &&& (255 : Int32) = z := ⟨_, rfl⟩
  refine Ww.iand (pc' := 19) C at_18 hv14 rfl ?_
  obtain ⟨v15, hv15⟩ : ∃ z : Int32, v14.toUInt32.toUInt16.toUInt32.toInt32 = z := ⟨_, rfl⟩
  refine Ww.i2c (pc' := 20) C at_19 hv15 rfl ?_
  refine Ww.istore (pc' := 22) C at_20 (Ls' := #[.val (.int p0), .val (.int p1), .val (.int p2), .val (.int p3), .val (.int p4), .val (.int p5), .val (.int v11), .val (.int v13), .val (.int v15), .unset, .unset, .unset, .unset, .unset, .unset, .unset, .unset, .unset, .unset]) rfl rfl ?_
  refine Ww.iloadN (pc' := 23) C at_22 rfl rfl ?_
  refine Ww.sipush (pc' := 26) C at_23 (v := (255 : Int32)) rfl rfl ?_
  obtain ⟨v16, hv16⟩ : ∃ z : Int32, p1 &&& (255 : Int32) = z := ⟨_, rfl⟩
  refine Ww.iand (pc' := 27) C at_26 hv16 rfl ?_
  obtain ⟨v17, hv17⟩ : ∃ z : Int32, v16.toUInt32.toUInt16.toUInt32.toInt32 = z := ⟨_, rfl⟩
  refine Ww.i2c (pc' := 28) C at_27 hv17 rfl ?_
  refine Ww.istore (pc' := 30) C at_28 (Ls' := #[.val (.int p0), .val (.int p1), .val (.int p2), .val (.int p3), .val (.int p4), .val (.int p5), .val (.int v11), .val (.int v13), .val (.int v15), .val (.int v17), .unset, .unset, .unset, .unset, .unset, .unset, .unset, .unset, .unset]) rfl rfl ?_
  refine Ww.iloadN (pc' := 31) C at_30 rfl rfl ?_
  refine Ww.sipush (pc' := 34) C at_31 (v := (255 : Int32)) rfl rfl ?_
  obtain ⟨v18, hv18⟩ : ∃ z : Int32, p2 &&& (255 : Int32) = z := ⟨_, rfl⟩
  refine Ww.iand (pc' := 35) C at_34 hv18 rfl ?_
  obtain ⟨v19, hv19⟩ : ∃ z : Int32, v18.toUInt32.toUInt16.toUInt32.toInt32 = z := ⟨_, rfl⟩
  refine Ww.i2c (pc' := 36) C at_35 hv19 rfl ?_
  refine Ww.istore (pc' := 38) C at_36 (Ls' := #[.val (.int p0), .val (.int p1), .val (.int p2), .val (.int p3), .val (.int p4), .val (.int p5), .val (.int v11), .val (.int v13), .val (.int v15), .val (.int v17), .val (.int v19), .unset, .unset, .unset, .unset, .unset, .unset, .unset, .unset]) rfl rfl ?_
  refine Ww.iloadN (pc' := 39) C at_38 rfl rfl ?_
  refine Ww.sipush (pc' := 42) C at_39 (v := (255 : Int32)) rfl rfl ?_
  obtain ⟨v20, hv20⟩ : ∃ z : Int32, p3 &&& (255 : Int32) = z := ⟨_, rfl⟩
  refine Ww.iand (pc' := 43) C at_42 hv20 rfl ?_
  obtain ⟨v21, hv21⟩ : ∃ z : Int32, v20.toUInt32.toUInt16.toUInt32.toInt32 = z := ⟨_, rfl⟩
  refine Ww.i2c (pc' := 44) C at_43 hv21 rfl ?_
  refine Ww.istore (pc' := 46) C at_44 (Ls' := #[.val (.int p0), .val (.int p1), .val (.int p2), .val (.int p3), .val (.int p4), .val (.int p5), .val (.int v11), .val (.int v13), .val (.int v15), .val (.int v17), .val (.int v19), .val (.int v21), .unset, .unset, .unset, .unset, .unset, .unset, .unset]) rfl rfl ?_
  refine Ww.iload (pc' := 48) C at_46 rfl rfl ?_
  refine Ww.sipush (pc' := 51) C at_48 (v := (255 : Int32)) rfl rfl ?_
  obtain ⟨v22, hv22⟩ : ∃ z : Int32, p4 &&& (255 : Int32) = z := ⟨_, rfl⟩
  refine Ww.iand (pc' := 52) C at_51 hv22 rfl ?_
  obtain ⟨v23, hv23⟩ : ∃ z : Int32, v22.toUInt32.toUInt16.toUInt32.toInt32 = z := ⟨_, rfl⟩
  refine Ww.i2c (pc' := 53) C at_52 hv23 rfl ?_
  refine Ww.istore (pc' := 55) C at_53 (Ls' := #[.val (.int p0), .val (.int p1), .val (.int p2), .val (.int p3), .val (.int p4), .val (.int p5), .val (.int v11), .val (.int v13), .val (.int v15), .val (.int v17), .val (.int v19), .val (.int v21), .val (.int v23), .unset, .unset, .unset, .unset, .unset, .unset]) rfl rfl ?_
  refine Ww.iload (pc' := 57) C at_55 rfl rfl ?_
  refine Ww.bipush (pc' := 59) C at_57 (v := (8 : Int32)) rfl rfl ?_
  obtain ⟨v24, hv24⟩ : ∃ z : Int32, (p5.toUInt32 >>> ((8 : Int32) &&& 31).toUInt32).toInt32 = z := ⟨_, rfl⟩
  refine Ww.iushr (pc' := 60) C at_59 hv24 rfl ?_
  refine Ww.sipush (pc' := 63) C at_60 (v := (255 : Int32)) rfl rfl ?_
  obtain ⟨v25, hv25⟩ : ∃ z : Int32, v24 &&& (255 : Int32) = z := ⟨_, rfl⟩
  refine Ww.iand (pc' := 64) C at_63 hv25 rfl ?_
  obtain ⟨v26, hv26⟩ : ∃ z : Int32, v25.toUInt32.toUInt16.toUInt32.toInt32 = z := ⟨_, rfl⟩
  refine Ww.i2c (pc' := 65) C at_64 hv26 rfl ?_
  refine Ww.istore (pc' := 67) C at_65 (Ls' := #[.val (.int p0), .val (.int p1), .val (.int p2), .val (.int p3), .val (.int p4), .val (.int p5), .val (.int v11), .val (.int v13), .val (.int v15), .val (.int v17), .val (.int v19), .val (.int v21), .val (.int v23), .val (.int v26), .unset, .unset, .unset, .unset, .unset]) rfl rfl ?_
  rcases own_m3 hv11 with rfl | rfl | rfl | rfl
  · -- 0
    rcases own_m3 hv13 with rfl | rfl | rfl | rfl
    · -- 0
      refine Ww.iload (pc' := 69) C at_67 rfl rfl ?_
      refine Ww.iload (pc' := 71) C at_69 rfl rfl ?_
      refine Ww.iload (pc' := 73) C at_71 rfl rfl ?_
      refine Ww.iload (pc' := 75) C at_73 rfl rfl ?_
      refine Ww.callSS (pc' := 78) C at_75 (Ww.Con.pays hE (Wn := 0) (own_str0 l hw hE O0 hs v15 v17 v19 (Wk.rng255 hv14 hv15) (Wk.rng255 hv16 hv17) (Wk.rng255 hv18 hv19)) (w3 hw) (w2 hw) (by decide) (by decide)) Wk.cleanC (w0 hw) (w1 hw) (w2 hw) (w3 hw) (by decide) (argsL := [(.int (0 : Int32)), (.int v15), (.int v17), (.int v19)]) (st := []) rfl rfl (lenOf pd19 rfl) rfl (Nat.le_of_eq rfl) (k' := 6) rfl (n' := 16) rfl (by decide) (by decide) rfl ?_
      intro r27 h28 Q28 O28
      obtain ⟨x29, rfl, E28, S28⟩ := Q28
      refine Ww.astore (pc' := 80) C at_78 rfl (Ls' := #[.val (.int p0), .val (.int p1), .val (.int p2), .val (.int p3), .val (.int p4), .val (.int p5), .val (.int (0 : Int32)), .val (.int (0 : Int32)), .val (.int v15), .val (.int v17), .val (.int v19), .val (.int v21), .val (.int v23), .val (.int v26), .val (.ref x29), .unset, .unset, .unset, .unset]) rfl rfl ?_
      refine Ww.iload (pc' := 82) C at_80 rfl rfl ?_
      refine Ww.iload (pc' := 84) C at_82 rfl rfl ?_
      refine Ww.iload (pc' := 86) C at_84 rfl rfl ?_
      refine Ww.iload (pc' := 88) C at_86 rfl rfl ?_
      refine Ww.callSS (pc' := 91) C at_88 (Ww.Con.pays hE (Wn := 0) (own_str0 l hw hE O28 hs v21 v23 v26 (Wk.rng255 hv20 hv21) (Wk.rng255 hv22 hv23) (Wk.rng255 hv25 hv26)) (w3 hw) (w2 hw) (by decide) (by decide)) Wk.cleanC (w0 hw) (w1 hw) (w2 hw) (w3 hw) (by decide) (argsL := [(.int (0 : Int32)), (.int v21), (.int v23), (.int v26)]) (st := []) rfl rfl (lenOf pd19 rfl) rfl (Nat.le_of_eq rfl) (k' := 12) rfl (n' := 32) rfl (by decide) (by decide) rfl ?_
      intro r30 h31 Q31 O31
      obtain ⟨x32, rfl, E31, S31⟩ := Q31
      refine Ww.astore (pc' := 93) C at_91 rfl (Ls' := #[.val (.int p0), .val (.int p1), .val (.int p2), .val (.int p3), .val (.int p4), .val (.int p5), .val (.int (0 : Int32)), .val (.int (0 : Int32)), .val (.int v15), .val (.int v17), .val (.int v19), .val (.int v21), .val (.int v23), .val (.int v26), .val (.ref x29), .val (.ref x32), .unset, .unset, .unset]) rfl rfl ?_
      refine Ww.iload (pc' := 95) C at_93 rfl rfl ?_
      refine Ww.iconst (pc' := 96) C at_95 (v := (1 : Int32)) rfl rfl ?_
      refine Ww.iadd (pc' := 97) C at_96 (v := (1 : Int32)) (by decide) rfl ?_
      refine Ww.iload (pc' := 99) C at_97 rfl rfl ?_
      refine Ww.iadd (pc' := 100) C at_99 (v := (1 : Int32)) (by decide) rfl ?_
      refine Ww.newA (pc' := 102) C at_100 (ty := .char) rfl (w7 hw) (by decide) (cap := 1) (by decide) (by decide) (k' := 13) rfl (n' := 33) rfl (by decide) (by decide) rfl rfl ?_
      intro a33 h34 ga33 za33 E34 Va33 O34
      have V35 : Wk.Ary Z h34 a33 .char [(.int (0 : Int32))] := Va33
      refine Ww.astore (pc' := 104) C at_102 rfl (Ls' := #[.val (.int p0), .val (.int p1), .val (.int p2), .val (.int p3), .val (.int p4), .val (.int p5), .val (.int (0 : Int32)), .val (.int (0 : Int32)), .val (.int v15), .val (.int v17), .val (.int v19), .val (.int v21), .val (.int v23), .val (.int v26), .val (.ref x29), .val (.ref x32), .val (.ref a33), .unset, .unset]) rfl rfl ?_
      refine Ww.iload (pc' := 106) C at_104 rfl rfl ?_
      refine Ww.if_le C at_106 (by decide) (pcT := 115) (by decide) (pc' := 109) rfl (fun q36 => ?_) (fun q => absurd q (by decide))
      refine Ww.iload (pc' := 117) C at_115 rfl rfl ?_
      refine Ww.iconst (pc' := 118) C at_117 (v := (1 : Int32)) rfl rfl ?_
      refine Ww.icmp_le C at_118 (by decide) (pcT := 127) (by decide) (pc' := 121) rfl (fun q37 => ?_) (fun q => absurd q (by decide))
      refine Ww.iload (pc' := 129) C at_127 rfl rfl ?_
      refine Ww.iconst (pc' := 130) C at_129 (v := (2 : Int32)) rfl rfl ?_
      refine Ww.icmp_le C at_130 (by decide) (pcT := 139) (by decide) (pc' := 133) rfl (fun q38 => ?_) (fun q => absurd q (by decide))
      refine Ww.aload (pc' := 141) C at_139 rfl rfl rfl ?_
      refine Ww.iload (pc' := 143) C at_141 rfl rfl ?_
      refine Ww.bipush (pc' := 145) C at_143 (v := (46 : Int32)) rfl rfl ?_
      refine Ww.castore (pc' := 146) C at_145 V35 (by decide) (show _ < _ from Nat.le_of_ble_eq_true rfl) (by decide) (vs' := [(.int (46 : Int32))]) rfl za33 (List.mem_of_getElem? (i := 0) rfl) rfl ?_
      intro h39 W39 V39 O39
      refine Ww.iload (pc' := 148) C at_146 rfl rfl ?_
      refine Ww.if_le C at_148 (by decide) (pcT := 160) (by decide) (pc' := 151) rfl (fun q40 => ?_) (fun q => absurd q (by decide))
      refine Ww.iload (pc' := 162) C at_160 rfl rfl ?_
      refine Ww.iconst (pc' := 163) C at_162 (v := (1 : Int32)) rfl rfl ?_
      refine Ww.icmp_le C at_163 (by decide) (pcT := 175) (by decide) (pc' := 166) rfl (fun q41 => ?_) (fun q => absurd q (by decide))
      refine Ww.iload (pc' := 177) C at_175 rfl rfl ?_
      refine Ww.iconst (pc' := 178) C at_177 (v := (2 : Int32)) rfl rfl ?_
      refine Ww.icmp_le C at_178 (by decide) (pcT := 190) (by decide) (pc' := 181) rfl (fun q42 => ?_) (fun q => absurd q (by decide))
      refine Ww.newO (pc' := 193) C at_190 (w4 hw) (w5 hw) (w6 hw) (k' := 14) rfl (n' := 37) rfl (by decide) (by decide) rfl ?_
      intro a43 h44 ga43 za43 E44 Aa43 Da43 Ua43 O44
      have F45 : Fld Z h44 a43 "java/lang/String" "coder" "B" (.int (0 : Int32)) := Da43 (Or.inr (w31 hw)) (ty := .byte) (by decide)
      have F46 : Fld Z h44 a43 "java/lang/String" "value" "[B" .null := Da43 (Or.inr (w33 hw)) (ty := (.array .byte)) (by decide)
      refine Ww.dup (pc' := 194) C at_193 rfl rfl ?_
      refine Ww.aload (pc' := 196) C at_194 rfl rfl rfl ?_
      have hp47 : ∀ c ∈ ([(46 : Int32)] : List Int32), ¬ c < 0 ∧ ¬ (255 : Int32) < c := (List.forall_mem_cons.mpr ⟨⟨by decide, by decide⟩, (fun _ h => nomatch h)⟩)
      refine Ww.callI (pc' := 199) C at_196 (a := a43) (fun vm0 C => (strNew C hw hs O44 (cs := [(46 : Int32)]) (n := 1) (Wn := 1) za43 Aa43 F46 F45 (V39.ext E44) rfl (by decide) (by decide) hp47 (by decide) (by decide))) (strNewC (n := 1) O44 za43 rfl (by decide) hp47) (fun v h' q => Or.inr (Or.inr ⟨[a43], allS (List.mem_of_getElem? (i := 0) rfl) all0, q.2.1⟩)) rfl (w8 hw) (w9 hw) (w10 hw) (by decide) (argsL := [(.ref a33)]) (st := [(.ref a43)]) rfl rfl (lenOf pd15 rfl) rfl (Nat.le_of_eq rfl) (k' := 15) rfl (n' := 38) rfl (by decide) (by decide) rfl ?_
      intro r48 h49 Q49 O49
      obtain ⟨rfl, Kh49, Sh49⟩ := Q49
      refine Ww.astore (pc' := 201) C at_199 rfl (Ls' := #[.val (.int p0), .val (.int p1), .val (.int p2), .val (.int p3), .val (.int p4), .val (.int p5), .val (.int (0 : Int32)), .val (.int (0 : Int32)), .val (.int v15), .val (.int v17), .val (.int v19), .val (.int v21), .val (.int v23), .val (.int v26), .val (.ref x29), .val (.ref x32), .val (.ref a33), .val (.ref a43), .unset]) rfl rfl ?_
      refine Ww.newO (pc' := 204) C at_201 (w37 hw) (w38 hw) (w39 hw) (k' := 16) rfl (n' := 40) rfl (by decide) (by decide) rfl ?_
      intro a50 h51 ga50 za50 E51 Aa50 Da50 Ua50 O51
      have F52 : Fld Z h51 a50 "com/example/isomorph/isomorph/MethodName" "className" "Ljava/lang/String;" .null := Da50 (Or.inr (w50 hw)) (ty := (.object "java/lang/String")) (by decide)
      have F53 : Fld Z h51 a50 "com/example/isomorph/isomorph/MethodName" "methodName" "Ljava/lang/String;" .null := Da50 (Or.inr (w52 hw)) (ty := (.object "java/lang/String")) (by decide)
      refine Ww.dup (pc' := 205) C at_204 rfl rfl ?_
      refine Ww.aload (pc' := 207) C at_205 rfl rfl rfl ?_
      refine Ww.aload (pc' := 209) C at_207 rfl rfl rfl ?_
      refine Ww.callI (pc' := 212) C at_209 (a := a50) (fun vm0 C => (Wk.Con.pays C (Wn := 1) (own_mnInit l hw O51 a50 x29 x32 za50 Aa50 F52 F53) (w42 hw) (w39 hw) (by decide) (by decide))) Wk.cleanC (fun v h' q => Or.inr (Or.inr ⟨[a50], allS (List.mem_of_getElem? (i := 0) rfl) all0, q.2.1⟩)) rfl (w40 hw) (w41 hw) (w42 hw) (by decide) (argsL := [(.ref x29), (.ref x32)]) (st := [(.ref a50)]) rfl rfl (lenOf pd20 rfl) rfl (Nat.le_of_eq rfl) (k' := 16) rfl (n' := 40) rfl (by decide) (by decide) rfl ?_
      intro r54 h55 Q55 O55
      obtain ⟨rfl, K55, A55, P55, T55⟩ := Q55
      have X56 : Ext h28 h34 := Wk.Ext.trans E31 E34
      have X57 : Ext h28 h39 := Wk.Ext.wr (Z := Z) X56 W39 (Nat.le_trans E31.1 (Nat.le_of_eq ga33.symm))
      have X58 : Ext h28 h44 := Wk.Ext.trans X57 E44
      have X59 : Ext h28 h49 := Wk.Ext.keep1 (Z := Z) X58 Kh49 (Nat.le_trans X57.1 (Nat.le_of_eq ga43.symm))
      have X60 : Ext h28 h51 := Wk.Ext.trans X59 E51
      have X61 : Ext h28 h55 := Wk.Ext.keep1 (Z := Z) X60 K55 (Nat.le_trans X59.1 (Nat.le_of_eq ga50.symm))
      have X62 : Ext h31 h39 := Wk.Ext.wr (Z := Z) E34 W39 (Nat.le_of_eq ga33.symm)
      have X63 : Ext h31 h44 := Wk.Ext.trans X62 E44
      have X64 : Ext h31 h49 := Wk.Ext.keep1 (Z := Z) X63 Kh49 (Nat.le_trans X62.1 (Nat.le_of_eq ga43.symm))
      have X65 : Ext h31 h51 := Wk.Ext.trans X64 E51
      have X66 : Ext h31 h55 := Wk.Ext.keep1 (Z := Z) X65 K55 (Nat.le_trans X64.1 (Nat.le_of_eq ga50.symm))
      refine Ww.callVS (pc' := 215) C at_212 (a := a50) (Ww.Con.pays hE (Wn := 0) (own_mnTo l hw hE O55 hs a50 x29 x32 ([] : List Int32) ([] : List Int32) P55 T55 (S28.ext X61) (S31.ext X66) (show _ ≤ 3 from Nat.le_of_ble_eq_true rfl) (show _ ≤ 3 from Nat.le_of_ble_eq_true rfl)) (w57 hw) (w39 hw) (by decide) (by decide)) Wk.cleanC A55 (w53 hw) (w54 hw) (fun vm0 hZ0 => notFace_of_selects (args := #[]) (mvT (s := W.s.setVm vm0) hZ0 (w56 hw))) (w56 hw) (w55 hw) (by decide) (argsL := []) (st := []) rfl rfl (lenOf pd18 rfl) rfl (Nat.le_of_eq rfl) (k' := 22) rfl (n' := 104) rfl (by decide) (by decide) rfl ?_
      intro r67 h68 Q68 O68
      obtain ⟨x69, rfl, E68, S68⟩ := Q68
      refine Ww.astore (pc' := 217) C at_215 rfl (Ls' := #[.val (.int p0), .val (.int p1), .val (.int p2), .val (.int p3), .val (.int p4), .val (.int p5), .val (.int (0 : Int32)), .val (.int (0 : Int32)), .val (.int v15), .val (.int v17), .val (.int v19), .val (.int v21), .val (.int v23), .val (.int v26), .val (.ref x29), .val (.ref x32), .val (.ref a33), .val (.ref a43), .val (.ref x69)]) rfl rfl ?_
      refine Ww.aload (pc' := 219) C at_217 rfl rfl rfl ?_
      refine Ww.aload (pc' := 221) C at_219 rfl rfl rfl ?_
      have X70 : Ext h49 h55 := Wk.Ext.keep1 (Z := Z) E51 K55 (Nat.le_of_eq ga50.symm)
      have X71 : Ext h49 h68 := Wk.Ext.trans X70 E68
      refine Ww.callV (pc' := 224) C at_221 (a := x69) (fun vm0 C => (strEq C hw hs O68 (Wn := 0) S68 (Sh49.ext X71) (by decide) (by decide))) (pureC (P := fun v => (v = some (.int 1) ∧ ((([] ++ ([] : List Int32)) ++ [46]) ++ ([] : List Int32) : List Int32) = [(46 : Int32)]) ∨ (v = some (.int 0) ∧ ¬ ((([] ++ ([] : List Int32)) ++ [46]) ++ ([] : List Int32) : List Int32) = [(46 : Int32)])) O68) (fun v h' q => Or.inl q.2) S68.exa (w169 hw) (w170 hw) (fun vm0 hZ0 => notFace_of_selects (args := #[]) (mvT (s := W.s.setVm vm0) hZ0 (w172 hw))) (w172 hw) (w171 hw) (by decide) (argsL := [(.ref a43)]) (st := []) rfl rfl (lenOf pd21 rfl) rfl (Nat.le_of_eq rfl) (k' := 22) rfl (n' := 104) rfl (by decide) (by decide) rfl ?_
      intro r72 h73 Q73 O73
      obtain ⟨q75, e74⟩ := Q73
      obtain rfl := e74.symm
      rcases q75 with ⟨rfl, q75⟩ | ⟨rfl, q75⟩
      · -- equal: True
        exact Ww.retNar (ty := .boolean) C hE (by simp) at_224 rfl (by decide) (by decide) rfl
      · -- equal: False
        exact absurd rfl q75
    · -- 1
      refine Ww.iload (pc' := 69) C at_67 rfl rfl ?_
      refine Ww.iload (pc' := 71) C at_69 rfl rfl ?_
      refine Ww.iload (pc' := 73) C at_71 rfl rfl ?_
      refine Ww.iload (pc' := 75) C at_73 rfl rfl ?_
      refine Ww.callSS (pc' := 78) C at_75 (Ww.Con.pays hE (Wn := 0) (own_str0 l hw hE O0 hs v15 v17 v19 (Wk.rng255 hv14 hv15) (Wk.rng255 hv16 hv17) (Wk.rng255 hv18 hv19)) (w3 hw) (w2 hw) (by decide) (by decide)) Wk.cleanC (w0 hw) (w1 hw) (w2 hw) (w3 hw) (by decide) (argsL := [(.int (0 : Int32)), (.int v15), (.int v17), (.int v19)]) (st := []) rfl rfl (lenOf pd19 rfl) rfl (Nat.le_of_eq rfl) (k' := 6) rfl (n' := 16) rfl (by decide) (by decide) rfl ?_
      intro r76 h77 Q77 O77
      obtain ⟨x78, rfl, E77, S77⟩ := Q77
      refine Ww.astore (pc' := 80) C at_78 rfl (Ls' := #[.val (.int p0), .val (.int p1), .val (.int p2), .val (.int p3), .val (.int p4), .val (.int p5), .val (.int (0 : Int32)), .val (.int (1 : Int32)), .val (.int v15), .val (.int v17), .val (.int v19), .val (.int v21), .val (.int v23), .val (.int v26), .val (.ref x78), .unset, .unset, .unset, .unset]) rfl rfl ?_
      refine Ww.iload (pc' := 82) C at_80 rfl rfl ?_
      refine Ww.iload (pc' := 84) C at_82 rfl rfl ?_
      refine Ww.iload (pc' := 86) C at_84 rfl rfl ?_
      refine Ww.iload (pc' := 88) C at_86 rfl rfl ?_
      refine Ww.callSS (pc' := 91) C at_88 (Ww.Con.pays hE (Wn := 0) (own_str1 l hw hE O77 hs v21 v23 v26 (Wk.rng255 hv20 hv21) (Wk.rng255 hv22 hv23) (Wk.rng255 hv25 hv26)) (w3 hw) (w2 hw) (by decide) (by decide)) Wk.cleanC (w0 hw) (w1 hw) (w2 hw) (w3 hw) (by decide) (argsL := [(.int (1 : Int32)), (.int v21), (.int v23), (.int v26)]) (st := []) rfl rfl (lenOf pd19 rfl) rfl (Nat.le_of_eq rfl) (k' := 12) rfl (n' := 32) rfl (by decide) (by decide) rfl ?_
      intro r79 h80 Q80 O80
      obtain ⟨x81, rfl, E80, S80⟩ := Q80
      refine Ww.astore (pc' := 93) C at_91 rfl (Ls' := #[.val (.int p0), .val (.int p1), .val (.int p2), .val (.int p3), .val (.int p4), .val (.int p5), .val (.int (0 : Int32)), .val (.int (1 : Int32)), .val (.int v15), .val (.int v17), .val (.int v19), .val (.int v21), .val (.int v23), .val (.int v26), .val (.ref x78), .val (.ref x81), .unset, .unset, .unset]) rfl rfl ?_
      refine Ww.iload (pc' := 95) C at_93 rfl rfl ?_
      refine Ww.iconst (pc' := 96) C at_95 (v := (1 : Int32)) rfl rfl ?_
      refine Ww.iadd (pc' := 97) C at_96 (v := (1 : Int32)) (by decide) rfl ?_
      refine Ww.iload (pc' := 99) C at_97 rfl rfl ?_
      refine Ww.iadd (pc' := 100) C at_99 (v := (2 : Int32)) (by decide) rfl ?_
      refine Ww.newA (pc' := 102) C at_100 (ty := .char) rfl (w7 hw) (by decide) (cap := 2) (by decide) (by decide) (k' := 13) rfl (n' := 34) rfl (by decide) (by decide) rfl rfl ?_
      intro a82 h83 ga82 za82 E83 Va82 O83
      have V84 : Wk.Ary Z h83 a82 .char [(.int (0 : Int32)), (.int (0 : Int32))] := Va82
      refine Ww.astore (pc' := 104) C at_102 rfl (Ls' := #[.val (.int p0), .val (.int p1), .val (.int p2), .val (.int p3), .val (.int p4), .val (.int p5), .val (.int (0 : Int32)), .val (.int (1 : Int32)), .val (.int v15), .val (.int v17), .val (.int v19), .val (.int v21), .val (.int v23), .val (.int v26), .val (.ref x78), .val (.ref x81), .val (.ref a82), .unset, .unset]) rfl rfl ?_
      refine Ww.iload (pc' := 106) C at_104 rfl rfl ?_
      refine Ww.if_le C at_106 (by decide) (pcT := 115) (by decide) (pc' := 109) rfl (fun q85 => ?_) (fun q => absurd q (by decide))
      refine Ww.iload (pc' := 117) C at_115 rfl rfl ?_
      refine Ww.iconst (pc' := 118) C at_117 (v := (1 : Int32)) rfl rfl ?_
      refine Ww.icmp_le C at_118 (by decide) (pcT := 127) (by decide) (pc' := 121) rfl (fun q86 => ?_) (fun q => absurd q (by decide))
      refine Ww.iload (pc' := 129) C at_127 rfl rfl ?_
      refine Ww.iconst (pc' := 130) C at_129 (v := (2 : Int32)) rfl rfl ?_
      refine Ww.icmp_le C at_130 (by decide) (pcT := 139) (by decide) (pc' := 133) rfl (fun q87 => ?_) (fun q => absurd q (by decide))
      refine Ww.aload (pc' := 141) C at_139 rfl rfl rfl ?_
      refine Ww.iload (pc' := 143) C at_141 rfl rfl ?_
      refine Ww.bipush (pc' := 145) C at_143 (v := (46 : Int32)) rfl rfl ?_
      refine Ww.castore (pc' := 146) C at_145 V84 (by decide) (show _ < _ from Nat.le_of_ble_eq_true rfl) (by decide) (vs' := [(.int (46 : Int32)), (.int (0 : Int32))]) rfl za82 (List.mem_of_getElem? (i := 0) rfl) rfl ?_
      intro h88 W88 V88 O88
      refine Ww.iload (pc' := 148) C at_146 rfl rfl ?_
      refine Ww.if_le C at_148 (by decide) (pcT := 160) (by decide) (pc' := 151) rfl (fun q => absurd q (by decide)) (fun q89 => ?_)
      refine Ww.aload (pc' := 153) C at_151 rfl rfl rfl ?_
      refine Ww.iload (pc' := 155) C at_153 rfl rfl ?_
      refine Ww.iconst (pc' := 156) C at_155 (v := (1 : Int32)) rfl rfl ?_
      refine Ww.iadd (pc' := 157) C at_156 (v := (1 : Int32)) (by decide) rfl ?_
      refine Ww.iload (pc' := 159) C at_157 rfl rfl ?_
      refine Ww.castore (pc' := 160) C at_159 V88 (by decide) (show _ < _ from Nat.le_of_ble_eq_true rfl) (Wk.nar_i2c hv21) (vs' := [(.int (46 : Int32)), (.int v21)]) rfl za82 (List.mem_of_getElem? (i := 0) rfl) rfl ?_
      intro h90 W90 V90 O90
      refine Ww.iload (pc' := 162) C at_160 rfl rfl ?_
      refine Ww.iconst (pc' := 163) C at_162 (v := (1 : Int32)) rfl rfl ?_
      refine Ww.icmp_le C at_163 (by decide) (pcT := 175) (by decide) (pc' := 166) rfl (fun q91 => ?_) (fun q => absurd q (by decide))
      refine Ww.iload (pc' := 177) C at_175 rfl rfl ?_
      refine Ww.iconst (pc' := 178) C at_177 (v := (2 : Int32)) rfl rfl ?_
      refine Ww.icmp_le C at_178 (by decide) (pcT := 190) (by decide) (pc' := 181) rfl (fun q92 => ?_) (fun q => absurd q (by decide))
      refine Ww.newO (pc' := 193) C at_190 (w4 hw) (w5 hw) (w6 hw) (k' := 14) rfl (n' := 38) rfl (by decide) (by decide) rfl ?_
      intro a93 h94 ga93 za93 E94 Aa93 Da93 Ua93 O94
      have F95 : Fld Z h94 a93 "java/lang/String" "coder" "B" (.int (0 : Int32)) := Da93 (Or.inr (w31 hw)) (ty := .byte) (by decide)
      have F96 : Fld Z h94 a93 "java/lang/String" "value" "[B" .null := Da93 (Or.inr (w33 hw)) (ty := (.array .byte)) (by decide)
      refine Ww.dup (pc' := 194) C at_193 rfl rfl ?_
      refine Ww.aload (pc' := 196) C at_194 rfl rfl rfl ?_
      have hp97 : ∀ c ∈ ([(46 : Int32), v21] : List Int32), ¬ c < 0 ∧ ¬ (255 : Int32) < c := (List.forall_mem_cons.mpr ⟨⟨by decide, by decide⟩, (List.forall_mem_cons.mpr ⟨(Wk.rng255 hv20 hv21), (fun _ h => nomatch h)⟩)⟩)
      refine Ww.callI (pc' := 199) C at_196 (a := a93) (fun vm0 C => (strNew C hw hs O94 (cs := [(46 : Int32), v21]) (n := 2) (Wn := 1) za93 Aa93 F96 F95 (V90.ext E94) rfl (by decide) (by decide) hp97 (by decide) (by decide))) (strNewC (n := 2) O94 za93 rfl (by decide) hp97) (fun v h' q => Or.inr (Or.inr ⟨[a93], allS (List.mem_of_getElem? (i := 0) rfl) all0, q.2.1⟩)) rfl (w8 hw) (w9 hw) (w10 hw) (by decide) (argsL := [(.ref a82)]) (st := [(.ref a93)]) rfl rfl (lenOf pd15 rfl) rfl (Nat.le_of_eq rfl) (k' := 15) rfl (n' := 40) rfl (by decide) (by decide) rfl ?_
      intro r98 h99 Q99 O99
      obtain ⟨rfl, Kh99, Sh99⟩ := Q99
      refine Ww.astore (pc' := 201) C at_199 rfl (Ls' := #[.val (.int p0), .val (.int p1), .val (.int p2), .val (.int p3), .val (.int p4), .val (.int p5), .val (.int (0 : Int32)), .val (.int (1 : Int32)), .val (.int v15), .val (.int v17), .val (.int v19), .val (.int v21), .val (.int v23), .val (.int v26), .val (.ref x78), .val (.ref x81), .val (.ref a82), .val (.ref a93), .unset]) rfl rfl ?_
      refine Ww.newO (pc' := 204) C at_201 (w37 hw) (w38 hw) (w39 hw) (k' := 16) rfl (n' := 42) rfl (by decide) (by decide) rfl ?_
      intro a100 h101 ga100 za100 E101 Aa100 Da100 Ua100 O101
      have F102 : Fld Z h101 a100 "com/example/isomorph/isomorph/MethodName" "className" "Ljava/lang/String;" .null := Da100 (Or.inr (w50 hw)) (ty := (.object "java/lang/String")) (by decide)
      have F103 : Fld Z h101 a100 "com/example/isomorph/isomorph/MethodName" "methodName" "Ljava/lang/String;" .null := Da100 (Or.inr (w52 hw)) (ty := (.object "java/lang/String")) (by decide)
      refine Ww.dup (pc' := 205) C at_204 rfl rfl ?_
      refine Ww.aload (pc' := 207) C at_205 rfl rfl rfl ?_
      refine Ww.aload (pc' := 209) C at_207 rfl rfl rfl ?_
      refine Ww.callI (pc' := 212) C at_209 (a := a100) (fun vm0 C => (Wk.Con.pays C (Wn := 1) (own_mnInit l hw O101 a100 x78 x81 za100 Aa100 F102 F103) (w42 hw) (w39 hw) (by decide) (by decide))) Wk.cleanC (fun v h' q => Or.inr (Or.inr ⟨[a100], allS (List.mem_of_getElem? (i := 0) rfl) all0, q.2.1⟩)) rfl (w40 hw) (w41 hw) (w42 hw) (by decide) (argsL := [(.ref x78), (.ref x81)]) (st := [(.ref a100)]) rfl rfl (lenOf pd20 rfl) rfl (Nat.le_of_eq rfl) (k' := 16) rfl (n' := 42) rfl (by decide) (by decide) rfl ?_
      intro r104 h105 Q105 O105
      obtain ⟨rfl, K105, A105, P105, T105⟩ := Q105
      have X106 : Ext h77 h83 := Wk.Ext.trans E80 E83
      have X107 : Ext h77 h88 := Wk.Ext.wr (Z := Z) X106 W88 (Nat.le_trans E80.1 (Nat.le_of_eq ga82.symm))
      have X108 : Ext h77 h90 := Wk.Ext.wr (Z := Z) X107 W90 (Nat.le_trans E80.1 (Nat.le_of_eq ga82.symm))
      have X109 : Ext h77 h94 := Wk.Ext.trans X108 E94
      have X110 : Ext h77 h99 := Wk.Ext.keep1 (Z := Z) X109 Kh99 (Nat.le_trans X108.1 (Nat.le_of_eq ga93.symm))
      have X111 : Ext h77 h101 := Wk.Ext.trans X110 E101
      have X112 : Ext h77 h105 := Wk.Ext.keep1 (Z := Z) X111 K105 (Nat.le_trans X110.1 (Nat.le_of_eq ga100.symm))
      have X113 : Ext h80 h88 := Wk.Ext.wr (Z := Z) E83 W88 (Nat.le_of_eq ga82.symm)
      have X114 : Ext h80 h90 := Wk.Ext.wr (Z := Z) X113 W90 (Nat.le_of_eq ga82.symm)
      have X115 : Ext h80 h94 := Wk.Ext.trans X114 E94
      have X116 : Ext h80 h99 := Wk.Ext.keep1 (Z := Z) X115 Kh99 (Nat.le_trans X114.1 (Nat.le_of_eq ga93.symm))
      have X117 : Ext h80 h101 := Wk.Ext.trans X116 E101
      have X118 : Ext h80 h105 := Wk.Ext.keep1 (Z := Z) X117 K105 (Nat.le_trans X116.1 (Nat.le_of_eq ga100.symm))
      refine Ww.callVS (pc' := 215) C at_212 (a := a100) (Ww.Con.pays hE (Wn := 0) (own_mnTo l hw hE O105 hs a100 x78 x81 ([] : List Int32) ([v21] : List Int32) P105 T105 (S77.ext X112) (S80.ext X118) (show _ ≤ 3 from Nat.le_of_ble_eq_true rfl) (show _ ≤ 3 from Nat.le_of_ble_eq_true rfl)) (w57 hw) (w39 hw) (by decide) (by decide)) Wk.cleanC A105 (w53 hw) (w54 hw) (fun vm0 hZ0 => notFace_of_selects (args := #[]) (mvT (s := W.s.setVm vm0) hZ0 (w56 hw))) (w56 hw) (w55 hw) (by decide) (argsL := []) (st := []) rfl rfl (lenOf pd18 rfl) rfl (Nat.le_of_eq rfl) (k' := 22) rfl (n' := 106) rfl (by decide) (by decide) rfl ?_
      intro r119 h120 Q120 O120
      obtain ⟨x121, rfl, E120, S120⟩ := Q120
      refine Ww.astore (pc' := 217) C at_215 rfl (Ls' := #[.val (.int p0), .val (.int p1), .val (.int p2), .val (.int p3), .val (.int p4), .val (.int p5), .val (.int (0 : Int32)), .val (.int (1 : Int32)), .val (.int v15), .val (.int v17), .val (.int v19), .val (.int v21), .val (.int v23), .val (.int v26), .val (.ref x78), .val (.ref x81), .val (.ref a82), .val (.ref a93), .val (.ref x121)]) rfl rfl ?_
      refine Ww.aload (pc' := 219) C at_217 rfl rfl rfl ?_
      refine Ww.aload (pc' := 221) C at_219 rfl rfl rfl ?_
      have X122 : Ext h99 h105 := Wk.Ext.keep1 (Z := Z) E101 K105 (Nat.le_of_eq ga100.symm)
      have X123 : Ext h99 h120 := Wk.Ext.trans X122 E120
      refine Ww.callV (pc' := 224) C at_221 (a := x121) (fun vm0 C => (strEq C hw hs O120 (Wn := 0) S120 (Sh99.ext X123) (by decide) (by decide))) (pureC (P := fun v => (v = some (.int 1) ∧ ((([] ++ ([] : List Int32)) ++ [46]) ++ ([v21] : List Int32) : List Int32) = [(46 : Int32), v21]) ∨ (v = some (.int 0) ∧ ¬ ((([] ++ ([] : List Int32)) ++ [46]) ++ ([v21] : List Int32) : List Int32) = [(46 : Int32), v21])) O120) (fun v h' q => Or.inl q.2) S120.exa (w169 hw) (w170 hw) (fun vm0 hZ0 => notFace_of_selects (args := #[]) (mvT (s := W.s.setVm vm0) hZ0 (w172 hw))) (w172 hw) (w171 hw) (by decide) (argsL := [(.ref a93)]) (st := []) rfl rfl (lenOf pd21 rfl) rfl (Nat.le_of_eq rfl) (k' := 22) rfl (n' := 106) rfl (by decide) (by decide) rfl ?_
      intro r124 h125 Q125 O125
      obtain ⟨q127, e126⟩ := Q125
      obtain rfl := e126.symm
      rcases q127 with ⟨rfl, q127⟩ | ⟨rfl, q127⟩
      · -- equal: True
        exact Ww.retNar (ty := .boolean) C hE (by simp) at_224 rfl (by decide) (by decide) rfl
      · -- equal: False
        exact absurd rfl q127
    · -- 2
      refine Ww.iload (pc' := 69) C at_67 rfl rfl ?_
      refine Ww.iload (pc' := 71) C at_69 rfl rfl ?_
      refine Ww.iload (pc' := 73) C at_71 rfl rfl ?_
      refine Ww.iload (pc' := 75) C at_73 rfl rfl ?_
      refine Ww.callSS (pc' := 78) C at_75 (Ww.Con.pays hE (Wn := 0) (own_str0 l hw hE O0 hs v15 v17 v19 (Wk.rng255 hv14 hv15) (Wk.rng255 hv16 hv17) (Wk.rng255 hv18 hv19)) (w3 hw) (w2 hw) (by decide) (by decide)) Wk.cleanC (w0 hw) (w1 hw) (w2 hw) (w3 hw) (by decide) (argsL := [(.int (0 : Int32)), (.int v15), (.int v17), (.int v19)]) (st := []) rfl rfl (lenOf pd19 rfl) rfl (Nat.le_of_eq rfl) (k' := 6) rfl (n' := 16) rfl (by decide) (by decide) rfl ?_
      intro r128 h129 Q129 O129
      obtain ⟨x130, rfl, E129, S129⟩ := Q129
      refine Ww.astore (pc' := 80) C at_78 rfl (Ls' := #[.val (.int p0), .val (.int p1), .val (.int p2), .val (.int p3), .val (.int p4), .val (.int p5), .val (.int (0 : Int32)), .val (.int (2 : Int32)), .val (.int v15), .val (.int v17), .val (.int v19), .val (.int v21), .val (.int v23), .val (.int v26), .val (.ref x130), .unset, .unset, .unset, .unset]) rfl rfl ?_
      refine Ww.iload (pc' := 82) C at_80 rfl rfl ?_
      refine Ww.iload (pc' := 84) C at_82 rfl rfl ?_
      refine Ww.iload (pc' := 86) C at_84 rfl rfl ?_
      refine Ww.iload (pc' := 88) C at_86 rfl rfl ?_
      refine Ww.callSS (pc' := 91) C at_88 (Ww.Con.pays hE (Wn := 0) (own_str2 l hw hE O129 hs v21 v23 v26 (Wk.rng255 hv20 hv21) (Wk.rng255 hv22 hv23) (Wk.rng255 hv25 hv26)) (w3 hw) (w2 hw) (by decide) (by decide)) Wk.cleanC (w0 hw) (w1 hw) (w2 hw) (w3 hw) (by decide) (argsL := [(.int (2 : Int32)), (.int v21), (.int v23), (.int v26)]) (st := []) rfl rfl (lenOf pd19 rfl) rfl (Nat.le_of_eq rfl) (k' := 12) rfl (n' := 32) rfl (by decide) (by decide) rfl ?_
      intro r131 h132 Q132 O132
      obtain ⟨x133, rfl, E132, S132⟩ := Q132
      refine Ww.astore (pc' := 93) C at_91 rfl (Ls' := #[.val (.int p0), .val (.int p1), .val (.int p2), .val (.int p3), .val (.int p4), .val (.int p5), .val (.int (0 : Int32)), .val (.int (2 : Int32)), .val (.int v15), .val (.int v17), .val (.int v19), .val (.int v21), .val (.int v23), .val (.int v26), .val (.ref x130), .val (.ref x133), .unset, .unset, .unset]) rfl rfl ?_
      refine Ww.iload (pc' := 95) C at_93 rfl rfl ?_
      refine Ww.iconst (pc' := 96) C at_95 (v := (1 : Int32)) rfl rfl ?_
      refine Ww.iadd (pc' := 97) C at_96 (v := (1 : Int32)) (by decide) rfl ?_
      refine Ww.iload (pc' := 99) C at_97 rfl rfl ?_
      refine Ww.iadd (pc' := 100) C at_99 (v := (3 : Int32)) (by decide) rfl ?_
      refine Ww.newA (pc' := 102) C at_100 (ty := .char) rfl (w7 hw) (by decide) (cap := 3) (by decide) (by decide) (k' := 13) rfl (n' := 35) rfl (by decide) (by decide) rfl rfl ?_
      intro a134 h135 ga134 za134 E135 Va134 O135
      have V136 : Wk.Ary Z h135 a134 .char [(.int (0 : Int32)), (.int (0 : Int32)), (.int (0 : Int32))] := Va134
      refine Ww.astore (pc' := 104) C at_102 rfl (Ls' := #[.val (.int p0), .val (.int p1), .val (.int p2), .val (.int p3), .val (.int p4), .val (.int p5), .val (.int (0 : Int32)), .val (.int (2 : Int32)), .val (.int v15), .val (.int v17), .val (.int v19), .val (.int v21), .val (.int v23), .val (.int v26), .val (.ref x130), .val (.ref x133), .val (.ref a134), .unset, .unset]) rfl rfl ?_
      refine Ww.iload (pc' := 106) C at_104 rfl rfl ?_
      refine Ww.if_le C at_106 (by decide) (pcT := 115) (by decide) (pc' := 109) rfl (fun q137 => ?_) (fun q => absurd q (by decide))
      refine Ww.iload (pc' := 117) C at_115 rfl rfl ?_
      refine Ww.iconst (pc' := 118) C at_117 (v := (1 : Int32)) rfl rfl ?_
      refine Ww.icmp_le C at_118 (by decide) (pcT := 127) (by decide) (pc' := 121) rfl (fun q138 => ?_) (fun q => absurd q (by decide))
      refine Ww.iload (pc' := 129) C at_127 rfl rfl ?_
      refine Ww.iconst (pc' := 130) C at_129 (v := (2 : Int32)) rfl rfl ?_
      refine Ww.icmp_le C at_130 (by decide) (pcT := 139) (by decide) (pc' := 133) rfl (fun q139 => ?_) (fun q => absurd q (by decide))
      refine Ww.aload (pc' := 141) C at_139 rfl rfl rfl ?_
      refine Ww.iload (pc' := 143) C at_141 rfl rfl ?_
      refine Ww.bipush (pc' := 145) C at_143 (v := (46 : Int32)) rfl rfl ?_
      refine Ww.castore (pc' := 146) C at_145 V136 (by decide) (show _ < _ from Nat.le_of_ble_eq_true rfl) (by decide) (vs' := [(.int (46 : Int32)), (.int (0 : Int32)), (.int (0 : Int32))]) rfl za134 (List.mem_of_getElem? (i := 0) rfl) rfl ?_
      intro h140 W140 V140 O140
      refine Ww.iload (pc' := 148) C at_146 rfl rfl ?_
      refine Ww.if_le C at_148 (by decide) (pcT := 160) (by decide) (pc' := 151) rfl (fun q => absurd q (by decide)) (fun q141 => ?_)
      refine Ww.aload (pc' := 153) C at_151 rfl rfl rfl ?_
      refine Ww.iload (pc' := 155) C at_153 rfl rfl ?_
      refine Ww.iconst (pc' := 156) C at_155 (v := (1 : Int32)) rfl rfl ?_
      refine Ww.iadd (pc' := 157) C at_156 (v := (1 : Int32)) (by decide) rfl ?_
      refine Ww.iload (pc' := 159) C at_157 rfl rfl ?_
      refine Ww.castore (pc' := 160) C at_159 V140 (by decide) (show _ < _ from Nat.le_of_ble_eq_true rfl) (Wk.nar_i2c hv21) (vs' := [(.int (46 : Int32)), (.int v21), (.int (0 : Int32))]) rfl za134 (List.mem_of_getElem? (i := 0) rfl) rfl ?_
      intro h142 W142 V142 O142
      refine Ww.iload (pc' := 162) C at_160 rfl rfl ?_
      refine Ww.iconst (pc' := 163) C at_162 (v := (1 : Int32)) rfl rfl ?_
      refine Ww.icmp_le C at_163 (by decide) (pcT := 175) (by decide) (pc' := 166) rfl (fun q => absurd q (by decide)) (fun q143 => ?_)
      refine Ww.aload (pc' := 168) C at_166 rfl rfl rfl ?_
      refine Ww.iload (pc' := 170) C at_168 rfl rfl ?_
      refine Ww.iconst (pc' := 171) C at_170 (v := (2 : Int32)) rfl rfl ?_
      refine Ww.iadd (pc' := 172) C at_171 (v := (2 : Int32)) (by decide) rfl ?_
      refine Ww.iload (pc' := 174) C at_172 rfl rfl ?_
      refine Ww.castore (pc' := 175) C at_174 V142 (by decide) (show _ < _ from Nat.le_of_ble_eq_true rfl) (Wk.nar_i2c hv23) (vs' := [(.int (46 : Int32)), (.int v21), (.int v23)]) rfl za134 (List.mem_of_getElem? (i := 0) rfl) rfl ?_
      intro h144 W144 V144 O144
      refine Ww.iload (pc' := 177) C at_175 rfl rfl ?_
      refine Ww.iconst (pc' := 178) C at_177 (v := (2 : Int32)) rfl rfl ?_
      refine Ww.icmp_le C at_178 (by decide) (pcT := 190) (by decide) (pc' := 181) rfl (fun q145 => ?_) (fun q => absurd q (by decide))
      refine Ww.newO (pc' := 193) C at_190 (w4 hw) (w5 hw) (w6 hw) (k' := 14) rfl (n' := 39) rfl (by decide) (by decide) rfl ?_
      intro a146 h147 ga146 za146 E147 Aa146 Da146 Ua146 O147
      have F148 : Fld Z h147 a146 "java/lang/String" "coder" "B" (.int (0 : Int32)) := Da146 (Or.inr (w31 hw)) (ty := .byte) (by decide)
      have F149 : Fld Z h147 a146 "java/lang/String" "value" "[B" .null := Da146 (Or.inr (w33 hw)) (ty := (.array .byte)) (by decide)
      refine Ww.dup (pc' := 194) C at_193 rfl rfl ?_
      refine Ww.aload (pc' := 196) C at_194 rfl rfl rfl ?_
      have hp150 : ∀ c ∈ ([(46 : Int32), v21, v23] : List Int32), ¬ c < 0 ∧ ¬ (255 : Int32) < c := (List.forall_mem_cons.mpr ⟨⟨by decide, by decide⟩, (List.forall_mem_cons.mpr ⟨(Wk.rng255 hv20 hv21), (List.forall_mem_cons.mpr ⟨(Wk.rng255 hv22 hv23), (fun _ h => nomatch h)⟩)⟩)⟩)
      refine Ww.callI (pc' := 199) C at_196 (a := a146) (fun vm0 C => (strNew C hw hs O147 (cs := [(46 : Int32), v21, v23]) (n := 3) (Wn := 1) za146 Aa146 F149 F148 (V144.ext E147) rfl (by decide) (by decide) hp150 (by decide) (by decide))) (strNewC (n := 3) O147 za146 rfl (by decide) hp150) (fun v h' q => Or.inr (Or.inr ⟨[a146], allS (List.mem_of_getElem? (i := 0) rfl) all0, q.2.1⟩)) rfl (w8 hw) (w9 hw) (w10 hw) (by decide) (argsL := [(.ref a134)]) (st := [(.ref a146)]) rfl rfl (lenOf pd15 rfl) rfl (Nat.le_of_eq rfl) (k' := 15) rfl (n' := 42) rfl (by decide) (by decide) rfl ?_
      intro r151 h152 Q152 O152
      obtain ⟨rfl, Kh152, Sh152⟩ := Q152
      refine Ww.astore (pc' := 201) C at_199 rfl (Ls' := #[.val (.int p0), .val (.int p1), .val (.int p2), .val (.int p3), .val (.int p4), .val (.int p5), .val (.int (0 : Int32)), .val (.int (2 : Int32)), .val (.int v15), .val (.int v17), .val (.int v19), .val (.int v21), .val (.int v23), .val (.int v26), .val (.ref x130), .val (.ref x133), .val (.ref a134), .val (.ref a146), .unset]) rfl rfl ?_
      refine Ww.newO (pc' := 204) C at_201 (w37 hw) (w38 hw) (w39 hw) (k' := 16) rfl (n' := 44) rfl (by decide) (by decide) rfl ?_
      intro a153 h154 ga153 za153 E154 Aa153 Da153 Ua153 O154
      have F155 : Fld Z h154 a153 "com/example/isomorph/isomorph/MethodName" "className" "Ljava/lang/String;" .null := Da153 (Or.inr (w50 hw)) (ty := (.object "java/lang/String")) (by decide)
      have F156 : Fld Z h154 a153 "com/example/isomorph/isomorph/MethodName" "methodName" "Ljava/lang/String;" .null := Da153 (Or.inr (w52 hw)) (ty := (.object "java/lang/String")) (by decide)
      refine Ww.dup (pc' := 205) C at_204 rfl rfl ?_
      refine Ww.aload (pc' := 207) C at_205 rfl rfl rfl ?_
      refine Ww.aload (pc' := 209) C at_207 rfl rfl rfl ?_
      refine Ww.callI (pc' := 212) C at_209 (a := a153) (fun vm0 C => (Wk.Con.pays C (Wn := 1) (own_mnInit l hw O154 a153 x130 x133 za153 Aa153 F155 F156) (w42 hw) (w39 hw) (by decide) (by decide))) Wk.cleanC (fun v h' q => Or.inr (Or.inr ⟨[a153], allS (List.mem_of_getElem? (i := 0) rfl) all0, q.2.1⟩)) rfl (w40 hw) (w41 hw) (w42 hw) (by decide) (argsL := [(.ref x130), (.ref x133)]) (st := [(.ref a153)]) rfl rfl (lenOf pd20 rfl) rfl (Nat.le_of_eq rfl) (k' := 16) rfl (n' := 44) rfl (by decide) (by decide) rfl ?_
      intro r157 h158 Q158 O158
      obtain ⟨rfl, K158, A158, P158, T158⟩ := Q158
      have X159 : Ext h129 h135 := Wk.Ext.trans E132 E135
      have X160 : Ext h129 h140 := Wk.Ext.wr (Z := Z) X159 W140 (Nat.le_trans E132.1 (Nat.le_of_eq ga134.symm))
      have X161 : Ext h129 h142 := Wk.Ext.wr (Z := Z) X160 W142 (Nat.le_trans E132.1 (Nat.le_of_eq ga134.symm))
      have X162 : Ext h129 h144 := Wk.Ext.wr (Z := Z) X161 W144 (Nat.le_trans E132.1 (Nat.le_of_eq ga134.symm))
      have X163 : Ext h129 h147 := Wk.Ext.trans X162 E147
      have X164 : Ext h129 h152 := Wk.Ext.keep1 (Z := Z) X163 Kh152 (Nat.le_trans X162.1 (Nat.le_of_eq ga146.symm))
      have X165 : Ext h129 h154 := Wk.Ext.trans X164 E154
      have X166 : Ext h129 h158 := Wk.Ext.keep1 (Z := Z) X165 K158 (Nat.le_trans X164.1 (Nat.le_of_eq ga153.symm))
      have X167 : Ext h132 h140 := Wk.Ext.wr (Z := Z) E135 W140 (Nat.le_of_eq ga134.symm)
      have X168 : Ext h132 h142 := Wk.Ext.wr (Z := Z) X167 W142 (Nat.le_of_eq ga134.symm)
      have X169 : Ext h132 h144 := Wk.Ext.wr (Z := Z) X168 W144 (Nat.le_of_eq ga134.symm)
      have X170 : Ext h132 h147 := Wk.Ext.trans X169 E147
      have X171 : Ext h132 h152 := Wk.Ext.keep1 (Z := Z) X170 Kh152 (Nat.le_trans X169.1 (Nat.le_of_eq ga146.symm))
      have X172 : Ext h132 h154 := Wk.Ext.trans X171 E154
      have X173 : Ext h132 h158 := Wk.Ext.keep1 (Z := Z) X172 K158 (Nat.le_trans X171.1 (Nat.le_of_eq ga153.symm))
      refine Ww.callVS (pc' := 215) C at_212 (a := a153) (Ww.Con.pays hE (Wn := 0) (own_mnTo l hw hE O158 hs a153 x130 x133 ([] : List Int32) ([v21, v23] : List Int32) P158 T158 (S129.ext X166) (S132.ext X173) (show _ ≤ 3 from Nat.le_of_ble_eq_true rfl) (show _ ≤ 3 from Nat.le_of_ble_eq_true rfl)) (w57 hw) (w39 hw) (by decide) (by decide)) Wk.cleanC A158 (w53 hw) (w54 hw) (fun vm0 hZ0 => notFace_of_selects (args := #[]) (mvT (s := W.s.setVm vm0) hZ0 (w56 hw))) (w56 hw) (w55 hw) (by decide) (argsL := []) (st := []) rfl rfl (lenOf pd18 rfl) rfl (Nat.le_of_eq rfl) (k' := 22) rfl (n' := 108) rfl (by decide) (by decide) rfl ?_
      intro r174 h175 Q175 O175
      obtain ⟨x176, rfl, E175, S175⟩ := Q175
      refine Ww.astore (pc' := 217) C at_215 rfl (Ls' := #[.val (.int p0), .val (.int p1), .val (.int p2), .val (.int p3), .val (.int p4), .val (.int p5), .val (.int (0 : Int32)), .val (.int (2 : Int32)), .val (.int v15), .val (.int v17), .val (.int v19), .val (.int v21), .val (.int v23), .val (.int v26), .val (.ref x130), .val (.ref x133), .val (.ref a134), .val (.ref a146), .val (.ref x176)]) rfl rfl ?_
      refine Ww.aload (pc' := 219) C at_217 rfl rfl rfl ?_
      refine Ww.aload (pc' := 221) C at_219 rfl rfl rfl ?_
      have X177 : Ext h152 h158 := Wk.Ext.keep1 (Z := Z) E154 K158 (Nat.le_of_eq ga153.symm)
      have X178 : Ext h152 h175 := Wk.Ext.trans X177 E175
      refine Ww.callV (pc' := 224) C at_221 (a := x176) (fun vm0 C => (strEq C hw hs O175 (Wn := 0) S175 (Sh152.ext X178) (by decide) (by decide))) (pureC (P := fun v => (v = some (.int 1) ∧ ((([] ++ ([] : List Int32)) ++ [46]) ++ ([v21, v23] : List Int32) : List Int32) = [(46 : Int32), v21, v23]) ∨ (v = some (.int 0) ∧ ¬ ((([] ++ ([] : List Int32)) ++ [46]) ++ ([v21, v23] : List Int32) : List Int32) = [(46 : Int32), v21, v23])) O175) (fun v h' q => Or.inl q.2) S175.exa (w169 hw) (w170 hw) (fun vm0 hZ0 => notFace_of_selects (args := #[]) (mvT (s := W.s.setVm vm0) hZ0 (w172 hw))) (w172 hw) (w171 hw) (by decide) (argsL := [(.ref a146)]) (st := []) rfl rfl (lenOf pd21 rfl) rfl (Nat.le_of_eq rfl) (k' := 22) rfl (n' := 108) rfl (by decide) (by decide) rfl ?_
      intro r179 h180 Q180 O180
      obtain ⟨q182, e181⟩ := Q180
      obtain rfl := e181.symm
      rcases q182 with ⟨rfl, q182⟩ | ⟨rfl, q182⟩
      · -- equal: True
        exact Ww.retNar (ty := .boolean) C hE (by simp) at_224 rfl (by decide) (by decide) rfl
      · -- equal: False
        exact absurd rfl q182
    · -- 3
      refine Ww.iload (pc' := 69) C at_67 rfl rfl ?_
      refine Ww.iload (pc' := 71) C at_69 rfl rfl ?_
      refine Ww.iload (pc' := 73) C at_71 rfl rfl ?_
      refine Ww.iload (pc' := 75) C at_73 rfl rfl ?_
      refine Ww.callSS (pc' := 78) C at_75 (Ww.Con.pays hE (Wn := 0) (own_str0 l hw hE O0 hs v15 v17 v19 (Wk.rng255 hv14 hv15) (Wk.rng255 hv16 hv17) (Wk.rng255 hv18 hv19)) (w3 hw) (w2 hw) (by decide) (by decide)) Wk.cleanC (w0 hw) (w1 hw) (w2 hw) (w3 hw) (by decide) (argsL := [(.int (0 : Int32)), (.int v15), (.int v17), (.int v19)]) (st := []) rfl rfl (lenOf pd19 rfl) rfl (Nat.le_of_eq rfl) (k' := 6) rfl (n' := 16) rfl (by decide) (by decide) rfl ?_
      intro r183 h184 Q184 O184
      obtain ⟨x185, rfl, E184, S184⟩ := Q184
      refine Ww.astore (pc' := 80) C at_78 rfl (Ls' := #[.val (.int p0), .val (.int p1), .val (.int p2), .val (.int p3), .val (.int p4), .val (.int p5), .val (.int (0 : Int32)), .val (.int (3 : Int32)), .val (.int v15), .val (.int v17), .val (.int v19), .val (.int v21), .val (.int v23), .val (.int v26), .val (.ref x185), .unset, .unset, .unset, .unset]) rfl rfl ?_
      refine Ww.iload (pc' := 82) C at_80 rfl rfl ?_
      refine Ww.iload (pc' := 84) C at_82 rfl rfl ?_
      refine Ww.iload (pc' := 86) C at_84 rfl rfl ?_
      refine Ww.iload (pc' := 88) C at_86 rfl rfl ?_
      refine Ww.callSS (pc' := 91) C at_88 (Ww.Con.pays hE (Wn := 0) (own_str3 l hw hE O184 hs v21 v23 v26 (Wk.rng255 hv20 hv21) (Wk.rng255 hv22 hv23) (Wk.rng255 hv25 hv26)) (w3 hw) (w2 hw) (by decide) (by decide)) Wk.cleanC (w0 hw) (w1 hw) (w2 hw) (w3 hw) (by decide) (argsL := [(.int (3 : Int32)), (.int v21), (.int v23), (.int v26)]) (st := []) rfl rfl (lenOf pd19 rfl) rfl (Nat.le_of_eq rfl) (k' := 12) rfl (n' := 32) rfl (by decide) (by decide) rfl ?_
      intro r186 h187 Q187 O187
      obtain ⟨x188, rfl, E187, S187⟩ := Q187
      refine Ww.astore (pc' := 93) C at_91 rfl (Ls' := #[.val (.int p0), .val (.int p1), .val (.int p2), .val (.int p3), .val (.int p4), .val (.int p5), .val (.int (0 : Int32)), .val (.int (3 : Int32)), .val (.int v15), .val (.int v17), .val (.int v19), .val (.int v21), .val (.int v23), .val (.int v26), .val (.ref x185), .val (.ref x188), .unset, .unset, .unset]) rfl rfl ?_
      refine Ww.iload (pc' := 95) C at_93 rfl rfl ?_
      refine Ww.iconst (pc' := 96) C at_95 (v := (1 : Int32)) rfl rfl ?_
      refine Ww.iadd (pc' := 97) C at_96 (v := (1 : Int32)) (by decide) rfl ?_
      refine Ww.iload (pc' := 99) C at_97 rfl rfl ?_
      refine Ww.iadd (pc' := 100) C at_99 (v := (4 : Int32)) (by decide) rfl ?_
      refine Ww.newA (pc' := 102) C at_100 (ty := .char) rfl (w7 hw) (by decide) (cap := 4) (by decide) (by decide) (k' := 13) rfl (n' := 36) rfl (by decide) (by decide) rfl rfl ?_
      intro a189 h190 ga189 za189 E190 Va189 O190
      have V191 : Wk.Ary Z h190 a189 .char [(.int (0 : Int32)), (.int (0 : Int32)), (.int (0 : Int32)), (.int (0 : Int32))] := Va189
      refine Ww.astore (pc' := 104) C at_102 rfl (Ls' := #[.val (.int p0), .val (.int p1), .val (.int p2), .val (.int p3), .val (.int p4), .val (.int p5), .val (.int (0 : Int32)), .val (.int (3 : Int32)), .val (.int v15), .val (.int v17), .val (.int v19), .val (.int v21), .val (.int v23), .val (.int v26), .val (.ref x185), .val (.ref x188), .val (.ref a189), .unset, .unset]) rfl rfl ?_
      refine Ww.iload (pc' := 106) C at_104 rfl rfl ?_
      refine Ww.if_le C at_106 (by decide) (pcT := 115) (by decide) (pc' := 109) rfl (fun q192 => ?_) (fun q => absurd q (by decide))
      refine Ww.iload (pc' := 117) C at_115 rfl rfl ?_
      refine Ww.iconst (pc' := 118) C at_117 (v := (1 : Int32)) rfl rfl ?_
      refine Ww.icmp_le C at_118 (by decide) (pcT := 127) (by decide) (pc' := 121) rfl (fun q193 => ?_) (fun q => absurd q (by decide))
      refine Ww.iload (pc' := 129) C at_127 rfl rfl ?_
      refine Ww.iconst (pc' := 130) C at_129 (v := (2 : Int32)) rfl rfl ?_
      refine Ww.icmp_le C at_130 (by decide) (pcT := 139) (by decide) (pc' := 133) rfl (fun q194 => ?_) (fun q => absurd q (by decide))
      refine Ww.aload (pc' := 141) C at_139 rfl rfl rfl ?_
      refine Ww.iload (pc' := 143) C at_141 rfl rfl ?_
      refine Ww.bipush (pc' := 145) C at_143 (v := (46 : Int32)) rfl rfl ?_
      refine Ww.castore (pc' := 146) C at_145 V191 (by decide) (show _ < _ from Nat.le_of_ble_eq_true rfl) (by decide) (vs' := [(.int (46 : Int32)), (.int (0 : Int32)), (.int (0 : Int32)), (.int (0 : Int32))]) rfl za189 (List.mem_of_getElem? (i := 0) rfl) rfl ?_
      intro h195 W195 V195 O195
      refine Ww.iload (pc' := 148) C at_146 rfl rfl ?_
      refine Ww.if_le C at_148 (by decide) (pcT := 160) (by decide) (pc' := 151) rfl (fun q => absurd q (by decide)) (fun q196 => ?_)
      refine Ww.aload (pc' := 153) C at_151 rfl rfl rfl ?_
      refine Ww.iload (pc' := 155) C at_153 rfl rfl ?_
      refine Ww.iconst (pc' := 156) C at_155 (v := (1 : Int32)) rfl rfl ?_
      refine Ww.iadd (pc' := 157) C at_156 (v := (1 : Int32)) (by decide) rfl ?_
      refine Ww.iload (pc' := 159) C at_157 rfl rfl ?_
      refine Ww.castore (pc' := 160) C at_159 V195 (by decide) (show _ < _ from Nat.le_of_ble_eq_true rfl) (Wk.nar_i2c hv21) (vs' := [(.int (46 : Int32)), (.int v21), (.int (0 : Int32)), (.int (0 : Int32))]) rfl za189 (List.mem_of_getElem? (i := 0) rfl) rfl ?_
      intro h197 W197 V197 O197
      refine Ww.iload (pc' := 162) C at_160 rfl rfl ?_
      refine Ww.iconst (pc' := 163) C at_162 (v := (1 : Int32)) rfl rfl ?_
      refine Ww.icmp_le C at_163 (by decide) (pcT := 175) (by decide) (pc' := 166) rfl (fun q => absurd q (by decide)) (fun q198 => ?_)
      refine Ww.aload (pc' := 168) C at_166 rfl rfl rfl ?_
      refine Ww.iload (pc' := 170) C at_168 rfl rfl ?_
      refine Ww.iconst (pc' := 171) C at_170 (v := (2 : Int32)) rfl rfl ?_
      refine Ww.iadd (pc' := 172) C at_171 (v := (2 : Int32)) (by decide) rfl ?_
      refine Ww.iload (pc' := 174) C at_172 rfl rfl ?_
      refine Ww.castore (pc' := 175) C at_174 V197 (by decide) (show _ < _ from Nat.le_of_ble_eq_true rfl) (Wk.nar_i2c hv23) (vs' := [(.int (46 : Int32)), (.int v21), (.int v23), (.int (0 : Int32))]) rfl za189 (List.mem_of_getElem? (i := 0) rfl) rfl ?_
      intro h199 W199 V199 O199
      refine Ww.iload (pc' := 177) C at_175 rfl rfl ?_
      refine Ww.iconst (pc' := 178) C at_177 (v := (2 : Int32)) rfl rfl ?_
      refine Ww.icmp_le C at_178 (by decide) (pcT := 190) (by decide) (pc' := 181) rfl (fun q => absurd q (by decide)) (fun q200 => ?_)
      refine Ww.aload (pc' := 183) C at_181 rfl rfl rfl ?_
      refine Ww.iload (pc' := 185) C at_183 rfl rfl ?_
      refine Ww.iconst (pc' := 186) C at_185 (v := (3 : Int32)) rfl rfl ?_
      refine Ww.iadd (pc' := 187) C at_186 (v := (3 : Int32)) (by decide) rfl ?_
      refine Ww.iload (pc' := 189) C at_187 rfl rfl ?_
      refine Ww.castore (pc' := 190) C at_189 V199 (by decide) (show _ < _ from Nat.le_of_ble_eq_true rfl) (Wk.nar_i2c hv26) (vs' := [(.int (46 : Int32)), (.int v21), (.int v23), (.int v26)]) rfl za189 (List.mem_of_getElem? (i := 0) rfl) rfl ?_
      intro h201 W201 V201 O201
      refine Ww.newO (pc' := 193) C at_190 (w4 hw) (w5 hw) (w6 hw) (k' := 14) rfl (n' := 40) rfl (by decide) (by decide) rfl ?_
      intro a202 h203 ga202 za202 E203 Aa202 Da202 Ua202 O203
      have F204 : Fld Z h203 a202 "java/lang/String" "coder" "B" (.int (0 : Int32)) := Da202 (Or.inr (w31 hw)) (ty := .byte) (by decide)
      have F205 : Fld Z h203 a202 "java/lang/String" "value" "[B" .null := Da202 (Or.inr (w33 hw)) (ty := (.array .byte)) (by decide)
      refine Ww.dup (pc' := 194) C at_193 rfl rfl ?_
      refine Ww.aload (pc' := 196) C at_194 rfl rfl rfl ?_
      have hp206 : ∀ c ∈ ([(46 : Int32), v21, v23, v26] : List Int32), ¬ c < 0 ∧ ¬ (255 : Int32) < c := (List.forall_mem_cons.mpr ⟨⟨by decide, by decide⟩, (List.forall_mem_cons.mpr ⟨(Wk.rng255 hv20 hv21), (List.forall_mem_cons.mpr ⟨(Wk.rng255 hv22 hv23), (List.forall_mem_cons.mpr ⟨(Wk.rng255 hv25 hv26), (fun _ h => nomatch h)⟩)⟩)⟩)⟩)
      refine Ww.callI (pc' := 199) C at_196 (a := a202) (fun vm0 C => (strNew C hw hs O203 (cs := [(46 : Int32), v21, v23, v26]) (n := 4) (Wn := 1) za202 Aa202 F205 F204 (V201.ext E203) rfl (by decide) (by decide) hp206 (by decide) (by decide))) (strNewC (n := 4) O203 za202 rfl (by decide) hp206) (fun v h' q => Or.inr (Or.inr ⟨[a202], allS (List.mem_of_getElem? (i := 0) rfl) all0, q.2.1⟩)) rfl (w8 hw) (w9 hw) (w10 hw) (by decide) (argsL := [(.ref a189)]) (st := [(.ref a202)]) rfl rfl (lenOf pd15 rfl) rfl (Nat.le_of_eq rfl) (k' := 15) rfl (n' := 44) rfl (by decide) (by decide) rfl ?_
      intro r207 h208 Q208 O208
      obtain ⟨rfl, Kh208, Sh208⟩ := Q208
      refine Ww.astore (pc' := 201) C at_199 rfl (Ls' := #[.val (.int p0), .val (.int p1), .val (.int p2), .val (.int p3), .val (.int p4), .val (.int p5), .val (.int (0 : Int32)), .val (.int (3 : Int32)), .val (.int v15), .val (.int v17), .val (.int v19), .val (.int v21), .val (.int v23), .val (.int v26), .val (.ref x185), .val (.ref x188), .val (.ref a189), .val (.ref a202), .unset]) rfl rfl ?_
      refine Ww.newO (pc' := 204) C at_201 (w37 hw) (w38 hw) (w39 hw) (k' := 16) rfl (n' := 46) rfl (by decide) (by decide) rfl ?_
      intro a209 h210 ga209 za209 E210 Aa209 Da209 Ua209 O210
      have F211 : Fld Z h210 a209 "com/example/isomorph/isomorph/MethodName" "className" "Ljava/lang/String;" .null := Da209 (Or.inr (w50 hw)) (ty := (.object "java/lang/String")) (by decide)
      have F212 : Fld Z h210 a209 "com/example/isomorph/isomorph/MethodName" "methodName" "Ljava/lang/String;" .null := Da209 (Or.inr (w52 hw)) (ty := (.object "java/lang/String")) (by decide)
      refine Ww.dup (pc' := 205) C at_204 rfl rfl ?_
      refine Ww.aload (pc' := 207) C at_205 rfl rfl rfl ?_
      refine Ww.aload (pc' := 209) C at_207 rfl rfl rfl ?_
      refine Ww.callI (pc' := 212) C at_209 (a := a209) (fun vm0 C => (Wk.Con.pays C (Wn := 1) (own_mnInit l hw O210 a209 x185 x188 za209 Aa209 F211 F212) (w42 hw) (w39 hw) (by decide) (by decide))) Wk.cleanC (fun v h' q => Or.inr (Or.inr ⟨[a209], allS (List.mem_of_getElem? (i := 0) rfl) all0, q.2.1⟩)) rfl (w40 hw) (w41 hw) (w42 hw) (by decide) (argsL := [(.ref x185), (.ref x188)]) (st := [(.ref a209)]) rfl rfl (lenOf pd20 rfl) rfl (Nat.le_of_eq rfl) (k' := 16) rfl (n' := 46) rfl (by decide) (by decide) rfl ?_
      intro r213 h214 Q214 O214
      obtain ⟨rfl, K214, A214, P214, T214⟩ := Q214
      have X215 : Ext h184 h190 := Wk.Ext.trans E187 E190
      have X216 : Ext h184 h195 := Wk.Ext.wr (Z := Z) X215 W195 (Nat.le_trans E187.1 (Nat.le_of_eq ga189.symm))
      have X217 : Ext h184 h197 := Wk.Ext.wr (Z := Z) X216 W197 (Nat.le_trans E187.1 (Nat.le_of_eq ga189.symm))
      have X218 : Ext h184 h199 := Wk.Ext.wr (Z := Z) X217 W199 (Nat.le_trans E187.1 (Nat.le_of_eq ga189.symm))
      have X219 : Ext h184 h201 := Wk.Ext.wr (Z := Z) X218 W201 (Nat.le_trans E187.1 (Nat.le_of_eq ga189.symm))
      have X220 : Ext h184 h203 := Wk.Ext.trans X219 E203
      have X221 : Ext h184 h208 := Wk.Ext.keep1 (Z := Z) X220 Kh208 (Nat.le_trans X219.1 (Nat.le_of_eq ga202.symm))
      have X222 : Ext h184 h210 := Wk.Ext.trans X221 E210
      have X223 : Ext h184 h214 := Wk.Ext.keep1 (Z := Z) X222 K214 (Nat.le_trans X221.1 (Nat.le_of_eq ga209.symm))
      have X224 : Ext h187 h195 := Wk.Ext.wr (Z := Z) E190 W195 (Nat.le_of_eq ga189.symm)
      have X225 : Ext h187 h197 := Wk.Ext.wr (Z := Z) X224 W197 (Nat.le_of_eq ga189.symm)
      have X226 : Ext h187 h199 := Wk.Ext.wr (Z := Z) X225 W199 (Nat.le_of_eq ga189.symm)
      have X227 : Ext h187 h201 := Wk.Ext.wr (Z := Z) X226 W201 (Nat.le_of_eq ga189.symm)
      have X228 : Ext h187 h203 := Wk.Ext.trans X227 E203
      have X229 : Ext h187 h208 := Wk.Ext.keep1 (Z := Z) X228 Kh208 (Nat.le_trans X227.1 (Nat.le_of_eq ga202.symm))
      have X230 : Ext h187 h210 := Wk.Ext.trans X229 E210
      have X231 : Ext h187 h214 := Wk.Ext.keep1 (Z := Z) X230 K214 (Nat.le_trans X229.1 (Nat.le_of_eq ga209.symm))
      refine Ww.callVS (pc' := 215) C at_212 (a := a209) (Ww.Con.pays hE (Wn := 0) (own_mnTo l hw hE O214 hs a209 x185 x188 ([] : List Int32) ([v21, v23, v26] : List Int32) P214 T214 (S184.ext X223) (S187.ext X231) (show _ ≤ 3 from Nat.le_of_ble_eq_true rfl) (show _ ≤ 3 from Nat.le_of_ble_eq_true rfl)) (w57 hw) (w39 hw) (by decide) (by decide)) Wk.cleanC A214 (w53 hw) (w54 hw) (fun vm0 hZ0 => notFace_of_selects (args := #[]) (mvT (s := W.s.setVm vm0) hZ0 (w56 hw))) (w56 hw) (w55 hw) (by decide) (argsL := []) (st := []) rfl rfl (lenOf pd18 rfl) rfl (Nat.le_of_eq rfl) (k' := 22) rfl (n' := 110) rfl (by decide) (by decide) rfl ?_
      intro r232 h233 Q233 O233
      obtain ⟨x234, rfl, E233, S233⟩ := Q233
      refine Ww.astore (pc' := 217) C at_215 rfl (Ls' := #[.val (.int p0), .val (.int p1), .val (.int p2), .val (.int p3), .val (.int p4), .val (.int p5), .val (.int (0 : Int32)), .val (.int (3 : Int32)), .val (.int v15), .val (.int v17), .val (.int v19), .val (.int v21), .val (.int v23), .val (.int v26), .val (.ref x185), .val (.ref x188), .val (.ref a189), .val (.ref a202), .val (.ref x234)]) rfl rfl ?_
      refine Ww.aload (pc' := 219) C at_217 rfl rfl rfl ?_
      refine Ww.aload (pc' := 221) C at_219 rfl rfl rfl ?_
      have X235 : Ext h208 h214 := Wk.Ext.keep1 (Z := Z) E210 K214 (Nat.le_of_eq ga209.symm)
      have X236 : Ext h208 h233 := Wk.Ext.trans X235 E233
      refine Ww.callV (pc' := 224) C at_221 (a := x234) (fun vm0 C => (strEq C hw hs O233 (Wn := 0) S233 (Sh208.ext X236) (by decide) (by decide))) (pureC (P := fun v => (v = some (.int 1) ∧ ((([] ++ ([] : List Int32)) ++ [46]) ++ ([v21, v23, v26] : List Int32) : List Int32) = [(46 : Int32), v21, v23, v26]) ∨ (v = some (.int 0) ∧ ¬ ((([] ++ ([] : List Int32)) ++ [46]) ++ ([v21, v23, v26] : List Int32) : List Int32) = [(46 : Int32), v21, v23, v26])) O233) (fun v h' q => Or.inl q.2) S233.exa (w169 hw) (w170 hw) (fun vm0 hZ0 => notFace_of_selects (args := #[]) (mvT (s := W.s.setVm vm0) hZ0 (w172 hw))) (w172 hw) (w171 hw) (by decide) (argsL := [(.ref a202)]) (st := []) rfl rfl (lenOf pd21 rfl) rfl (Nat.le_of_eq rfl) (k' := 22) rfl (n' := 110) rfl (by decide) (by decide) rfl ?_
      intro r237 h238 Q238 O238
      obtain ⟨q240, e239⟩ := Q238
      obtain rfl := e239.symm
      rcases q240 with ⟨rfl, q240⟩ | ⟨rfl, q240⟩
      · -- equal: True
        exact Ww.retNar (ty := .boolean) C hE (by simp) at_224 rfl (by decide) (by decide) rfl
      · -- equal: False
        exact absurd rfl q240
  · -- 1
    rcases own_m3 hv13 with rfl | rfl | rfl | rfl
    · -- 0
      refine Ww.iload (pc' := 69) C at_67 rfl rfl ?_
      refine Ww.iload (pc' := 71) C at_69 rfl rfl ?_
      refine Ww.iload (pc' := 73) C at_71 rfl rfl ?_
      refine Ww.iload (pc' := 75) C at_73 rfl rfl ?_
      refine Ww.callSS (pc' := 78) C at_75 (Ww.Con.pays hE (Wn := 0) (own_str1 l hw hE O0 hs v15 v17 v19 (Wk.rng255 hv14 hv15) (Wk.rng255 hv16 hv17) (Wk.rng255 hv18 hv19)) (w3 hw) (w2 hw) (by decide) (by decide)) Wk.cleanC (w0 hw) (w1 hw) (w2 hw) (w3 hw) (by decide) (argsL := [(.int (1 : Int32)), (.int v15), (.int v17), (.int v19)]) (st := []) rfl rfl (lenOf pd19 rfl) rfl (Nat.le_of_eq rfl) (k' := 6) rfl (n' := 16) rfl (by decide) (by decide) rfl ?_
      intro r241 h242 Q242 O242
      obtain ⟨x243, rfl, E242, S242⟩ := Q242
      refine Ww.astore (pc' := 80) C at_78 rfl (Ls' := #[.val (.int p0), .val (.int p1), .val (.int p2), .val (.int p3), .val (.int p4), .val (.int p5), .val (.int (1 : Int32)), .val (.int (0 : Int32)), .val (.int v15), .val (.int v17), .val (.int v19), .val (.int v21), .val (.int v23), .val (.int v26), .val (.ref x243), .unset, .unset, .unset, .unset]) rfl rfl ?_
      refine Ww.iload (pc' := 82) C at_80 rfl rfl ?_
      refine Ww.iload (pc' := 84) C at_82 rfl rfl ?_
      refine Ww.iload (pc' := 86) C at_84 rfl rfl ?_
      refine Ww.iload (pc' := 88) C at_86 rfl rfl ?_
      refine Ww.callSS (pc' := 91) C at_88 (Ww.Con.pays hE (Wn := 0) (own_str0 l hw hE O242 hs v21 v23 v26 (Wk.rng255 hv20 hv21) (Wk.rng255 hv22 hv23) (Wk.rng255 hv25 hv26)) (w3 hw) (w2 hw) (by decide) (by decide)) Wk.cleanC (w0 hw) (w1 hw) (w2 hw) (w3 hw) (by decide) (argsL := [(.int (0 : Int32)), (.int v21), (.int v23), (.int v26)]) (st := []) rfl rfl (lenOf pd19 rfl) rfl (Nat.le_of_eq rfl) (k' := 12) rfl (n' := 32) rfl (by decide) (by decide) rfl ?_
      intro r244 h245 Q245 O245
      obtain ⟨x246, rfl, E245, S245⟩ := Q245
      refine Ww.astore (pc' := 93) C at_91 rfl (Ls' := #[.val (.int p0), .val (.int p1), .val (.int p2), .val (.int p3), .val (.int p4), .val (.int p5), .val (.int (1 : Int32)), .val (.int (0 : Int32)), .val (.int v15), .val (.int v17), .val (.int v19), .val (.int v21), .val (.int v23), .val (.int v26), .val (.ref x243), .val (.ref x246), .unset, .unset, .unset]) rfl rfl ?_
      refine Ww.iload (pc' := 95) C at_93 rfl rfl ?_
      refine Ww.iconst (pc' := 96) C at_95 (v := (1 : Int32)) rfl rfl ?_
      refine Ww.iadd (pc' := 97) C at_96 (v := (2 : Int32)) (by decide) rfl ?_
      refine Ww.iload (pc' := 99) C at_97 rfl rfl ?_
      refine Ww.iadd (pc' := 100) C at_99 (v := (2 : Int32)) (by decide) rfl ?_
      refine Ww.newA (pc' := 102) C at_100 (ty := .char) rfl (w7 hw) (by decide) (cap := 2) (by decide) (by decide) (k' := 13) rfl (n' := 34) rfl (by decide) (by decide) rfl rfl ?_
      intro a247 h248 ga247 za247 E248 Va247 O248
      have V249 : Wk.Ary Z h248 a247 .char [(.int (0 : Int32)), (.int (0 : Int32))] := Va247
      refine Ww.astore (pc' := 104) C at_102 rfl (Ls' := #[.val (.int p0), .val (.int p1), .val (.int p2), .val (.int p3), .val (.int p4), .val (.int p5), .val (.int (1 : Int32)), .val (.int (0 : Int32)), .val (.int v15), .val (.int v17), .val (.int v19), .val (.int v21), .val (.int v23), .val (.int v26), .val (.ref x243), .val (.ref x246), .val (.ref a247), .unset, .unset]) rfl rfl ?_
      refine Ww.iload (pc' := 106) C at_104 rfl rfl ?_
      refine Ww.if_le C at_106 (by decide) (pcT := 115) (by decide) (pc' := 109) rfl (fun q => absurd q (by decide)) (fun q250 => ?_)
      refine Ww.aload (pc' := 111) C at_109 rfl rfl rfl ?_
      refine Ww.iconst (pc' := 112) C at_111 (v := (0 : Int32)) rfl rfl ?_
      refine Ww.iload (pc' := 114) C at_112 rfl rfl ?_
      refine Ww.castore (pc' := 115) C at_114 V249 (by decide) (show _ < _ from Nat.le_of_ble_eq_true rfl) (Wk.nar_i2c hv15) (vs' := [(.int v15), (.int (0 : Int32))]) rfl za247 (List.mem_of_getElem? (i := 0) rfl) rfl ?_
      intro h251 W251 V251 O251
      refine Ww.iload (pc' := 117) C at_115 rfl rfl ?_
      refine Ww.iconst (pc' := 118) C at_117 (v := (1 : Int32)) rfl rfl ?_
      refine Ww.icmp_le C at_118 (by decide) (pcT := 127) (by decide) (pc' := 121) rfl (fun q252 => ?_) (fun q => absurd q (by decide))
      refine Ww.iload (pc' := 129) C at_127 rfl rfl ?_
      refine Ww.iconst (pc' := 130) C at_129 (v := (2 : Int32)) rfl rfl ?_
      refine Ww.icmp_le C at_130 (by decide) (pcT := 139) (by decide) (pc' := 133) rfl (fun q253 => ?_) (fun q => absurd q (by decide))
      refine Ww.aload (pc' := 141) C at_139 rfl rfl rfl ?_
      refine Ww.iload (pc' := 143) C at_141 rfl rfl ?_
      refine Ww.bipush (pc' := 145) C at_143 (v := (46 : Int32)) rfl rfl ?_
      refine Ww.castore (pc' := 146) C at_145 V251 (by decide) (show _ < _ from Nat.le_of_ble_eq_true rfl) (by decide) (vs' := [(.int v15), (.int (46 : Int32))]) rfl za247 (List.mem_of_getElem? (i := 0) rfl) rfl ?_
      intro h254 W254 V254 O254
      refine Ww.iload (pc' := 148) C at_146 rfl rfl ?_
      refine Ww.if_le C at_148 (by decide) (pcT := 160) (by decide) (pc' := 151) rfl (fun q255 => ?_) (fun q => absurd q (by decide))
      refine Ww.iload (pc' := 162) C at_160 rfl rfl ?_
      refine Ww.iconst (pc' := 163) C at_162 (v := (1 : Int32)) rfl rfl ?_
      refine Ww.icmp_le C at_163 (by decide) (pcT := 175) (by decide) (pc' := 166) rfl (fun q256 => ?_) (fun q => absurd q (by decide))
      refine Ww.iload (pc' := 177) C at_175 rfl rfl ?_
      refine Ww.iconst (pc' := 178) C at_177 (v := (2 : Int32)) rfl rfl ?_
      refine Ww.icmp_le C at_178 (by decide) (pcT := 190) (by decide) (pc' := 181) rfl (fun q257 => ?_) (fun q => absurd q (by decide))
      refine Ww.newO (pc' := 193) C at_190 (w4 hw) (w5 hw) (w6 hw) (k' := 14) rfl (n' := 38) rfl (by decide) (by decide) rfl ?_
      intro a258 h259 ga258 za258 E259 Aa258 Da258 Ua258 O259
      have F260 : Fld Z h259 a258 "java/lang/String" "coder" "B" (.int (0 : Int32)) := Da258 (Or.inr (w31 hw)) (ty := .byte) (by decide)
      have F261 : Fld Z h259 a258 "java/lang/String" "value" "[B" .null := Da258 (Or.inr (w33 hw)) (ty := (.array .byte)) (by decide)
      refine Ww.dup (pc' := 194) C at_193 rfl rfl ?_
      refine Ww.aload (pc' := 196) C at_194 rfl rfl rfl ?_
      have hp262 : ∀ c ∈ ([v15, (46 : Int32)] : List Int32), ¬ c < 0 ∧ ¬ (255 : Int32) < c := (List.forall_mem_cons.mpr ⟨(Wk.rng255 hv14 hv15), (List.forall_mem_cons.mpr ⟨⟨by decide, by decide⟩, (fun _ h => nomatch h)⟩)⟩)
      refine Ww.callI (pc' := 199) C at_196 (a := a258) (fun vm0 C => (strNew C hw hs O259 (cs := [v15, (46 : Int32)]) (n := 2) (Wn := 1) za258 Aa258 F261 F260 (V254.ext E259) rfl (by decide) (by decide) hp262 (by decide) (by decide))) (strNewC (n := 2) O259 za258 rfl (by decide) hp262) (fun v h' q => Or.inr (Or.inr ⟨[a258], allS (List.mem_of_getElem? (i := 0) rfl) all0, q.2.1⟩)) rfl (w8 hw) (w9 hw) (w10 hw) (by decide) (argsL := [(.ref a247)]) (st := [(.ref a258)]) rfl rfl (lenOf pd15 rfl) rfl (Nat.le_of_eq rfl) (k' := 15) rfl (n' := 40) rfl (by decide) (by decide) rfl ?_
      intro r263 h264 Q264 O264
      obtain ⟨rfl, Kh264, Sh264⟩ := Q264
      refine Ww.astore (pc' := 201) C at_199 rfl (Ls' := #[.val (.int p0), .val (.int p1), .val (.int p2), .val (.int p3), .val (.int p4), .val (.int p5), .val (.int (1 : Int32)), .val (.int (0 : Int32)), .val (.int v15), .val (.int v17), .val (.int v19), .val (.int v21), .val (.int v23), .val (.int v26), .val (.ref x243), .val (.ref x246), .val (.ref a247), .val (.ref a258), .unset]) rfl rfl ?_
      refine Ww.newO (pc' := 204) C at_201 (w37 hw) (w38 hw) (w39 hw) (k' := 16) rfl (n' := 42) rfl (by decide) (by decide) rfl ?_
      intro a265 h266 ga265 za265 E266 Aa265 Da265 Ua265 O266
      have F267 : Fld Z h266 a265 "com/example/isomorph/isomorph/MethodName" "className" "Ljava/lang/String;" .null := Da265 (Or.inr (w50 hw)) (ty := (.object "java/lang/String")) (by decide)
      have F268 : Fld Z h266 a265 "com/example/isomorph/isomorph/MethodName" "methodName" "Ljava/lang/String;" .null := Da265 (Or.inr (w52 hw)) (ty := (.object "java/lang/String")) (by decide)
      refine Ww.dup (pc' := 205) C at_204 rfl rfl ?_
      refine Ww.aload (pc' := 207) C at_205 rfl rfl rfl ?_
      refine Ww.aload (pc' := 209) C at_207 rfl rfl rfl ?_
      refine Ww.callI (pc' := 212) C at_209 (a := a265) (fun vm0 C => (Wk.Con.pays C (Wn := 1) (own_mnInit l hw O266 a265 x243 x246 za265 Aa265 F267 F268) (w42 hw) (w39 hw) (by decide) (by decide))) Wk.cleanC (fun v h' q => Or.inr (Or.inr ⟨[a265], allS (List.mem_of_getElem? (i := 0) rfl) all0, q.2.1⟩)) rfl (w40 hw) (w41 hw) (w42 hw) (by decide) (argsL := [(.ref x243), (.ref x246)]) (st := [(.ref a265)]) rfl rfl (lenOf pd20 rfl) rfl (Nat.le_of_eq rfl) (k' := 16) rfl (n' := 42) rfl (by decide) (by decide) rfl ?_
      intro r269 h270 Q270 O270
      obtain ⟨rfl, K270, A270, P270, T270⟩ := Q270
      have X271 : Ext h242 h248 := Wk.Ext.trans E245 E248
      have X272 : Ext h242 h251 := Wk.Ext.wr (Z := Z) X271 W251 (Nat.le_trans E245.1 (Nat.le_of_eq ga247.symm))
      have X273 : Ext h242 h254 := Wk.Ext.wr (Z := Z) X272 W254 (Nat.le_trans E245.1 (Nat.le_of_eq ga247.symm))
      have X274 : Ext h242 h259 := Wk.Ext.trans X273 E259
      have X275 : Ext h242 h264 := Wk.Ext.keep1 (Z := Z) X274 Kh264 (Nat.le_trans X273.1 (Nat.le_of_eq ga258.symm))
      have X276 : Ext h242 h266 := Wk.Ext.trans X275 E266
      have X277 : Ext h242 h270 := Wk.Ext.keep1 (Z := Z) X276 K270 (Nat.le_trans X275.1 (Nat.le_of_eq ga265.symm))
      have X278 : Ext h245 h251 := Wk.Ext.wr (Z := Z) E248 W251 (Nat.le_of_eq ga247.symm)
      have X279 : Ext h245 h254 := Wk.Ext.wr (Z := Z) X278 W254 (Nat.le_of_eq ga247.symm)
      have X280 : Ext h245 h259 := Wk.Ext.trans X279 E259
      have X281 : Ext h245 h264 := Wk.Ext.keep1 (Z := Z) X280 Kh264 (Nat.le_trans X279.1 (Nat.le_of_eq ga258.symm))
      have X282 : Ext h245 h266 := Wk.Ext.trans X281 E266
      have X283 : Ext h245 h270 := Wk.Ext.keep1 (Z := Z) X282 K270 (Nat.le_trans X281.1 (Nat.le_of_eq ga265.symm))
      refine Ww.callVS (pc' := 215) C at_212 (a := a265) (Ww.Con.pays hE (Wn := 0) (own_mnTo l hw hE O270 hs a265 x243 x246 ([v15] : List Int32) ([] : List Int32) P270 T270 (S242.ext X277) (S245.ext X283) (show _ ≤ 3 from Nat.le_of_ble_eq_true rfl) (show _ ≤ 3 from Nat.le_of_ble_eq_true rfl)) (w57 hw) (w39 hw) (by decide) (by decide)) Wk.cleanC A270 (w53 hw) (w54 hw) (fun vm0 hZ0 => notFace_of_selects (args := #[]) (mvT (s := W.s.setVm vm0) hZ0 (w56 hw))) (w56 hw) (w55 hw) (by decide) (argsL := []) (st := []) rfl rfl (lenOf pd18 rfl) rfl (Nat.le_of_eq rfl) (k' := 22) rfl (n' := 106) rfl (by decide) (by decide) rfl ?_
      intro r284 h285 Q285 O285
      obtain ⟨x286, rfl, E285, S285⟩ := Q285
      refine Ww.astore (pc' := 217) C at_215 rfl (Ls' := #[.val (.int p0), .val (.int p1), .val (.int p2), .val (.int p3), .val (.int p4), .val (.int p5), .val (.int (1 : Int32)), .val (.int (0 : Int32)), .val (.int v15), .val (.int v17), .val (.int v19), .val (.int v21), .val (.int v23), .val (.int v26), .val (.ref x243), .val (.ref x246), .val (.ref a247), .val (.ref a258), .val (.ref x286)]) rfl rfl ?_
      refine Ww.aload (pc' := 219) C at_217 rfl rfl rfl ?_
      refine Ww.aload (pc' := 221) C at_219 rfl rfl rfl ?_
      have X287 : Ext h264 h270 := Wk.Ext.keep1 (Z := Z) E266 K270 (Nat.le_of_eq ga265.symm)
      have X288 : Ext h264 h285 := Wk.Ext.trans X287 E285
      refine Ww.callV (pc' := 224) C at_221 (a := x286) (fun vm0 C => (strEq C hw hs O285 (Wn := 0) S285 (Sh264.ext X288) (by decide) (by decide))) (pureC (P := fun v => (v = some (.int 1) ∧ ((([] ++ ([v15] : List Int32)) ++ [46]) ++ ([] : List Int32) : List Int32) = [v15, (46 : Int32)]) ∨ (v = some (.int 0) ∧ ¬ ((([] ++ ([v15] : List Int32)) ++ [46]) ++ ([] : List Int32) : List Int32) = [v15, (46 : Int32)])) O285) (fun v h' q => Or.inl q.2) S285.exa (w169 hw) (w170 hw) (fun vm0 hZ0 => notFace_of_selects (args := #[]) (mvT (s := W.s.setVm vm0) hZ0 (w172 hw))) (w172 hw) (w171 hw) (by decide) (argsL := [(.ref a258)]) (st := []) rfl rfl (lenOf pd21 rfl) rfl (Nat.le_of_eq rfl) (k' := 22) rfl (n' := 106) rfl (by decide) (by decide) rfl ?_
      intro r289 h290 Q290 O290
      obtain ⟨q292, e291⟩ := Q290
      obtain rfl := e291.symm
      rcases q292 with ⟨rfl, q292⟩ | ⟨rfl, q292⟩
      · -- equal: True
        exact Ww.retNar (ty := .boolean) C hE (by simp) at_224 rfl (by decide) (by decide) rfl
      · -- equal: False
        exact absurd rfl q292
    · -- 1
      refine Ww.iload (pc' := 69) C at_67 rfl rfl ?_
      refine Ww.iload (pc' := 71) C at_69 rfl rfl ?_
      refine Ww.iload (pc' := 73) C at_71 rfl rfl ?_
      refine Ww.iload (pc' := 75) C at_73 rfl rfl ?_
      refine Ww.callSS (pc' := 78) C at_75 (Ww.Con.pays hE (Wn := 0) (own_str1 l hw hE O0 hs v15 v17 v19 (Wk.rng255 hv14 hv15) (Wk.rng255 hv16 hv17) (Wk.rng255 hv18 hv19)) (w3 hw) (w2 hw) (by decide) (by decide)) Wk.cleanC (w0 hw) (w1 hw) (w2 hw) (w3 hw) (by decide) (argsL := [(.int (1 : Int32)), (.int v15), (.int v17), (.int v19)]) (st := []) rfl rfl (lenOf pd19 rfl) rfl (Nat.le_of_eq rfl) (k' := 6) rfl (n' := 16) rfl (by decide) (by decide) rfl ?_
      intro r293 h294 Q294 O294
      obtain ⟨x295, rfl, E294, S294⟩ := Q294
      refine Ww.astore (pc' := 80) C at_78 rfl (Ls' := #[.val (.int p0), .val (.int p1), .val (.int p2), .val (.int p3), .val (.int p4), .val (.int p5), .val (.int (1 : Int32)), .val (.int (1 : Int32)), .val (.int v15), .val (.int v17), .val (.int v19), .val (.int v21), .val (.int v23), .val (.int v26), .val (.ref x295), .unset, .unset, .unset, .unset]) rfl rfl ?_
      refine Ww.iload (pc' := 82) C at_80 rfl rfl ?_
      refine Ww.iload (pc' := 84) C at_82 rfl rfl ?_
      refine Ww.iload (pc' := 86) C at_84 rfl rfl ?_
      refine Ww.iload (pc' := 88) C at_86 rfl rfl ?_
      refine Ww.callSS (pc' := 91) C at_88 (Ww.Con.pays hE (Wn := 0) (own_str1 l hw hE O294 hs v21 v23 v26 (Wk.rng255 hv20 hv21) (Wk.rng255 hv22 hv23) (Wk.rng255 hv25 hv26)) (w3 hw) (w2 hw) (by decide) (by decide)) Wk.cleanC (w0 hw) (w1 hw) (w2 hw) (w3 hw) (by decide) (argsL := [(.int (1 : Int32)), (.int v21), (.int v23), (.int v26)]) (st := []) rfl rfl (lenOf pd19 rfl) rfl (Nat.le_of_eq rfl) (k' := 12) rfl (n' := 32) rfl (by decide) (by decide) rfl ?_
      intro r296 h297 Q297 O297
      obtain ⟨x298, rfl, E297, S297⟩ := Q297
      refine Ww.astore (pc' := 93) C at_91 rfl (Ls' := #[.val (.int p0), .val (.int p1), .val (.int p2), .val (.int p3), .val (.int p4), .val (.int p5), .val (.int (1 : Int32)), .val (.int (1 : Int32)), .val (.int v15), .val (.int v17), .val (.int v19), .val (.int v21), .val (.int v23), .val (.int v26), .val (.ref x295), .val (.ref x298), .unset, .unset, .unset]) rfl rfl ?_
      refine Ww.iload (pc' := 95) C at_93 rfl rfl ?_
      refine Ww.iconst (pc' := 96) C at_95 (v := (1 : Int32)) rfl rfl ?_
      refine Ww.iadd (pc' := 97) C at_96 (v := (2 : Int32)) (by decide) rfl ?_
      refine Ww.iload (pc' := 99) C at_97 rfl rfl ?_
      refine Ww.iadd (pc' := 100) C at_99 (v := (3 : Int32)) (by decide) rfl ?_
      refine Ww.newA (pc' := 102) C at_100 (ty := .char) rfl (w7 hw) (by decide) (cap := 3) (by decide) (by decide) (k' := 13) rfl (n' := 35) rfl (by decide) (by decide) rfl rfl ?_
      intro a299 h300 ga299 za299 E300 Va299 O300
      have V301 : Wk.Ary Z h300 a299 .char [(.int (0 : Int32)), (.int (0 : Int32)), (.int (0 : Int32))] := Va299
      refine Ww.astore (pc' := 104) C at_102 rfl (Ls' := #[.val (.int p0), .val (.int p1), .val (.int p2), .val (.int p3), .val (.int p4), .val (.int p5), .val (.int (1 : Int32)), .val (.int (1 : Int32)), .val (.int v15), .val (.int v17), .val (.int v19), .val (.int v21), .val (.int v23), .val (.int v26), .val (.ref x295), .val (.ref x298), .val (.ref a299), .unset, .unset]) rfl rfl ?_
      refine Ww.iload (pc' := 106) C at_104 rfl rfl ?_
      refine Ww.if_le C at_106 (by decide) (pcT := 115) (by decide) (pc' := 109) rfl (fun q => absurd q (by decide)) (fun q302 => ?_)
      refine Ww.aload (pc' := 111) C at_109 rfl rfl rfl ?_
      refine Ww.iconst (pc' := 112) C at_111 (v := (0 : Int32)) rfl rfl ?_
      refine Ww.iload (pc' := 114) C at_112 rfl rfl ?_
      refine Ww.castore (pc' := 115) C at_114 V301 (by decide) (show _ < _ from Nat.le_of_ble_eq_true rfl) (Wk.nar_i2c hv15) (vs' := [(.int v15), (.int (0 : Int32)), (.int (0 : Int32))]) rfl za299 (List.mem_of_getElem? (i := 0) rfl) rfl ?_
      intro h303 W303 V303 O303
      refine Ww.iload (pc' := 117) C at_115 rfl rfl ?_
      refine Ww.iconst (pc' := 118) C at_117 (v := (1 : Int32)) rfl rfl ?_
      refine Ww.icmp_le C at_118 (by decide) (pcT := 127) (by decide) (pc' := 121) rfl (fun q304 => ?_) (fun q => absurd q (by decide))
      refine Ww.iload (pc' := 129) C at_127 rfl rfl ?_
      refine Ww.iconst (pc' := 130) C at_129 (v := (2 : Int32)) rfl rfl ?_
      refine Ww.icmp_le C at_130 (by decide) (pcT := 139) (by decide) (pc' := 133) rfl (fun q305 => ?_) (fun q => absurd q (by decide))
      refine Ww.aload (pc' := 141) C at_139 rfl rfl rfl ?_
      refine Ww.iload (pc' := 143) C at_141 rfl rfl ?_
      refine Ww.bipush (pc' := 145) C at_143 (v := (46 : Int32)) rfl rfl ?_
      refine Ww.castore (pc' := 146) C at_145 V303 (by decide) (show _ < _ from Nat.le_of_ble_eq_true rfl) (by decide) (vs' := [(.int v15), (.int (46 : Int32)), (.int (0 : Int32))]) rfl za299 (List.mem_of_getElem? (i := 0) rfl) rfl ?_
      intro h306 W306 V306 O306
      refine Ww.iload (pc' := 148) C at_146 rfl rfl ?_
      refine Ww.if_le C at_148 (by decide) (pcT := 160) (by decide) (pc' := 151) rfl (fun q => absurd q (by decide)) (fun q307 => ?_)
      refine Ww.aload (pc' := 153) C at_151 rfl rfl rfl ?_
      refine Ww.iload (pc' := 155) C at_153 rfl rfl ?_
      refine Ww.iconst (pc' := 156) C at_155 (v := (1 : Int32)) rfl rfl ?_
      refine Ww.iadd (pc' := 157) C at_156 (v := (2 : Int32)) (by decide) rfl ?_
      refine Ww.iload (pc' := 159) C at_157 rfl rfl ?_
      refine Ww.castore (pc' := 160) C at_159 V306 (by decide) (show _ < _ from Nat.le_of_ble_eq_true rfl) (Wk.nar_i2c hv21) (vs' := [(.int v15), (.int (46 : Int32)), (.int v21)]) rfl za299 (List.mem_of_getElem? (i := 0) rfl) rfl ?_
      intro h308 W308 V308 O308
      refine Ww.iload (pc' := 162) C at_160 rfl rfl ?_
      refine Ww.iconst (pc' := 163) C at_162 (v := (1 : Int32)) rfl rfl ?_
      refine Ww.icmp_le C at_163 (by decide) (pcT := 175) (by decide) (pc' := 166) rfl (fun q309 => ?_) (fun q => absurd q (by decide))
      refine Ww.iload (pc' := 177) C at_175 rfl rfl ?_
      refine Ww.iconst (pc' := 178) C at_177 (v := (2 : Int32)) rfl rfl ?_
      refine Ww.icmp_le C at_178 (by decide) (pcT := 190) (by decide) (pc' := 181) rfl (fun q310 => ?_) (fun q => absurd q (by decide))
      refine Ww.newO (pc' := 193) C at_190 (w4 hw) (w5 hw) (w6 hw) (k' := 14) rfl (n' := 39) rfl (by decide) (by decide) rfl ?_
      intro a311 h312 ga311 za311 E312 Aa311 Da311 Ua311 O312
      have F313 : Fld Z h312 a311 "java/lang/String" "coder" "B" (.int (0 : Int32)) := Da311 (Or.inr (w31 hw)) (ty := .byte) (by decide)
      have F314 : Fld Z h312 a311 "java/lang/String" "value" "[B" .null := Da311 (Or.inr (w33 hw)) (ty := (.array .byte)) (by decide)
      refine Ww.dup (pc' := 194) C at_193 rfl rfl ?_
      refine Ww.aload (pc' := 196) C at_194 rfl rfl rfl ?_
      have hp315 : ∀ c ∈ ([v15, (46 : Int32), v21] : List Int32), ¬ c < 0 ∧ ¬ (255 : Int32) < c := (List.forall_mem_cons.mpr ⟨(Wk.rng255 hv14 hv15), (List.forall_mem_cons.mpr ⟨⟨by decide, by decide⟩, (List.forall_mem_cons.mpr ⟨(Wk.rng255 hv20 hv21), (fun _ h => nomatch h)⟩)⟩)⟩)
      refine Ww.callI (pc' := 199) C at_196 (a := a311) (fun vm0 C => (strNew C hw hs O312 (cs := [v15, (46 : Int32), v21]) (n := 3) (Wn := 1) za311 Aa311 F314 F313 (V308.ext E312) rfl (by decide) (by decide) hp315 (by decide) (by decide))) (strNewC (n := 3) O312 za311 rfl (by decide) hp315) (fun v h' q => Or.inr (Or.inr ⟨[a311], allS (List.mem_of_getElem? (i := 0) rfl) all0, q.2.1⟩)) rfl (w8 hw) (w9 hw) (w10 hw) (by decide) (argsL := [(.ref a299)]) (st := [(.ref a311)]) rfl rfl (lenOf pd15 rfl) rfl (Nat.le_of_eq rfl) (k' := 15) rfl (n' := 42) rfl (by decide) (by decide) rfl ?_
      intro r316 h317 Q317 O317
      obtain ⟨rfl, Kh317, Sh317⟩ := Q317
      refine Ww.astore (pc' := 201) C at_199 rfl (Ls' := #[.val (.int p0), .val (.int p1), .val (.int p2), .val (.int p3), .val (.int p4), .val (.int p5), .val (.int (1 : Int32)), .val (.int (1 : Int32)), .val (.int v15), .val (.int v17), .val (.int v19), .val (.int v21), .val (.int v23), .val (.int v26), .val (.ref x295), .val (.ref x298), .val (.ref a299), .val (.ref a311), .unset]) rfl rfl ?_
      refine Ww.newO (pc' := 204) C at_201 (w37 hw) (w38 hw) (w39 hw) (k' := 16) rfl (n' := 44) rfl (by decide) (by decide) rfl ?_
      intro a318 h319 ga318 za318 E319 Aa318 Da318 Ua318 O319
      have F320 : Fld Z h319 a318 "com/example/isomorph/isomorph/MethodName" "className" "Ljava/lang/String;" .null := Da318 (Or.inr (w50 hw)) (ty := (.object "java/lang/String")) (by decide)
      have F321 : Fld Z h319 a318 "com/example/isomorph/isomorph/MethodName" "methodName" "Ljava/lang/String;" .null := Da318 (Or.inr (w52 hw)) (ty := (.object "java/lang/String")) (by decide)
      refine Ww.dup (pc' := 205) C at_204 rfl rfl ?_
      refine Ww.aload (pc' := 207) C at_205 rfl rfl rfl ?_
      refine Ww.aload (pc' := 209) C at_207 rfl rfl rfl ?_
      refine Ww.callI (pc' := 212) C at_209 (a := a318) (fun vm0 C => (Wk.Con.pays C (Wn := 1) (own_mnInit l hw O319 a318 x295 x298 za318 Aa318 F320 F321) (w42 hw) (w39 hw) (by decide) (by decide))) Wk.cleanC (fun v h' q => Or.inr (Or.inr ⟨[a318], allS (List.mem_of_getElem? (i := 0) rfl) all0, q.2.1⟩)) rfl (w40 hw) (w41 hw) (w42 hw) (by decide) (argsL := [(.ref x295), (.ref x298)]) (st := [(.ref a318)]) rfl rfl (lenOf pd20 rfl) rfl (Nat.le_of_eq rfl) (k' := 16) rfl (n' := 44) rfl (by decide) (by decide) rfl ?_
      intro r322 h323 Q323 O323
      obtain ⟨rfl, K323, A323, P323, T323⟩ := Q323
      have X324 : Ext h294 h300 := Wk.Ext.trans E297 E300
      have X325 : Ext h294 h303 := Wk.Ext.wr (Z := Z) X324 W303 (Nat.le_trans E297.1 (Nat.le_of_eq ga299.symm))
      have X326 : Ext h294 h306 := Wk.Ext.wr (Z := Z) X325 W306 (Nat.le_trans E297.1 (Nat.le_of_eq ga299.symm))
      have X327 : Ext h294 h308 := Wk.Ext.wr (Z := Z) X326 W308 (Nat.le_trans E297.1 (Nat.le_of_eq ga299.symm))
      have X328 : Ext h294 h312 := Wk.Ext.trans X327 E312
      have X329 : Ext h294 h317 := Wk.Ext.keep1 (Z := Z) X328 Kh317 (Nat.le_trans X327.1 (Nat.le_of_eq ga311.symm))
      have X330 : Ext h294 h319 := Wk.Ext.trans X329 E319
      have X331 : Ext h294 h323 := Wk.Ext.keep1 (Z := Z) X330 K323 (Nat.le_trans X329.1 (Nat.le_of_eq ga318.symm))
      have X332 : Ext h297 h303 := Wk.Ext.wr (Z := Z) E300 W303 (Nat.le_of_eq ga299.symm)
      have X333 : Ext h297 h306 := Wk.Ext.wr (Z := Z) X332 W306 (Nat.le_of_eq ga299.symm)
      have X334 : Ext h297 h308 := Wk.Ext.wr (Z := Z) X333 W308 (Nat.le_of_eq ga299.symm)
      have X335 : Ext h297 h312 := Wk.Ext.trans X334 E312
      have X336 : Ext h297 h317 := Wk.Ext.keep1 (Z := Z) X335 Kh317 (Nat.le_trans X334.1 (Nat.le_of_eq ga311.symm))
      have X337 : Ext h297 h319 := Wk.Ext.trans X336 E319
      have X338 : Ext h297 h323 := Wk.Ext.keep1 (Z := Z) X337 K323 (Nat.le_trans X336.1 (Nat.le_of_eq ga318.symm))
      refine Ww.callVS (pc' := 215) C at_212 (a := a318) (Ww.Con.pays hE (Wn := 0) (own_mnTo l hw hE O323 hs a318 x295 x298 ([v15] : List Int32) ([v21] : List Int32) P323 T323 (S294.ext X331) (S297.ext X338) (show _ ≤ 3 from Nat.le_of_ble_eq_true rfl) (show _ ≤ 3 from Nat.le_of_ble_eq_true rfl)) (w57 hw) (w39 hw) (by decide) (by decide)) Wk.cleanC A323 (w53 hw) (w54 hw) (fun vm0 hZ0 => notFace_of_selects (args := #[]) (mvT (s := W.s.setVm vm0) hZ0 (w56 hw))) (w56 hw) (w55 hw) (by decide) (argsL := []) (st := []) rfl rfl (lenOf pd18 rfl) rfl (Nat.le_of_eq rfl) (k' := 22) rfl (n' := 108) rfl (by decide) (by decide) rfl ?_
      intro r339 h340 Q340 O340
      obtain ⟨x341, rfl, E340, S340⟩ := Q340
      refine Ww.astore (pc' := 217) C at_215 rfl (Ls' := #[.val (.int p0), .val (.int p1), .val (.int p2), .val (.int p3), .val (.int p4), .val (.int p5), .val (.int (1 : Int32)), .val (.int (1 : Int32)), .val (.int v15), .val (.int v17), .val (.int v19), .val (.int v21), .val (.int v23), .val (.int v26), .val (.ref x295), .val (.ref x298), .val (.ref a299), .val (.ref a311), .val (.ref x341)]) rfl rfl ?_
      refine Ww.aload (pc' := 219) C at_217 rfl rfl rfl ?_
      refine Ww.aload (pc' := 221) C at_219 rfl rfl rfl ?_
      have X342 : Ext h317 h323 := Wk.Ext.keep1 (Z := Z) E319 K323 (Nat.le_of_eq ga318.symm)
      have X343 : Ext h317 h340 := Wk.Ext.trans X342 E340
      refine Ww.callV (pc' := 224) C at_221 (a := x341) (fun vm0 C => (strEq C hw hs O340 (Wn := 0) S340 (Sh317.ext X343) (by decide) (by decide))) (pureC (P := fun v => (v = some (.int 1) ∧ ((([] ++ ([v15] : List Int32)) ++ [46]) ++ ([v21] : List Int32) : List Int32) = [v15, (46 : Int32), v21]) ∨ (v = some (.int 0) ∧ ¬ ((([] ++ ([v15] : List Int32)) ++ [46]) ++ ([v21] : List Int32) : List Int32) = [v15, (46 : Int32), v21])) O340) (fun v h' q => Or.inl q.2) S340.exa (w169 hw) (w170 hw) (fun vm0 hZ0 => notFace_of_selects (args := #[]) (mvT (s := W.s.setVm vm0) hZ0 (w172 hw))) (w172 hw) (w171 hw) (by decide) (argsL := [(.ref a311)]) (st := []) rfl rfl (lenOf pd21 rfl) rfl (Nat.le_of_eq rfl) (k' := 22) rfl (n' := 108) rfl (by decide) (by decide) rfl ?_
      intro r344 h345 Q345 O345
      obtain ⟨q347, e346⟩ := Q345
      obtain rfl := e346.symm
      rcases q347 with ⟨rfl, q347⟩ | ⟨rfl, q347⟩
      · -- equal: True
        exact Ww.retNar (ty := .boolean) C hE (by simp) at_224 rfl (by decide) (by decide) rfl
      · -- equal: False
        exact absurd rfl q347
    · -- 2
      refine Ww.iload (pc' := 69) C at_67 rfl rfl ?_
      refine Ww.iload (pc' := 71) C at_69 rfl rfl ?_
      refine Ww.iload (pc' := 73) C at_71 rfl rfl ?_
      refine Ww.iload (pc' := 75) C at_73 rfl rfl ?_
      refine Ww.callSS (pc' := 78) C at_75 (Ww.Con.pays hE (Wn := 0) (own_str1 l hw hE O0 hs v15 v17 v19 (Wk.rng255 hv14 hv15) (Wk.rng255 hv16 hv17) (Wk.rng255 hv18 hv19)) (w3 hw) (w2 hw) (by decide) (by decide)) Wk.cleanC (w0 hw) (w1 hw) (w2 hw) (w3 hw) (by decide) (argsL := [(.int (1 : Int32)), (.int v15), (.int v17), (.int v19)]) (st := []) rfl rfl (lenOf pd19 rfl) rfl (Nat.le_of_eq rfl) (k' := 6) rfl (n' := 16) rfl (by decide) (by decide) rfl ?_
      intro r348 h349 Q349 O349
      obtain ⟨x350, rfl, E349, S349⟩ := Q349
      refine Ww.astore (pc' := 80) C at_78 rfl (Ls' := #[.val (.int p0), .val (.int p1), .val (.int p2), .val (.int p3), .val (.int p4), .val (.int p5), .val (.int (1 : Int32)), .val (.int (2 : Int32)), .val (.int v15), .val (.int v17), .val (.int v19), .val (.int v21), .val (.int v23), .val (.int v26), .val (.ref x350), .unset, .unset, .unset, .unset]) rfl rfl ?_
      refine Ww.iload (pc' := 82) C at_80 rfl rfl ?_
      refine Ww.iload (pc' := 84) C at_82 rfl rfl ?_
      refine Ww.iload (pc' := 86) C at_84 rfl rfl ?_
      refine Ww.iload (pc' := 88) C at_86 rfl rfl ?_
      refine Ww.callSS (pc' := 91) C at_88 (Ww.Con.pays hE (Wn := 0) (own_str2 l hw hE O349 hs v21 v23 v26 (Wk.rng255 hv20 hv21) (Wk.rng255 hv22 hv23) (Wk.rng255 hv25 hv26)) (w3 hw) (w2 hw) (by decide) (by decide)) Wk.cleanC (w0 hw) (w1 hw) (w2 hw) (w3 hw) (by decide) (argsL := [(.int (2 : Int32)), (.int v21), (.int v23), (.int v26)]) (st := []) rfl rfl (lenOf pd19 rfl) rfl (Nat.le_of_eq rfl) (k' := 12) rfl (n' := 32) rfl (by decide) (by decide) rfl ?_
      intro r351 h352 Q352 O352
      obtain ⟨x353, rfl, E352, S352⟩ := Q352
      refine Ww.astore (pc' := 93) C at_91 rfl (Ls' := #[.val (.int p0), .val (.int p1), .val (.int p2), .val (.int p3), .val (.int p4), .val (.int p5), .val (.int (1 : Int32)), .val (.int (2 : Int32)), .val (.int v15), .val (.int v17), .val (.int v19), .val (.int v21), .val (.int v23), .val (.int v26), .val (.ref x350), .val (.ref x353), .unset, .unset, .unset]) rfl rfl ?_
      refine Ww.iload (pc' := 95) C at_93 rfl rfl ?_
      refine Ww.iconst (pc' := 96) C at_95 (v := (1 : Int32)) rfl rfl ?_
      refine Ww.iadd (pc' := 97) C at_96 (v := (2 : Int32)) (by decide) rfl ?_
      refine Ww.iload (pc' := 99) C at_97 rfl rfl ?_
      refine Ww.iadd (pc' := 100) C at_99 (v := (4 : Int32)) (by decide) rfl ?_
      refine Ww.newA (pc' := 102) C at_100 (ty := .char) rfl (w7 hw) (by decide) (cap := 4) (by decide) (by decide) (k' := 13) rfl (n' := 36) rfl (by decide) (by decide) rfl rfl ?_
      intro a354 h355 ga354 za354 E355 Va354 O355
      have V356 : Wk.Ary Z h355 a354 .char [(.int (0 : Int32)), (.int (0 : Int32)), (.int (0 : Int32)), (.int (0 : Int32))] := Va354
      refine Ww.astore (pc' := 104) C at_102 rfl (Ls' := #[.val (.int p0), .val (.int p1), .val (.int p2), .val (.int p3), .val (.int p4), .val (.int p5), .val (.int (1 : Int32)), .val (.int (2 : Int32)), .val (.int v15), .val (.int v17), .val (.int v19), .val (.int v21), .val (.int v23), .val (.int v26), .val (.ref x350), .val (.ref x353), .val (.ref a354), .unset, .unset]) rfl rfl ?_
      refine Ww.iload (pc' := 106) C at_104 rfl rfl ?_
      refine Ww.if_le C at_106 (by decide) (pcT := 115) (by decide) (pc' := 109) rfl (fun q => absurd q (by decide)) (fun q357 => ?_)
      refine Ww.aload (pc' := 111) C at_109 rfl rfl rfl ?_
      refine Ww.iconst (pc' := 112) C at_111 (v := (0 : Int32)) rfl rfl ?_
      refine Ww.iload (pc' := 114) C at_112 rfl rfl ?_
      refine Ww.castore (pc' := 115) C at_114 V356 (by decide) (show _ < _ from Nat.le_of_ble_eq_true rfl) (Wk.nar_i2c hv15) (vs' := [(.int v15), (.int (0 : Int32)), (.int (0 : Int32)), (.int (0 : Int32))]) rfl za354 (List.mem_of_getElem? (i := 0) rfl) rfl ?_
      intro h358 W358 V358 O358
      refine Ww.iload (pc' := 117) C at_115 rfl rfl ?_
      refine Ww.iconst (pc' := 118) C at_117 (v := (1 : Int32)) rfl rfl ?_
      refine Ww.icmp_le C at_118 (by decide) (pcT := 127) (by decide) (pc' := 121) rfl (fun q359 => ?_) (fun q => absurd q (by decide))
      refine Ww.iload (pc' := 129) C at_127 rfl rfl ?_
      refine Ww.iconst (pc' := 130) C at_129 (v := (2 : Int32)) rfl rfl ?_
      refine Ww.icmp_le C at_130 (by decide) (pcT := 139) (by decide) (pc' := 133) rfl (fun q360 => ?_) (fun q => absurd q (by decide))
      refine Ww.aload (pc' := 141) C at_139 rfl rfl rfl ?_
      refine Ww.iload (pc' := 143) C at_141 rfl rfl ?_
      refine Ww.bipush (pc' := 145) C at_143 (v := (46 : Int32)) rfl rfl ?_
      refine Ww.castore (pc' := 146) C at_145 V358 (by decide) (show _ < _ from Nat.le_of_ble_eq_true rfl) (by decide) (vs' := [(.int v15), (.int (46 : Int32)), (.int (0 : Int32)), (.int (0 : Int32))]) rfl za354 (List.mem_of_getElem? (i := 0) rfl) rfl ?_
      intro h361 W361 V361 O361
      refine Ww.iload (pc' := 148) C at_146 rfl rfl ?_
      refine Ww.if_le C at_148 (by decide) (pcT := 160) (by decide) (pc' := 151) rfl (fun q => absurd q (by decide)) (fun q362 => ?_)
      refine Ww.aload (pc' := 153) C at_151 rfl rfl rfl ?_
      refine Ww.iload (pc' := 155) C at_153 rfl rfl ?_
      refine Ww.iconst (pc' := 156) C at_155 (v := (1 : Int32)) rfl rfl ?_
      refine Ww.iadd (pc' := 157) C at_156 (v := (2 : Int32)) (by decide) rfl ?_
      refine Ww.iload (pc' := 159) C at_157 rfl rfl ?_
      refine Ww.castore (pc' := 160) C at_159 V361 (by decide) (show _ < _ from Nat.le_of_ble_eq_true rfl) (Wk.nar_i2c hv21) (vs' := [(.int v15), (.int (46 : Int32)), (.int v21), (.int (0 : Int32))]) rfl za354 (List.mem_of_getElem? (i := 0) rfl) rfl ?_
      intro h363 W363 V363 O363
      refine Ww.iload (pc' := 162) C at_160 rfl rfl ?_
      refine Ww.iconst (pc' := 163) C at_162 (v := (1 : Int32)) rfl rfl ?_
      refine Ww.icmp_le C at_163 (by decide) (pcT := 175) (by decide) (pc' := 166) rfl (fun q => absurd q (by decide)) (fun q364 => ?_)
      refine Ww.aload (pc' := 168) C at_166 rfl rfl rfl ?_
      refine Ww.iload (pc' := 170) C at_168 rfl rfl ?_
      refine Ww.iconst (pc' := 171) C at_170 (v := (2 : Int32)) rfl rfl ?_
      refine Ww.iadd (pc' := 172) C at_171 (v := (3 : Int32)) (by decide) rfl ?_
      refine Ww.iload (pc' := 174) C at_172 rfl rfl ?_
      refine Ww.castore (pc' := 175) C at_174 V363 (by decide) (show _ < _ from Nat.le_of_ble_eq_true rfl) (Wk.nar_i2c hv23) (vs' := [(.int v15), (.int (46 : Int32)), (.int v21), (.int v23)]) rfl za354 (List.mem_of_getElem? (i := 0) rfl) rfl ?_
      intro h365 W365 V365 O365
      refine Ww.iload (pc' := 177) C at_175 rfl rfl ?_
      refine Ww.iconst (pc' := 178) C at_177 (v := (2 : Int32)) rfl rfl ?_
      refine Ww.icmp_le C at_178 (by decide) (pcT := 190) (by decide) (pc' := 181) rfl (fun q366 => ?_) (fun q => absurd q (by decide))
      refine Ww.newO (pc' := 193) C at_190 (w4 hw) (w5 hw) (w6 hw) (k' := 14) rfl (n' := 40) rfl (by decide) (by decide) rfl ?_
      intro a367 h368 ga367 za367 E368 Aa367 Da367 Ua367 O368
      have F369 : Fld Z h368 a367 "java/lang/String" "coder" "B" (.int (0 : Int32)) := Da367 (Or.inr (w31 hw)) (ty := .byte) (by decide)
      have F370 : Fld Z h368 a367 "java/lang/String" "value" "[B" .null := Da367 (Or.inr (w33 hw)) (ty := (.array .byte)) (by decide)
      refine Ww.dup (pc' := 194) C at_193 rfl rfl ?_
      refine Ww.aload (pc' := 196) C at_194 rfl rfl rfl ?_
      have hp371 : ∀ c ∈ ([v15, (46 : Int32), v21, v23] : List Int32), ¬ c < 0 ∧ ¬ (255 : Int32) < c := (List.forall_mem_cons.mpr ⟨(Wk.rng255 hv14 hv15), (List.forall_mem_cons.mpr ⟨⟨by decide, by decide⟩, (List.forall_mem_cons.mpr ⟨(Wk.rng255 hv20 hv21), (List.forall_mem_cons.mpr ⟨(Wk.rng255 hv22 hv23), (fun _ h => nomatch h)⟩)⟩)⟩)⟩)
      refine Ww.callI (pc' := 199) C at_196 (a := a367) (fun vm0 C => (strNew C hw hs O368 (cs := [v15, (46 : Int32), v21, v23]) (n := 4) (Wn := 1) za367 Aa367 F370 F369 (V365.ext E368) rfl (by decide) (by decide) hp371 (by decide) (by decide))) (strNewC (n := 4) O368 za367 rfl (by decide) hp371) (fun v h' q => Or.inr (Or.inr ⟨[a367], allS (List.mem_of_getElem? (i := 0) rfl) all0, q.2.1⟩)) rfl (w8 hw) (w9 hw) (w10 hw) (by decide) (argsL := [(.ref a354)]) (st := [(.ref a367)]) rfl rfl (lenOf pd15 rfl) rfl (Nat.le_of_eq rfl) (k' := 15) rfl (n' := 44) rfl (by decide) (by decide) rfl ?_
      intro r372 h373 Q373 O373
      obtain ⟨rfl, Kh373, Sh373⟩ := Q373
      refine Ww.astore (pc' := 201) C at_199 rfl (Ls' := #[.val (.int p0), .val (.int p1), .val (.int p2), .val (.int p3), .val (.int p4), .val (.int p5), .val (.int (1 : Int32)), .val (.int (2 : Int32)), .val (.int v15), .val (.int v17), .val (.int v19), .val (.int v21), .val (.int v23), .val (.int v26), .val (.ref x350), .val (.ref x353), .val (.ref a354), .val (.ref a367), .unset]) rfl rfl ?_
      refine Ww.newO (pc' := 204) C at_201 (w37 hw) (w38 hw) (w39 hw) (k' := 16) rfl (n' := 46) rfl (by decide) (by decide) rfl ?_
      intro a374 h375 ga374 za374 E375 Aa374 Da374 Ua374 O375
      have F376 : Fld Z h375 a374 "com/example/isomorph/isomorph/MethodName" "className" "Ljava/lang/String;" .null := Da374 (Or.inr (w50 hw)) (ty := (.object "java/lang/String")) (by decide)
      have F377 : Fld Z h375 a374 "com/example/isomorph/isomorph/MethodName" "methodName" "Ljava/lang/String;" .null := Da374 (Or.inr (w52 hw)) (ty := (.object "java/lang/String")) (by decide)
      refine Ww.dup (pc' := 205) C at_204 rfl rfl ?_
      refine Ww.aload (pc' := 207) C at_205 rfl rfl rfl ?_
      refine Ww.aload (pc' := 209) C at_207 rfl rfl rfl ?_
      refine Ww.callI (pc' := 212) C at_209 (a := a374) (fun vm0 C => (Wk.Con.pays C (Wn := 1) (own_mnInit l hw O375 a374 x350 x353 za374 Aa374 F376 F377) (w42 hw) (w39 hw) (by decide) (by decide))) Wk.cleanC (fun v h' q => Or.inr (Or.inr ⟨[a374], allS (List.mem_of_getElem? (i := 0) rfl) all0, q.2.1⟩)) rfl (w40 hw) (w41 hw) (w42 hw) (by decide) (argsL := [(.ref x350), (.ref x353)]) (st := [(.ref a374)]) rfl rfl (lenOf pd20 rfl) rfl (Nat.le_of_eq rfl) (k' := 16) rfl (n' := 46) rfl (by decide) (by decide) rfl ?_
      intro r378 h379 Q379 O379
      obtain ⟨rfl, K379, A379, P379, T379⟩ := Q379
      have X380 : Ext h349 h355 := Wk.Ext.trans E352 E355
      have X381 : Ext h349 h358 := Wk.Ext.wr (Z := Z) X380 W358 (Nat.le_trans E352.1 (Nat.le_of_eq ga354.symm))
      have X382 : Ext h349 h361 := Wk.Ext.wr (Z := Z) X381 W361 (Nat.le_trans E352.1 (Nat.le_of_eq ga354.symm))
      have X383 : Ext h349 h363 := Wk.Ext.wr (Z := Z) X382 W363 (Nat.le_trans E352.1 (Nat.le_of_eq ga354.symm))
      have X384 : Ext h349 h365 := Wk.Ext.wr (Z := Z) X383 W365 (Nat.le_trans E352.1 (Nat.le_of_eq ga354.symm))
      have X385 : Ext h349 h368 := Wk.Ext.trans X384 E368
      have X386 : Ext h349 h373 := Wk.Ext.keep1 (Z := Z) X385 Kh373 (Nat.le_trans X384.1 (Nat.le_of_eq ga367.symm))
      have X387 : Ext h349 h375 := Wk.Ext.trans X386 E375
      have X388 : Ext h349 h379 := Wk.Ext.keep1 (Z := Z) X387 K379 (Nat.le_trans X386.1 (Nat.le_of_eq ga374.symm))
      have X389 : Ext h352 h358 := Wk.Ext.wr (Z := Z) E355 W358 (Nat.le_of_eq ga354.symm)
      have X390 : Ext h352 h361 := Wk.Ext.wr (Z := Z) X389 W361 (Nat.le_of_eq ga354.symm)
      have X391 : Ext h352 h363 := Wk.Ext.wr (Z := Z) X390 W363 (Nat.le_of_eq ga354.symm)
      have X392 : Ext h352 h365 := Wk.Ext.wr (Z := Z) X391 W365 (Nat.le_of_eq ga354.symm)
      have X393 : Ext h352 h368 := Wk.Ext.trans X392 E368
      have X394 : Ext h352 h373 := Wk.Ext.keep1 (Z := Z) X393 Kh373 (Nat.le_trans X392.1 (Nat.le_of_eq ga367.symm))
      have X395 : Ext h352 h375 := Wk.Ext.trans X394 E375
      have X396 : Ext h352 h379 := Wk.Ext.keep1 (Z := Z) X395 K379 (Nat.le_trans X394.1 (Nat.le_of_eq ga374.symm))
      refine Ww.callVS (pc' := 215) C at_212 (a := a374) (Ww.Con.pays hE (Wn := 0) (own_mnTo l hw hE O379 hs a374 x350 x353 ([v15] : List Int32) ([v21, v23] : List Int32) P379 T379 (S349.ext X388) (S352.ext X396) (show _ ≤ 3 from Nat.le_of_ble_eq_true rfl) (show _ ≤ 3 from Nat.le_of_ble_eq_true rfl)) (w57 hw) (w39 hw) (by decide) (by decide)) Wk.cleanC A379 (w53 hw) (w54 hw) (fun vm0 hZ0 => notFace_of_selects (args := #[]) (mvT (s := W.s.setVm vm0) hZ0 (w56 hw))) (w56 hw) (w55 hw) (by decide) (argsL := []) (st := []) rfl rfl (lenOf pd18 rfl) rfl (Nat.le_of_eq rfl) (k' := 22) rfl (n' := 110) rfl (by decide) (by decide) rfl ?_
      intro r397 h398 Q398 O398
      obtain ⟨x399, rfl, E398, S398⟩ := Q398
      refine Ww.astore (pc' := 217) C at_215 rfl (Ls' := #[.val (.int p0), .val (.int p1), .val (.int p2), .val (.int p3), .val (.int p4), .val (.int p5), .val (.int (1 : Int32)), .val (.int (2 : Int32)), .val (.int v15), .val (.int v17), .val (.int v19), .val (.int v21), .val (.int v23), .val (.int v26), .val (.ref x350), .val (.ref x353), .val (.ref a354), .val (.ref a367), .val (.ref x399)]) rfl rfl ?_
      refine Ww.aload (pc' := 219) C at_217 rfl rfl rfl ?_
      refine Ww.aload (pc' := 221) C at_219 rfl rfl rfl ?_
      have X400 : Ext h373 h379 := Wk.Ext.keep1 (Z := Z) E375 K379 (Nat.le_of_eq ga374.symm)
      have X401 : Ext h373 h398 := Wk.Ext.trans X400 E398
      refine Ww.callV (pc' := 224) C at_221 (a := x399) (fun vm0 C => (strEq C hw hs O398 (Wn := 0) S398 (Sh373.ext X401) (by decide) (by decide))) (pureC (P := fun v => (v = some (.int 1) ∧ ((([] ++ ([v15] : List Int32)) ++ [46]) ++ ([v21, v23] : List Int32) : List Int32) = [v15, (46 : Int32), v21, v23]) ∨ (v = some (.int 0) ∧ ¬ ((([] ++ ([v15] : List Int32)) ++ [46]) ++ ([v21, v23] : List Int32) : List Int32) = [v15, (46 : Int32), v21, v23])) O398) (fun v h' q => Or.inl q.2) S398.exa (w169 hw) (w170 hw) (fun vm0 hZ0 => notFace_of_selects (args := #[]) (mvT (s := W.s.setVm vm0) hZ0 (w172 hw))) (w172 hw) (w171 hw) (by decide) (argsL := [(.ref a367)]) (st := []) rfl rfl (lenOf pd21 rfl) rfl (Nat.le_of_eq rfl) (k' := 22) rfl (n' := 110) rfl (by decide) (by decide) rfl ?_
      intro r402 h403 Q403 O403
      obtain ⟨q405, e404⟩ := Q403
      obtain rfl := e404.symm
      rcases q405 with ⟨rfl, q405⟩ | ⟨rfl, q405⟩
      · -- equal: True
        exact Ww.retNar (ty := .boolean) C hE (by simp) at_224 rfl (by decide) (by decide) rfl
      · -- equal: False
        exact absurd rfl q405
    · -- 3
      refine Ww.iload (pc' := 69) C at_67 rfl rfl ?_
      refine Ww.iload (pc' := 71) C at_69 rfl rfl ?_
      refine Ww.iload (pc' := 73) C at_71 rfl rfl ?_
      refine Ww.iload (pc' := 75) C at_73 rfl rfl ?_
      refine Ww.callSS (pc' := 78) C at_75 (Ww.Con.pays hE (Wn := 0) (own_str1 l hw hE O0 hs v15 v17 v19 (Wk.rng255 hv14 hv15) (Wk.rng255 hv16 hv17) (Wk.rng255 hv18 hv19)) (w3 hw) (w2 hw) (by decide) (by decide)) Wk.cleanC (w0 hw) (w1 hw) (w2 hw) (w3 hw) (by decide) (argsL := [(.int (1 : Int32)), (.int v15), (.int v17), (.int v19)]) (st := []) rfl rfl (lenOf pd19 rfl) rfl (Nat.le_of_eq rfl) (k' := 6) rfl (n' := 16) rfl (by decide) (by decide) rfl ?_
      intro r406 h407 Q407 O407
      obtain ⟨x408, rfl, E407, S407⟩ := Q407
      refine Ww.astore (pc' := 80) C at_78 rfl (Ls' := #[.val (.int p0), .val (.int p1), .val (.int p2), .val (.int p3), .val (.int p4), .val (.int p5), .val (.int (1 : Int32)), .val (.int (3 : Int32)), .val (.int v15), .val (.int v17), .val (.int v19), .val (.int v21), .val (.int v23), .val (.int v26), .val (.ref x408), .unset, .unset, .unset, .unset]) rfl rfl ?_
      refine Ww.iload (pc' := 82) C at_80 rfl rfl ?_
      refine Ww.iload (pc' := 84) C at_82 rfl rfl ?_
      refine Ww.iload (pc' := 86) C at_84 rfl rfl ?_
      refine Ww.iload (pc' := 88) C at_86 rfl rfl ?_
      refine Ww.callSS (pc' := 91) C at_88 (Ww.Con.pays hE (Wn := 0) (own_str3 l hw hE O407 hs v21 v23 v26 (Wk.rng255 hv20 hv21) (Wk.rng255 hv22 hv23) (Wk.rng255 hv25 hv26)) (w3 hw) (w2 hw) (by decide) (by decide)) Wk.cleanC (w0 hw) (w1 hw) (w2 hw) (w3 hw) (by decide) (argsL := [(.int (3 : Int32)), (.int v21), (.int v23), (.int v26)]) (st := []) rfl rfl (lenOf pd19 rfl) rfl (Nat.le_of_eq rfl) (k' := 12) rfl (n' := 32) rfl (by decide) (by decide) rfl ?_
      intro r409 h410 Q410 O410
      obtain ⟨x411, rfl, E410, S410⟩ := Q410
      refine Ww.astore (pc' := 93) C at_91 rfl (Ls' := #[.val (.int p0), .val (.int p1), .val (.int p2), .val (.int p3), .val (.int p4), .val (.int p5), .val (.int (1 : Int32)), .val (.int (3 : Int32)), .val (.int v15), .val (.int v17), .val (.int v19), .val (.int v21), .val (.int v23), .val (.int v26), .val (.ref x408), .val (.ref x411), .unset, .unset, .unset]) rfl rfl ?_
      refine Ww.iload (pc' := 95) C at_93 rfl rfl ?_
      refine Ww.iconst (pc' := 96) C at_95 (v := (1 : Int32)) rfl rfl ?_
      refine Ww.iadd (pc' := 97) C at_96 (v := (2 : Int32)) (by decide) rfl ?_
      refine Ww.iload (pc' := 99) C at_97 rfl rfl ?_
      refine Ww.iadd (pc' := 100) C at_99 (v := (5 : Int32)) (by decide) rfl ?_
      refine Ww.newA (pc' := 102) C at_100 (ty := .char) rfl (w7 hw) (by decide) (cap := 5) (by decide) (by decide) (k' := 13) rfl (n' := 37) rfl (by decide) (by decide) rfl rfl ?_
      intro a412 h413 ga412 za412 E413 Va412 O413
      have V414 : Wk.Ary Z h413 a412 .char [(.int (0 : Int32)), (.int (0 : Int32)), (.int (0 : Int32)), (.int (0 : Int32)), (.int (0 : Int32))] := Va412
      refine Ww.astore (pc' := 104) C at_102 rfl (Ls' := #[.val (.int p0), .val (.int p1), .val (.int p2), .val (.int p3), .val (.int p4), .val (.int p5), .val (.int (1 : Int32)), .val (.int (3 : Int32)), .val (.int v15), .val (.int v17), .val (.int v19), .val (.int v21), .val (.int v23), .val (.int v26), .val (.ref x408), .val (.ref x411), .val (.ref a412), .unset, .unset]) rfl rfl ?_
      refine Ww.iload (pc' := 106) C at_104 rfl rfl ?_
      refine Ww.if_le C at_106 (by decide) (pcT := 115) (by decide) (pc' := 109) rfl (fun q => absurd q (by decide)) (fun q415 => ?_)
      refine Ww.aload (pc' := 111) C at_109 rfl rfl rfl ?_
      refine Ww.iconst (pc' := 112) C at_111 (v := (0 : Int32)) rfl rfl ?_
      refine Ww.iload (pc' := 114) C at_112 rfl rfl ?_
      refine Ww.castore (pc' := 115) C at_114 V414 (by decide) (show _ < _ from Nat.le_of_ble_eq_true rfl) (Wk.nar_i2c hv15) (vs' := [(.int v15), (.int (0 : Int32)), (.int (0 : Int32)), (.int (0 : Int32)), (.int (0 : Int32))]) rfl za412 (List.mem_of_getElem? (i := 0) rfl) rfl ?_
      intro h416 W416 V416 O416
      refine Ww.iload (pc' := 117) C at_115 rfl rfl ?_
      refine Ww.iconst (pc' := 118) C at_117 (v := (1 : Int32)) rfl rfl ?_
      refine Ww.icmp_le C at_118 (by decide) (pcT := 127) (by decide) (pc' := 121) rfl (fun q417 => ?_) (fun q => absurd q (by decide))
      refine Ww.iload (pc' := 129) C at_127 rfl rfl ?_
      refine Ww.iconst (pc' := 130) C at_129 (v := (2 : Int32)) rfl rfl ?_
      refine Ww.icmp_le C at_130 (by decide) (pcT := 139) (by decide) (pc' := 133) rfl (fun q418 => ?_) (fun q => absurd q (by decide))
      refine Ww.aload (pc' := 141) C at_139 rfl rfl rfl ?_
      refine Ww.iload (pc' := 143) C at_141 rfl rfl ?_
      refine Ww.bipush (pc' := 145) C at_143 (v := (46 : Int32)) rfl rfl ?_
      refine Ww.castore (pc' := 146) C at_145 V416 (by decide) (show _ < _ from Nat.le_of_ble_eq_true rfl) (by decide) (vs' := [(.int v15), (.int (46 : Int32)), (.int (0 : Int32)), (.int (0 : Int32)), (.int (0 : Int32))]) rfl za412 (List.mem_of_getElem? (i := 0) rfl) rfl ?_
      intro h419 W419 V419 O419
      refine Ww.iload (pc' := 148) C at_146 rfl rfl ?_
      refine Ww.if_le C at_148 (by decide) (pcT := 160) (by decide) (pc' := 151) rfl (fun q => absurd q (by decide)) (fun q420 => ?_)
      refine Ww.aload (pc' := 153) C at_151 rfl rfl rfl ?_
      refine Ww.iload (pc' := 155) C at_153 rfl rfl ?_
      refine Ww.iconst (pc' := 156) C at_155 (v := (1 : Int32)) rfl rfl ?_
      refine Ww.iadd (pc' := 157) C at_156 (v := (2 : Int32)) (by decide) rfl ?_
      refine Ww.iload (pc' := 159) C at_157 rfl rfl ?_
      refine Ww.castore (pc' := 160) C at_159 V419 (by decide) (show _ < _ from Nat.le_of_ble_eq_true rfl) (Wk.nar_i2c hv21) (vs' := [(.int v15), (.int (46 : Int32)), (.int v21), (.int (0 : Int32)), (.int (0 : Int32))]) rfl za412 (List.mem_of_getElem? (i := 0) rfl) rfl ?_
      intro h421 W421 V421 O421
      refine Ww.iload (pc' := 162) C at_160 rfl rfl ?_
      refine Ww.iconst (pc' := 163) C at_162 (v := (1 : Int32)) rfl rfl ?_
      refine Ww.icmp_le C at_163 (by decide) (pcT := 175) (by decide) (pc' := 166) rfl (fun q => absurd q (by decide)) (fun q422 => ?_)
      refine Ww.aload (pc' := 168) C at_166 rfl rfl rfl ?_
      refine Ww.iload (pc' := 170) C at_168 rfl rfl ?_
      refine Ww.iconst (pc' := 171) C at_170 (v := (2 : Int32)) rfl rfl ?_
      refine Ww.iadd (pc' := 172) C at_171 (v := (3 : Int32)) (by decide) rfl ?_
      refine Ww.iload (pc' := 174) C at_172 rfl rfl ?_
      refine Ww.castore (pc' := 175) C at_174 V421 (by decide) (show _ < _ from Nat.le_of_ble_eq_true rfl) (Wk.nar_i2c hv23) (vs' := [(.int v15), (.int (46 : Int32)), (.int v21), (.int v23), (.int (0 : Int32))]) rfl za412 (List.mem_of_getElem? (i := 0) rfl) rfl ?_
      intro h423 W423 V423 O423
      refine Ww.iload (pc' := 177) C at_175 rfl rfl ?_
      refine Ww.iconst (pc' := 178) C at_177 (v := (2 : Int32)) rfl rfl ?_
      refine Ww.icmp_le C at_178 (by decide) (pcT := 190) (by decide) (pc' := 181) rfl (fun q => absurd q (by decide)) (fun q424 => ?_)
      refine Ww.aload (pc' := 183) C at_181 rfl rfl rfl ?_
      refine Ww.iload (pc' := 185) C at_183 rfl rfl ?_
      refine Ww.iconst (pc' := 186) C at_185 (v := (3 : Int32)) rfl rfl ?_
      refine Ww.iadd (pc' := 187) C at_186 (v := (4 : Int32)) (by decide) rfl ?_
      refine Ww.iload (pc' := 189) C at_187 rfl rfl ?_
      refine Ww.castore (pc' := 190) C at_189 V423 (by decide) (show _ < _ from Nat.le_of_ble_eq_true rfl) (Wk.nar_i2c hv26) (vs' := [(.int v15), (.int (46 : Int32)), (.int v21), (.int v23), (.int v26)]) rfl za412 (List.mem_of_getElem? (i := 0) rfl) rfl ?_
      intro h425 W425 V425 O425
      refine Ww.newO (pc' := 193) C at_190 (w4 hw) (w5 hw) (w6 hw) (k' := 14) rfl (n' := 41) rfl (by decide) (by decide) rfl ?_
      intro a426 h427 ga426 za426 E427 Aa426 Da426 Ua426 O427
      have F428 : Fld Z h427 a426 "java/lang/String" "coder" "B" (.int (0 : Int32)) := Da426 (Or.inr (w31 hw)) (ty := .byte) (by decide)
      have F429 : Fld Z h427 a426 "java/lang/String" "value" "[B" .null := Da426 (Or.inr (w33 hw)) (ty := (.array .byte)) (by decide)
      refine Ww.dup (pc' := 194) C at_193 rfl rfl ?_
      refine Ww.aload (pc' := 196) C at_194 rfl rfl rfl ?_
      have hp430 : ∀ c ∈ ([v15, (46 : Int32), v21, v23, v26] : List Int32), ¬ c < 0 ∧ ¬ (255 : Int32) < c := (List.forall_mem_cons.mpr ⟨(Wk.rng255 hv14 hv15), (List.forall_mem_cons.mpr ⟨⟨by decide, by decide⟩, (List.forall_mem_cons.mpr ⟨(Wk.rng255 hv20 hv21), (List.forall_mem_cons.mpr ⟨(Wk.rng255 hv22 hv23), (List.forall_mem_cons.mpr ⟨(Wk.rng255 hv25 hv26), (fun _ h => nomatch h)⟩)⟩)⟩)⟩)⟩)
      refine Ww.callI (pc' := 199) C at_196 (a := a426) (fun vm0 C => (strNew C hw hs O427 (cs := [v15, (46 : Int32), v21, v23, v26]) (n := 5) (Wn := 1) za426 Aa426 F429 F428 (V425.ext E427) rfl (by decide) (by decide) hp430 (by decide) (by decide))) (strNewC (n := 5) O427 za426 rfl (by decide) hp430) (fun v h' q => Or.inr (Or.inr ⟨[a426], allS (List.mem_of_getElem? (i := 0) rfl) all0, q.2.1⟩)) rfl (w8 hw) (w9 hw) (w10 hw) (by decide) (argsL := [(.ref a412)]) (st := [(.ref a426)]) rfl rfl (lenOf pd15 rfl) rfl (Nat.le_of_eq rfl) (k' := 15) rfl (n' := 46) rfl (by decide) (by decide) rfl ?_
      intro r431 h432 Q432 O432
      obtain ⟨rfl, Kh432, Sh432⟩ := Q432
      refine Ww.astore (pc' := 201) C at_199 rfl (Ls' := #[.val (.int p0), .val (.int p1), .val (.int p2), .val (.int p3), .val (.int p4), .val (.int p5), .val (.int (1 : Int32)), .val (.int (3 : Int32)), .val (.int v15), .val (.int v17), .val (.int v19), .val (.int v21), .val (.int v23), .val (.int v26), .val (.ref x408), .val (.ref x411), .val (.ref a412), .val (.ref a426), .unset]) rfl rfl ?_
      refine Ww.newO (pc' := 204) C at_201 (w37 hw) (w38 hw) (w39 hw) (k' := 16) rfl (n' := 48) rfl (by decide) (by decide) rfl ?_
      intro a433 h434 ga433 za433 E434 Aa433 Da433 Ua433 O434
      have F435 : Fld Z h434 a433 "com/example/isomorph/isomorph/MethodName" "className" "Ljava/lang/String;" .null := Da433 (Or.inr (w50 hw)) (ty := (.object "java/lang/String")) (by decide)
      have F436 : Fld Z h434 a433 "com/example/isomorph/isomorph/MethodName" "methodName" "Ljava/lang/String;" .null := Da433 (Or.inr (w52 hw)) (ty := (.object "java/lang/String")) (by decide)
      refine Ww.dup (pc' := 205) C at_204 rfl rfl ?_
      refine Ww.aload (pc' := 207) C at_205 rfl rfl rfl ?_
      refine Ww.aload (pc' := 209) C at_207 rfl rfl rfl ?_
      refine Ww.callI (pc' := 212) C at_209 (a := a433) (fun vm0 C => (Wk.Con.pays C (Wn := 1) (own_mnInit l hw O434 a433 x408 x411 za433 Aa433 F435 F436) (w42 hw) (w39 hw) (by decide) (by decide))) Wk.cleanC (fun v h' q => Or.inr (Or.inr ⟨[a433], allS (List.mem_of_getElem? (i := 0) rfl) all0, q.2.1⟩)) rfl (w40 hw) (w41 hw) (w42 hw) (by decide) (argsL := [(.ref x408), (.ref x411)]) (st := [(.ref a433)]) rfl rfl (lenOf pd20 rfl) rfl (Nat.le_of_eq rfl) (k' := 16) rfl (n' := 48) rfl (by decide) (by decide) rfl ?_
      intro r437 h438 Q438 O438
      obtain ⟨rfl, K438, A438, P438, T438⟩ := Q438
      have X439 : Ext h407 h413 := Wk.Ext.trans E410 E413
      have X440 : Ext h407 h416 := Wk.Ext.wr (Z := Z) X439 W416 (Nat.le_trans E410.1 (Nat.le_of_eq ga412.symm))
      have X441 : Ext h407 h419 := Wk.Ext.wr (Z := Z) X440 W419 (Nat.le_trans E410.1 (Nat.le_of_eq ga412.symm))
      have X442 : Ext h407 h421 := Wk.Ext.wr (Z := Z) X441 W421 (Nat.le_trans E410.1 (Nat.le_of_eq ga412.symm))
      have X443 : Ext h407 h423 := Wk.Ext.wr (Z := Z) X442 W423 (Nat.le_trans E410.1 (Nat.le_of_eq ga412.symm))
      have X444 : Ext h407 h425 := Wk.Ext.wr (Z := Z) X443 W425 (Nat.le_trans E410.1 (Nat.le_of_eq ga412.symm))
      have X445 : Ext h407 h427 := Wk.Ext.trans X444 E427
      have X446 : Ext h407 h432 := Wk.Ext.keep1 (Z := Z) X445 Kh432 (Nat.le_trans X444.1 (Nat.le_of_eq ga426.symm))
      have X447 : Ext h407 h434 := Wk.Ext.trans X446 E434
      have X448 : Ext h407 h438 := Wk.Ext.keep1 (Z := Z) X447 K438 (Nat.le_trans X446.1 (Nat.le_of_eq ga433.symm))
      have X449 : Ext h410 h416 := Wk.Ext.wr (Z := Z) E413 W416 (Nat.le_of_eq ga412.symm)
      have X450 : Ext h410 h419 := Wk.Ext.wr (Z := Z) X449 W419 (Nat.le_of_eq ga412.symm)
      have X451 : Ext h410 h421 := Wk.Ext.wr (Z := Z) X450 W421 (Nat.le_of_eq ga412.symm)
      have X452 : Ext h410 h423 := Wk.Ext.wr (Z := Z) X451 W423 (Nat.le_of_eq ga412.symm)
      have X453 : Ext h410 h425 := Wk.Ext.wr (Z := Z) X452 W425 (Nat.le_of_eq ga412.symm)
      have X454 : Ext h410 h427 := Wk.Ext.trans X453 E427
      have X455 : Ext h410 h432 := Wk.Ext.keep1 (Z := Z) X454 Kh432 (Nat.le_trans X453.1 (Nat.le_of_eq ga426.symm))
      have X456 : Ext h410 h434 := Wk.Ext.trans X455 E434
      have X457 : Ext h410 h438 := Wk.Ext.keep1 (Z := Z) X456 K438 (Nat.le_trans X455.1 (Nat.le_of_eq ga433.symm))
      refine Ww.callVS (pc' := 215) C at_212 (a := a433) (Ww.Con.pays hE (Wn := 0) (own_mnTo l hw hE O438 hs a433 x408 x411 ([v15] : List Int32) ([v21, v23, v26] : List Int32) P438 T438 (S407.ext X448) (S410.ext X457) (show _ ≤ 3 from Nat.le_of_ble_eq_true rfl) (show _ ≤ 3 from Nat.le_of_ble_eq_true rfl)) (w57 hw) (w39 hw) (by decide) (by decide)) Wk.cleanC A438 (w53 hw) (w54 hw) (fun vm0 hZ0 => notFace_of_selects (args := #[]) (mvT (s := W.s.setVm vm0) hZ0 (w56 hw))) (w56 hw) (w55 hw) (by decide) (argsL := []) (st := []) rfl rfl (lenOf pd18 rfl) rfl (Nat.le_of_eq rfl) (k' := 22) rfl (n' := 112) rfl (by decide) (by decide) rfl ?_
      intro r458 h459 Q459 O459
      obtain ⟨x460, rfl, E459, S459⟩ := Q459
      refine Ww.astore (pc' := 217) C at_215 rfl (Ls' := #[.val (.int p0), .val (.int p1), .val (.int p2), .val (.int p3), .val (.int p4), .val (.int p5), .val (.int (1 : Int32)), .val (.int (3 : Int32)), .val (.int v15), .val (.int v17), .val (.int v19), .val (.int v21), .val (.int v23), .val (.int v26), .val (.ref x408), .val (.ref x411), .val (.ref a412), .val (.ref a426), .val (.ref x460)]) rfl rfl ?_
      refine Ww.aload (pc' := 219) C at_217 rfl rfl rfl ?_
      refine Ww.aload (pc' := 221) C at_219 rfl rfl rfl ?_
      have X461 : Ext h432 h438 := Wk.Ext.keep1 (Z := Z) E434 K438 (Nat.le_of_eq ga433.symm)
      have X462 : Ext h432 h459 := Wk.Ext.trans X461 E459
      refine Ww.callV (pc' := 224) C at_221 (a := x460) (fun vm0 C => (strEq C hw hs O459 (Wn := 0) S459 (Sh432.ext X462) (by decide) (by decide))) (pureC (P := fun v => (v = some (.int 1) ∧ ((([] ++ ([v15] : List Int32)) ++ [46]) ++ ([v21, v23, v26] : List Int32) : List Int32) = [v15, (46 : Int32), v21, v23, v26]) ∨ (v = some (.int 0) ∧ ¬ ((([] ++ ([v15] : List Int32)) ++ [46]) ++ ([v21, v23, v26] : List Int32) : List Int32) = [v15, (46 : Int32), v21, v23, v26])) O459) (fun v h' q => Or.inl q.2) S459.exa (w169 hw) (w170 hw) (fun vm0 hZ0 => notFace_of_selects (args := #[]) (mvT (s := W.s.setVm vm0) hZ0 (w172 hw))) (w172 hw) (w171 hw) (by decide) (argsL := [(.ref a426)]) (st := []) rfl rfl (lenOf pd21 rfl) rfl (Nat.le_of_eq rfl) (k' := 22) rfl (n' := 112) rfl (by decide) (by decide) rfl ?_
      intro r463 h464 Q464 O464
      obtain ⟨q466, e465⟩ := Q464
      obtain rfl := e465.symm
      rcases q466 with ⟨rfl, q466⟩ | ⟨rfl, q466⟩
      · -- equal: True
        exact Ww.retNar (ty := .boolean) C hE (by simp) at_224 rfl (by decide) (by decide) rfl
      · -- equal: False
        exact absurd rfl q466
  · -- 2
    rcases own_m3 hv13 with rfl | rfl | rfl | rfl
    · -- 0
      refine Ww.iload (pc' := 69) C at_67 rfl rfl ?_
      refine Ww.iload (pc' := 71) C at_69 rfl rfl ?_
      refine Ww.iload (pc' := 73) C at_71 rfl rfl ?_
      refine Ww.iload (pc' := 75) C at_73 rfl rfl ?_
      refine Ww.callSS (pc' := 78) C at_75 (Ww.Con.pays hE (Wn := 0) (own_str2 l hw hE O0 hs v15 v17 v19 (Wk.rng255 hv14 hv15) (Wk.rng255 hv16 hv17) (Wk.rng255 hv18 hv19)) (w3 hw) (w2 hw) (by decide) (by decide)) Wk.cleanC (w0 hw) (w1 hw) (w2 hw) (w3 hw) (by decide) (argsL := [(.int (2 : Int32)), (.int v15), (.int v17), (.int v19)]) (st := []) rfl rfl (lenOf pd19 rfl) rfl (Nat.le_of_eq rfl) (k' := 6) rfl (n' := 16) rfl (by decide) (by decide) rfl ?_
      intro r467 h468 Q468 O468
      obtain ⟨x469, rfl, E468, S468⟩ := Q468
      refine Ww.astore (pc' := 80) C at_78 rfl (Ls' := #[.val (.int p0), .val (.int p1), .val (.int p2), .val (.int p3), .val (.int p4), .val (.int p5), .val (.int (2 : Int32)), .val (.int (0 : Int32)), .val (.int v15), .val (.int v17), .val (.int v19), .val (.int v21), .val (.int v23), .val (.int v26), .val (.ref x469), .unset, .unset, .unset, .unset]) rfl rfl ?_
      refine Ww.iload (pc' := 82) C at_80 rfl rfl ?_
      refine Ww.iload (pc' := 84) C at_82 rfl rfl ?_
      refine Ww.iload (pc' := 86) C at_84 rfl rfl ?_
      refine Ww.iload (pc' := 88) C at_86 rfl rfl ?_
      refine Ww.callSS (pc' := 91) C at_88 (Ww.Con.pays hE (Wn := 0) (own_str0 l hw hE O468 hs v21 v23 v26 (Wk.rng255 hv20 hv21) (Wk.rng255 hv22 hv23) (Wk.rng255 hv25 hv26)) (w3 hw) (w2 hw) (by decide) (by decide)) Wk.cleanC (w0 hw) (w1 hw) (w2 hw) (w3 hw) (by decide) (argsL := [(.int (0 : Int32)), (.int v21), (.int v23), (.int v26)]) (st := []) rfl rfl (lenOf pd19 rfl) rfl (Nat.le_of_eq rfl) (k' := 12) rfl (n' := 32) rfl (by decide) (by decide) rfl ?_
      intro r470 h471 Q471 O471
      obtain ⟨x472, rfl, E471, S471⟩ := Q471
      refine Ww.astore (pc' := 93) C at_91 rfl (Ls' := #[.val (.int p0), .val (.int p1), .val (.int p2), .val (.int p3), .val (.int p4), .val (.int p5), .val (.int (2 : Int32)), .val (.int (0 : Int32)), .val (.int v15), .val (.int v17), .val (.int v19), .val (.int v21), .val (.int v23), .val (.int v26), .val (.ref x469), .val (.ref x472), .unset, .unset, .unset]) rfl rfl ?_
      refine Ww.iload (pc' := 95) C at_93 rfl rfl ?_
      refine Ww.iconst (pc' := 96) C at_95 (v := (1 : Int32)) rfl rfl ?_
      refine Ww.iadd (pc' := 97) C at_96 (v := (3 : Int32)) (by decide) rfl ?_
      refine Ww.iload (pc' := 99) C at_97 rfl rfl ?_
      refine Ww.iadd (pc' := 100) C at_99 (v := (3 : Int32)) (by decide) rfl ?_
      refine Ww.newA (pc' := 102) C at_100 (ty := .char) rfl (w7 hw) (by decide) (cap := 3) (by decide) (by decide) (k' := 13) rfl (n' := 35) rfl (by decide) (by decide) rfl rfl ?_
      intro a473 h474 ga473 za473 E474 Va473 O474
      have V475 : Wk.Ary Z h474 a473 .char [(.int (0 : Int32)), (.int (0 : Int32)), (.int (0 : Int32))] := Va473
      refine Ww.astore (pc' := 104) C at_102 rfl (Ls' := #[.val (.int p0), .val (.int p1), .val (.int p2), .val (.int p3), .val (.int p4), .val (.int p5), .val (.int (2 : Int32)), .val (.int (0 : Int32)), .val (.int v15), .val (.int v17), .val (.int v19), .val (.int v21), .val (.int v23), .val (.int v26), .val (.ref x469), .val (.ref x472), .val (.ref a473), .unset, .unset]) rfl rfl ?_
      refine Ww.iload (pc' := 106) C at_104 rfl rfl ?_
      refine Ww.if_le C at_106 (by decide) (pcT := 115) (by decide) (pc' := 109) rfl (fun q => absurd q (by decide)) (fun q476 => ?_)
      refine Ww.aload (pc' := 111) C at_109 rfl rfl rfl ?_
      refine Ww.iconst (pc' := 112) C at_111 (v := (0 : Int32)) rfl rfl ?_
      refine Ww.iload (pc' := 114) C at_112 rfl rfl ?_
      refine Ww.castore (pc' := 115) C at_114 V475 (by decide) (show _ < _ from Nat.le_of_ble_eq_true rfl) (Wk.nar_i2c hv15) (vs' := [(.int v15), (.int (0 : Int32)), (.int (0 : Int32))]) rfl za473 (List.mem_of_getElem? (i := 0) rfl) rfl ?_
      intro h477 W477 V477 O477
      refine Ww.iload (pc' := 117) C at_115 rfl rfl ?_
      refine Ww.iconst (pc' := 118) C at_117 (v := (1 : Int32)) rfl rfl ?_
      refine Ww.icmp_le C at_118 (by decide) (pcT := 127) (by decide) (pc' := 121) rfl (fun q => absurd q (by decide)) (fun q478 => ?_)
      refine Ww.aload (pc' := 123) C at_121 rfl rfl rfl ?_
      refine Ww.iconst (pc' := 124) C at_123 (v := (1 : Int32)) rfl rfl ?_
      refine Ww.iload (pc' := 126) C at_124 rfl rfl ?_
      refine Ww.castore (pc' := 127) C at_126 V477 (by decide) (show _ < _ from Nat.le_of_ble_eq_true rfl) (Wk.nar_i2c hv17) (vs' := [(.int v15), (.int v17), (.int (0 : Int32))]) rfl za473 (List.mem_of_getElem? (i := 0) rfl) rfl ?_
      intro h479 W479 V479 O479
      refine Ww.iload (pc' := 129) C at_127 rfl rfl ?_
      refine Ww.iconst (pc' := 130) C at_129 (v := (2 : Int32)) rfl rfl ?_
      refine Ww.icmp_le C at_130 (by decide) (pcT := 139) (by decide) (pc' := 133) rfl (fun q480 => ?_) (fun q => absurd q (by decide))
      refine Ww.aload (pc' := 141) C at_139 rfl rfl rfl ?_
      refine Ww.iload (pc' := 143) C at_141 rfl rfl ?_
      refine Ww.bipush (pc' := 145) C at_143 (v := (46 : Int32)) rfl rfl ?_
      refine Ww.castore (pc' := 146) C at_145 V479 (by decide) (show _ < _ from Nat.le_of_ble_eq_true rfl) (by decide) (vs' := [(.int v15), (.int v17), (.int (46 : Int32))]) rfl za473 (List.mem_of_getElem? (i := 0) rfl) rfl ?_
      intro h481 W481 V481 O481
      refine Ww.iload (pc' := 148) C at_146 rfl rfl ?_
      refine Ww.if_le C at_148 (by decide) (pcT := 160) (by decide) (pc' := 151) rfl (fun q482 => ?_) (fun q => absurd q (by decide))
      refine Ww.iload (pc' := 162) C at_160 rfl rfl ?_
      refine Ww.iconst (pc' := 163) C at_162 (v := (1 : Int32)) rfl rfl ?_
      refine Ww.icmp_le C at_163 (by decide) (pcT := 175) (by decide) (pc' := 166) rfl (fun q483 => ?_) (fun q => absurd q (by decide))
      refine Ww.iload (pc' := 177) C at_175 rfl rfl ?_
      refine Ww.iconst (pc' := 178) C at_177 (v := (2 : Int32)) rfl rfl ?_
      refine Ww.icmp_le C at_178 (by decide) (pcT := 190) (by decide) (pc' := 181) rfl (fun q484 => ?_) (fun q => absurd q (by decide))
      refine Ww.newO (pc' := 193) C at_190 (w4 hw) (w5 hw) (w6 hw) (k' := 14) rfl (n' := 39) rfl (by decide) (by decide) rfl ?_
      intro a485 h486 ga485 za485 E486 Aa485 Da485 Ua485 O486
      have F487 : Fld Z h486 a485 "java/lang/String" "coder" "B" (.int (0 : Int32)) := Da485 (Or.inr (w31 hw)) (ty := .byte) (by decide)
      have F488 : Fld Z h486 a485 "java/lang/String" "value" "[B" .null := Da485 (Or.inr (w33 hw)) (ty := (.array .byte)) (by decide)
      refine Ww.dup (pc' := 194) C at_193 rfl rfl ?_
      refine Ww.aload (pc' := 196) C at_194 rfl rfl rfl ?_
      have hp489 : ∀ c ∈ ([v15, v17, (46 : Int32)] : List Int32), ¬ c < 0 ∧ ¬ (255 : Int32) < c := (List.forall_mem_cons.mpr ⟨(Wk.rng255 hv14 hv15), (List.forall_mem_cons.mpr ⟨(Wk.rng255 hv16 hv17), (List.forall_mem_cons.mpr ⟨⟨by decide, by decide⟩, (fun _ h => nomatch h)⟩)⟩)⟩)
      refine Ww.callI (pc' := 199) C at_196 (a := a485) (fun vm0 C => (strNew C hw hs O486 (cs := [v15, v17, (46 : Int32)]) (n := 3) (Wn := 1) za485 Aa485 F488 F487 (V481.ext E486) rfl (by decide) (by decide) hp489 (by decide) (by decide))) (strNewC (n := 3) O486 za485 rfl (by decide) hp489) (fun v h' q => Or.inr (Or.inr ⟨[a485], allS (List.mem_of_getElem? (i := 0) rfl) all0, q.2.1⟩)) rfl (w8 hw) (w9 hw) (w10 hw) (by decide) (argsL := [(.ref a473)]) (st := [(.ref a485)]) rfl rfl (lenOf pd15 rfl) rfl (Nat.le_of_eq rfl) (k' := 15) rfl (n' := 42) rfl (by decide) (by decide) rfl ?_
      intro r490 h491 Q491 O491
      obtain ⟨rfl, Kh491, Sh491⟩ := Q491
      refine Ww.astore (pc' := 201) C at_199 rfl (Ls' := #[.val (.int p0), .val (.int p1), .val (.int p2), .val (.int p3), .val (.int p4), .val (.int p5), .val (.int (2 : Int32)), .val (.int (0 : Int32)), .val (.int v15), .val (.int v17), .val (.int v19), .val (.int v21), .val (.int v23), .val (.int v26), .val (.ref x469), .val (.ref x472), .val (.ref a473), .val (.ref a485), .unset]) rfl rfl ?_
      refine Ww.newO (pc' := 204) C at_201 (w37 hw) (w38 hw) (w39 hw) (k' := 16) rfl (n' := 44) rfl (by decide) (by decide) rfl ?_
      intro a492 h493 ga492 za492 E493 Aa492 Da492 Ua492 O493
      have F494 : Fld Z h493 a492 "com/example/isomorph/isomorph/MethodName" "className" "Ljava/lang/String;" .null := Da492 (Or.inr (w50 hw)) (ty := (.object "java/lang/String")) (by decide)
      have F495 : Fld Z h493 a492 "com/example/isomorph/isomorph/MethodName" "methodName" "Ljava/lang/String;" .null := Da492 (Or.inr (w52 hw)) (ty := (.object "java/lang/String")) (by decide)
      refine Ww.dup (pc' := 205) C at_204 rfl rfl ?_
      refine Ww.aload (pc' := 207) C at_205 rfl rfl rfl ?_
      refine Ww.aload (pc' := 209) C at_207 rfl rfl rfl ?_
      refine Ww.callI (pc' := 212) C at_209 (a := a492) (fun vm0 C => (Wk.Con.pays C (Wn := 1) (own_mnInit l hw O493 a492 x469 x472 za492 Aa492 F494 F495) (w42 hw) (w39 hw) (by decide) (by decide))) Wk.cleanC (fun v h' q => Or.inr (Or.inr ⟨[a492], allS (List.mem_of_getElem? (i := 0) rfl) all0, q.2.1⟩)) rfl (w40 hw) (w41 hw) (w42 hw) (by decide) (argsL := [(.ref x469), (.ref x472)]) (st := [(.ref a492)]) rfl rfl (lenOf pd20 rfl) rfl (Nat.le_of_eq rfl) (k' := 16) rfl (n' := 44) rfl (by decide) (by decide) rfl ?_
      intro r496 h497 Q497 O497
      obtain ⟨rfl, K497, A497, P497, T497⟩ := Q497
      have X498 : Ext h468 h474 := Wk.Ext.trans E471 E474
      have X499 : Ext h468 h477 := Wk.Ext.wr (Z := Z) X498 W477 (Nat.le_trans E471.1 (Nat.le_of_eq ga473.symm))
      have X500 : Ext h468 h479 := Wk.Ext.wr (Z := Z) X499 W479 (Nat.le_trans E471.1 (Nat.le_of_eq ga473.symm))
      have X501 : Ext h468 h481 := Wk.Ext.wr (Z := Z) X500 W481 (Nat.le_trans E471.1 (Nat.le_of_eq ga473.symm))
      have X502 : Ext h468 h486 := Wk.Ext.trans X501 E486
      have X503 : Ext h468 h491 := Wk.Ext.keep1 (Z := Z) X502 Kh491 (Nat.le_trans X501.1 (Nat.le_of_eq ga485.symm))
      have X504 : Ext h468 h493 := Wk.Ext.trans X503 E493
      have X505 : Ext h468 h497 := Wk.Ext.keep1 (Z := Z) X504 K497 (Nat.le_trans X503.1 (Nat.le_of_eq ga492.symm))
      have X506 : Ext h471 h477 := Wk.Ext.wr (Z := Z) E474 W477 (Nat.le_of_eq ga473.symm)
      have X507 : Ext h471 h479 := Wk.Ext.wr (Z := Z) X506 W479 (Nat.le_of_eq ga473.symm)
      have X508 : Ext h471 h481 := Wk.Ext.wr (Z := Z) X507 W481 (Nat.le_of_eq ga473.symm)
      have X509 : Ext h471 h486 := Wk.Ext.trans X508 E486
      have X510 : Ext h471 h491 := Wk.Ext.keep1 (Z := Z) X509 Kh491 (Nat.le_trans X508.1 (Nat.le_of_eq ga485.symm))
      have X511 : Ext h471 h493 := Wk.Ext.trans X510 E493
      have X512 : Ext h471 h497 := Wk.Ext.keep1 (Z := Z) X511 K497 (Nat.le_trans X510.1 (Nat.le_of_eq ga492.symm))
      refine Ww.callVS (pc' := 215) C at_212 (a := a492) (Ww.Con.pays hE (Wn := 0) (own_mnTo l hw hE O497 hs a492 x469 x472 ([v15, v17] : List Int32) ([] : List Int32) P497 T497 (S468.ext X505) (S471.ext X512) (show _ ≤ 3 from Nat.le_of_ble_eq_true rfl) (show _ ≤ 3 from Nat.le_of_ble_eq_true rfl)) (w57 hw) (w39 hw) (by decide) (by decide)) Wk.cleanC A497 (w53 hw) (w54 hw) (fun vm0 hZ0 => notFace_of_selects (args := #[]) (mvT (s := W.s.setVm vm0) hZ0 (w56 hw))) (w56 hw) (w55 hw) (by decide) (argsL := []) (st := []) rfl rfl (lenOf pd18 rfl) rfl (Nat.le_of_eq rfl) (k' := 22) rfl (n' := 108) rfl (by decide) (by decide) rfl ?_
      intro r513 h514 Q514 O514
      obtain ⟨x515, rfl, E514, S514⟩ := Q514
      refine Ww.astore (pc' := 217) C at_215 rfl (Ls' := #[.val (.int p0), .val (.int p1), .val (.int p2), .val (.int p3), .val (.int p4), .val (.int p5), .val (.int (2 : Int32)), .val (.int (0 : Int32)), .val (.int v15), .val (.int v17), .val (.int v19), .val (.int v21), .val (.int v23), .val (.int v26), .val (.ref x469), .val (.ref x472), .val (.ref a473), .val (.ref a485), .val (.ref x515)]) rfl rfl ?_
      refine Ww.aload (pc' := 219) C at_217 rfl rfl rfl ?_
      refine Ww.aload (pc' := 221) C at_219 rfl rfl rfl ?_
      have X516 : Ext h491 h497 := Wk.Ext.keep1 (Z := Z) E493 K497 (Nat.le_of_eq ga492.symm)
      have X517 : Ext h491 h514 := Wk.Ext.trans X516 E514
      refine Ww.callV (pc' := 224) C at_221 (a := x515) (fun vm0 C => (strEq C hw hs O514 (Wn := 0) S514 (Sh491.ext X517) (by decide) (by decide))) (pureC (P := fun v => (v = some (.int 1) ∧ ((([] ++ ([v15, v17] : List Int32)) ++ [46]) ++ ([] : List Int32) : List Int32) = [v15, v17, (46 : Int32)]) ∨ (v = some (.int 0) ∧ ¬ ((([] ++ ([v15, v17] : List Int32)) ++ [46]) ++ ([] : List Int32) : List Int32) = [v15, v17, (46 : Int32)])) O514) (fun v h' q => Or.inl q.2) S514.exa (w169 hw) (w170 hw) (fun vm0 hZ0 => notFace_of_selects (args := #[]) (mvT (s := W.s.setVm vm0) hZ0 (w172 hw))) (w172 hw) (w171 hw) (by decide) (argsL := [(.ref a485)]) (st := []) rfl rfl (lenOf pd21 rfl) rfl (Nat.le_of_eq rfl) (k' := 22) rfl (n' := 108) rfl (by decide) (by decide) rfl ?_
      intro r518 h519 Q519 O519
      obtain ⟨q521, e520⟩ := Q519
      obtain rfl := e520.symm
      rcases q521 with ⟨rfl, q521⟩ | ⟨rfl, q521⟩
      · -- equal: True
        exact Ww.retNar (ty := .boolean) C hE (by simp) at_224 rfl (by decide) (by decide) rfl
      · -- equal: False
        exact absurd rfl q521
    · -- 1
      refine Ww.iload (pc' := 69) C at_67 rfl rfl ?_
      refine Ww.iload (pc' := 71) C at_69 rfl rfl ?_
      refine Ww.iload (pc' := 73) C at_71 rfl rfl ?_
      refine Ww.iload (pc' := 75) C at_73 rfl rfl ?_
      refine Ww.callSS (pc' := 78) C at_75 (Ww.Con.pays hE (Wn := 0) (own_str2 l hw hE O0 hs v15 v17 v19 (Wk.rng255 hv14 hv15) (Wk.rng255 hv16 hv17) (Wk.rng255 hv18 hv19)) (w3 hw) (w2 hw) (by decide) (by decide)) Wk.cleanC (w0 hw) (w1 hw) (w2 hw) (w3 hw) (by decide) (argsL := [(.int (2 : Int32)), (.int v15), (.int v17), (.int v19)]) (st := []) rfl rfl (lenOf pd19 rfl) rfl (Nat.le_of_eq rfl) (k' := 6) rfl (n' := 16) rfl (by decide) (by decide) rfl ?_
      intro r522 h523 Q523 O523
      obtain ⟨x524, rfl, E523, S523⟩ := Q523
      refine Ww.astore (pc' := 80) C at_78 rfl (Ls' := #[.val (.int p0), .val (.int p1), .val (.int p2), .val (.int p3), .val (.int p4), .val (.int p5), .val (.int (2 : Int32)), .val (.int (1 : Int32)), .val (.int v15), .val (.int v17), .val (.int v19), .val (.int v21), .val (.int v23), .val (.int v26), .val (.ref x524), .unset, .unset, .unset, .unset]) rfl rfl ?_
      refine Ww.iload (pc' := 82) C at_80 rfl rfl ?_
      refine Ww.iload (pc' := 84) C at_82 rfl rfl ?_
      refine Ww.iload (pc' := 86) C at_84 rfl rfl ?_
      refine Ww.iload (pc' := 88) C at_86 rfl rfl ?_
      refine Ww.callSS (pc' := 91) C at_88 (Ww.Con.pays hE (Wn := 0) (own_str1 l hw hE O523 hs v21 v23 v26 (Wk.rng255 hv20 hv21) (Wk.rng255 hv22 hv23) (Wk.rng255 hv25 hv26)) (w3 hw) (w2 hw) (by decide) (by decide)) Wk.cleanC (w0 hw) (w1 hw) (w2 hw) (w3 hw) (by decide) (argsL := [(.int (1 : Int32)), (.int v21), (.int v23), (.int v26)]) (st := []) rfl rfl (lenOf pd19 rfl) rfl (Nat.le_of_eq rfl) (k' := 12) rfl (n' := 32) rfl (by decide) (by decide) rfl ?_
      intro r525 h526 Q526 O526
      obtain ⟨x527, rfl, E526, S526⟩ := Q526
      refine Ww.astore (pc' := 93) C at_91 rfl (Ls' := #[.val (.int p0), .val (.int p1), .val (.int p2), .val (.int p3), .val (.int p4), .val (.int p5), .val (.int (2 : Int32)), .val (.int (1 : Int32)), .val (.int v15), .val (.int v17), .val (.int v19), .val (.int v21), .val (.int v23), .val (.int v26), .val (.ref x524), .val (.ref x527), .unset, .unset, .unset]) rfl rfl ?_
      refine Ww.iload (pc' := 95) C at_93 rfl rfl ?_
      refine Ww.iconst (pc' := 96) C at_95 (v := (1 : Int32)) rfl rfl ?_
      refine Ww.iadd (pc' := 97) C at_96 (v := (3 : Int32)) (by decide) rfl ?_
      refine Ww.iload (pc' := 99) C at_97 rfl rfl ?_
      refine Ww.iadd (pc' := 100) C at_99 (v := (4 : Int32)) (by decide) rfl ?_
      refine Ww.newA (pc' := 102) C at_100 (ty := .char) rfl (w7 hw) (by decide) (cap := 4) (by decide) (by decide) (k' := 13) rfl (n' := 36) rfl (by decide) (by decide) rfl rfl ?_
      intro a528 h529 ga528 za528 E529 Va528 O529
      have V530 : Wk.Ary Z h529 a528 .char [(.int (0 : Int32)), (.int (0 : Int32)), (.int (0 : Int32)), (.int (0 : Int32))] := Va528
      refine Ww.astore (pc' := 104) C at_102 rfl (Ls' := #[.val (.int p0), .val (.int p1), .val (.int p2), .val (.int p3), .val (.int p4), .val (.int p5), .val (.int (2 : Int32)), .val (.int (1 : Int32)), .val (.int v15), .val (.int v17), .val (.int v19), .val (.int v21), .val (.int v23), .val (.int v26), .val (.ref x524), .val (.ref x527), .val (.ref a528), .unset, .unset]) rfl rfl ?_
      refine Ww.iload (pc' := 106) C at_104 rfl rfl ?_
      refine Ww.if_le C at_106 (by decide) (pcT := 115) (by decide) (pc' := 109) rfl (fun q => absurd q (by decide)) (fun q531 => ?_)
      refine Ww.aload (pc' := 111) C at_109 rfl rfl rfl ?_
      refine Ww.iconst (pc' := 112) C at_111 (v := (0 : Int32)) rfl rfl ?_
      refine Ww.iload (pc' := 114) C at_112 rfl rfl ?_
      refine Ww.castore (pc' := 115) C at_114 V530 (by decide) (show _ < _ from Nat.le_of_ble_eq_true rfl) (Wk.nar_i2c hv15) (vs' := [(.int v15), (.int (0 : Int32)), (.int (0 : Int32)), (.int (0 : Int32))]) rfl za528 (List.mem_of_getElem? (i := 0) rfl) rfl ?_
      intro h532 W532 V532 O532
      refine Ww.iload (pc' := 117) C at_115 rfl rfl ?_
      refine Ww.iconst (pc' := 118) C at_117 (v := (1 : Int32)) rfl rfl ?_
      refine Ww.icmp_le C at_118 (by decide) (pcT := 127) (by decide) (pc' := 121) rfl (fun q => absurd q (by decide)) (fun q533 => ?_)
      refine Ww.aload (pc' := 123) C at_121 rfl rfl rfl ?_
      refine Ww.iconst (pc' := 124) C at_123 (v := (1 : Int32)) rfl rfl ?_
      refine Ww.iload (pc' := 126) C at_124 rfl rfl ?_
      refine Ww.castore (pc' := 127) C at_126 V532 (by decide) (show _ < _ from Nat.le_of_ble_eq_true rfl) (Wk.nar_i2c hv17) (vs' := [(.int v15), (.int v17), (.int (0 : Int32)), (.int (0 : Int32))]) rfl za528 (List.mem_of_getElem? (i := 0) rfl) rfl ?_
      intro h534 W534 V534 O534
      refine Ww.iload (pc' := 129) C at_127 rfl rfl ?_
      refine Ww.iconst (pc' := 130) C at_129 (v := (2 : Int32)) rfl rfl ?_
      refine Ww.icmp_le C at_130 (by decide) (pcT := 139) (by decide) (pc' := 133) rfl (fun q535 => ?_) (fun q => absurd q (by decide))
      refine Ww.aload (pc' := 141) C at_139 rfl rfl rfl ?_
      refine Ww.iload (pc' := 143) C at_141 rfl rfl ?_
      refine Ww.bipush (pc' := 145) C at_143 (v := (46 : Int32)) rfl rfl ?_
      refine Ww.castore (pc' := 146) C at_145 V534 (by decide) (show _ < _ from Nat.le_of_ble_eq_true rfl) (by decide) (vs' := [(.int v15), (.int v17), (.int (46 : Int32)), (.int (0 : Int32))]) rfl za528 (List.mem_of_getElem? (i := 0) rfl) rfl ?_
      intro h536 W536 V536 O536
      refine Ww.iload (pc' := 148) C at_146 rfl rfl ?_
      refine Ww.if_le C at_148 (by decide) (pcT := 160) (by decide) (pc' := 151) rfl (fun q => absurd q (by decide)) (fun q537 => ?_)
      refine Ww.aload (pc' := 153) C at_151 rfl rfl rfl ?_
      refine Ww.iload (pc' := 155) C at_153 rfl rfl ?_
      refine Ww.iconst (pc' := 156) C at_155 (v := (1 : Int32)) rfl rfl ?_
      refine Ww.iadd (pc' := 157) C at_156 (v := (3 : Int32)) (by decide) rfl ?_
      refine Ww.iload (pc' := 159) C at_157 rfl rfl ?_
      refine Ww.castore (pc' := 160) C at_159 V536 (by decide) (show _ < _ from Nat.le_of_ble_eq_true rfl) (Wk.nar_i2c hv21) (vs' := [(.int v15), (.int v17), (.int (46 : Int32)), (.int v21)]) rfl za528 (List.mem_of_getElem? (i := 0) rfl) rfl ?_
      intro h538 W538 V538 O538
      refine Ww.iload (pc' := 162) C at_160 rfl rfl ?_
      refine Ww.iconst (pc' := 163) C at_162 (v := (1 : Int32)) rfl rfl ?_
      refine Ww.icmp_le C at_163 (by decide) (pcT := 175) (by decide) (pc' := 166) rfl (fun q539 => ?_) (fun q => absurd q (by decide))
      refine Ww.iload (pc' := 177) C at_175 rfl rfl ?_
      refine Ww.iconst (pc' := 178) C at_177 (v := (2 : Int32)) rfl rfl ?_
      refine Ww.icmp_le C at_178 (by decide) (pcT := 190) (by decide) (pc' := 181) rfl (fun q540 => ?_) (fun q => absurd q (by decide))
      refine Ww.newO (pc' := 193) C at_190 (w4 hw) (w5 hw) (w6 hw) (k' := 14) rfl (n' := 40) rfl (by decide) (by decide) rfl ?_
      intro a541 h542 ga541 za541 E542 Aa541 Da541 Ua541 O542
      have F543 : Fld Z h542 a541 "java/lang/String" "coder" "B" (.int (0 : Int32)) := Da541 (Or.inr (w31 hw)) (ty := .byte) (by decide)
      have F544 : Fld Z h542 a541 "java/lang/String" "value" "[B" .null := Da541 (Or.inr (w33 hw)) (ty := (.array .byte)) (by decide)
      refine Ww.dup (pc' := 194) C at_193 rfl rfl ?_
      refine Ww.aload (pc' := 196) C at_194 rfl rfl rfl ?_
      have hp545 : ∀ c ∈ ([v15, v17, (46 : Int32), v21] : List Int32), ¬ c < 0 ∧ ¬ (255 : Int32) < c := (List.forall_mem_cons.mpr ⟨(Wk.rng255 hv14 hv15), (List.forall_mem_cons.mpr ⟨(Wk.rng255 hv16 hv17), (List.forall_mem_cons.mpr ⟨⟨by decide, by decide⟩, (List.forall_mem_cons.mpr ⟨(Wk.rng255 hv20 hv21), (fun _ h => nomatch h)⟩)⟩)⟩)⟩)
      refine Ww.callI (pc' := 199) C at_196 (a := a541) (fun vm0 C => (strNew C hw hs O542 (cs := [v15, v17, (46 : Int32), v21]) (n := 4) (Wn := 1) za541 Aa541 F544 F543 (V538.ext E542) rfl (by decide) (by decide) hp545 (by decide) (by decide))) (strNewC (n := 4) O542 za541 rfl (by decide) hp545) (fun v h' q => Or.inr (Or.inr ⟨[a541], allS (List.mem_of_getElem? (i := 0) rfl) all0, q.2.1⟩)) rfl (w8 hw) (w9 hw) (w10 hw) (by decide) (argsL := [(.ref a528)]) (st := [(.ref a541)]) rfl rfl (lenOf pd15 rfl) rfl (Nat.le_of_eq rfl) (k' := 15) rfl (n' := 44) rfl (by decide) (by decide) rfl ?_
      intro r546 h547 Q547 O547
      obtain ⟨rfl, Kh547, Sh547⟩ := Q547
      refine Ww.astore (pc' := 201) C at_199 rfl (Ls' := #[.val (.int p0), .val (.int p1), .val (.int p2), .val (.int p3), .val (.int p4), .val (.int p5), .val (.int (2 : Int32)), .val (.int (1 : Int32)), .val (.int v15), .val (.int v17), .val (.int v19), .val (.int v21), .val (.int v23), .val (.int v26), .val (.ref x524), .val (.ref x527), .val (.ref a528), .val (.ref a541), .unset]) rfl rfl ?_
      refine Ww.newO (pc' := 204) C at_201 (w37 hw) (w38 hw) (w39 hw) (k' := 16) rfl (n' := 46) rfl (by decide) (by decide) rfl ?_
      intro a548 h549 ga548 za548 E549 Aa548 Da548 Ua548 O549
      have F550 : Fld Z h549 a548 "com/example/isomorph/isomorph/MethodName" "className" "Ljava/lang/String;" .null := Da548 (Or.inr (w50 hw)) (ty := (.object "java/lang/String")) (by decide)
      have F551 : Fld Z h549 a548 "com/example/isomorph/isomorph/MethodName" "methodName" "Ljava/lang/String;" .null := Da548 (Or.inr (w52 hw)) (ty := (.object "java/lang/String")) (by decide)
      refine Ww.dup (pc' := 205) C at_204 rfl rfl ?_
      refine Ww.aload (pc' := 207) C at_205 rfl rfl rfl ?_
      refine Ww.aload (pc' := 209) C at_207 rfl rfl rfl ?_
      refine Ww.callI (pc' := 212) C at_209 (a := a548) (fun vm0 C => (Wk.Con.pays C (Wn := 1) (own_mnInit l hw O549 a548 x524 x527 za548 Aa548 F550 F551) (w42 hw) (w39 hw) (by decide) (by decide))) Wk.cleanC (fun v h' q => Or.inr (Or.inr ⟨[a548], allS (List.mem_of_getElem? (i := 0) rfl) all0, q.2.1⟩)) rfl (w40 hw) (w41 hw) (w42 hw) (by decide) (argsL := [(.ref x524), (.ref x527)]) (st := [(.ref a548)]) rfl rfl (lenOf pd20 rfl) rfl (Nat.le_of_eq rfl) (k' := 16) rfl (n' := 46) rfl (by decide) (by decide) rfl ?_
      intro r552 h553 Q553 O553
      obtain ⟨rfl, K553, A553, P553, T553⟩ := Q553
      have X554 : Ext h523 h529 := Wk.Ext.trans E526 E529
      have X555 : Ext h523 h532 := Wk.Ext.wr (Z := Z) X554 W532 (Nat.le_trans E526.1 (Nat.le_of_eq ga528.symm))
      have X556 : Ext h523 h534 := Wk.Ext.wr (Z := Z) X555 W534 (Nat.le_trans E526.1 (Nat.le_of_eq ga528.symm))
      have X557 : Ext h523 h536 := Wk.Ext.wr (Z := Z) X556 W536 (Nat.le_trans E526.1 (Nat.le_of_eq ga528.symm))
      have X558 : Ext h523 h538 := Wk.Ext.wr (Z := Z) X557 W538 (Nat.le_trans E526.1 (Nat.le_of_eq ga528.symm))
      have X559 : Ext h523 h542 := Wk.Ext.trans X558 E542
      have X560 : Ext h523 h547 := Wk.Ext.keep1 (Z := Z) X559 Kh547 (Nat.le_trans X558.1 (Nat.le_of_eq ga541.symm))
      have X561 : Ext h523 h549 := Wk.Ext.trans X560 E549
      have X562 : Ext h523 h553 := Wk.Ext.keep1 (Z := Z) X561 K553 (Nat.le_trans X560.1 (Nat.le_of_eq ga548.symm))
      have X563 : Ext h526 h532 := Wk.Ext.wr (Z := Z) E529 W532 (Nat.le_of_eq ga528.symm)
      have X564 : Ext h526 h534 := Wk.Ext.wr (Z := Z) X563 W534 (Nat.le_of_eq ga528.symm)
      have X565 : Ext h526 h536 := Wk.Ext.wr (Z := Z) X564 W536 (Nat.le_of_eq ga528.symm)
      have X566 : Ext h526 h538 := Wk.Ext.wr (Z := Z) X565 W538 (Nat.le_of_eq ga528.symm)
      have X567 : Ext h526 h542 := Wk.Ext.trans X566 E542
      have X568 : Ext h526 h547 := Wk.Ext.keep1 (Z := Z) X567 Kh547 (Nat.le_trans X566.1 (Nat.le_of_eq ga541.symm))
      have X569 : Ext h526 h549 := Wk.Ext.trans X568 E549
      have X570 : Ext h526 h553 := Wk.Ext.keep1 (Z := Z) X569 K553 (Nat.le_trans X568.1 (Nat.le_of_eq ga548.symm))
      refine Ww.callVS (pc' := 215) C at_212 (a := a548) (Ww.Con.pays hE (Wn := 0) (own_mnTo l hw hE O553 hs a548 x524 x527 ([v15, v17] : List Int32) ([v21] : List Int32) P553 T553 (S523.ext X562) (S526.ext X570) (show _ ≤ 3 from Nat.le_of_ble_eq_true rfl) (show _ ≤ 3 from Nat.le_of_ble_eq_true rfl)) (w57 hw) (w39 hw) (by decide) (by decide)) Wk.cleanC A553 (w53 hw) (w54 hw) (fun vm0 hZ0 => notFace_of_selects (args := #[]) (mvT (s := W.s.setVm vm0) hZ0 (w56 hw))) (w56 hw) (w55 hw) (by decide) (argsL := []) (st := []) rfl rfl (lenOf pd18 rfl) rfl (Nat.le_of_eq rfl) (k' := 22) rfl (n' := 110) rfl (by decide) (by decide) rfl ?_
      intro r571 h572 Q572 O572
      obtain ⟨x573, rfl, E572, S572⟩ := Q572
      refine Ww.astore (pc' := 217) C at_215 rfl (Ls' := #[.val (.int p0), .val (.int p1), .val (.int p2), .val (.int p3), .val (.int p4), .val (.int p5), .val (.int (2 : Int32)), .val (.int (1 : Int32)), .val (.int v15), .val (.int v17), .val (.int v19), .val (.int v21), .val (.int v23), .val (.int v26), .val (.ref x524), .val (.ref x527), .val (.ref a528), .val (.ref a541), .val (.ref x573)]) rfl rfl ?_
      refine Ww.aload (pc' := 219) C at_217 rfl rfl rfl ?_
      refine Ww.aload (pc' := 221) C at_219 rfl rfl rfl ?_
      have X574 : Ext h547 h553 := Wk.Ext.keep1 (Z := Z) E549 K553 (Nat.le_of_eq ga548.symm)
      have X575 : Ext h547 h572 := Wk.Ext.trans X574 E572
      refine Ww.callV (pc' := 224) C at_221 (a := x573) (fun vm0 C => (strEq C hw hs O572 (Wn := 0) S572 (Sh547.ext X575) (by decide) (by decide))) (pureC (P := fun v => (v = some (.int 1) ∧ ((([] ++ ([v15, v17] : List Int32)) ++ [46]) ++ ([v21] : List Int32) : List Int32) = [v15, v17, (46 : Int32), v21]) ∨ (v = some (.int 0) ∧ ¬ ((([] ++ ([v15, v17] : List Int32)) ++ [46]) ++ ([v21] : List Int32) : List Int32) = [v15, v17, (46 : Int32), v21])) O572) (fun v h' q => Or.inl q.2) S572.exa (w169 hw) (w170 hw) (fun vm0 hZ0 => notFace_of_selects (args := #[]) (mvT (s := W.s.setVm vm0) hZ0 (w172 hw))) (w172 hw) (w171 hw) (by decide) (argsL := [(.ref a541)]) (st := []) rfl rfl (lenOf pd21 rfl) rfl (Nat.le_of_eq rfl) (k' := 22) rfl (n' := 110) rfl (by decide) (by decide) rfl ?_
      intro r576 h577 Q577 O577
      obtain ⟨q579, e578⟩ := Q577
      obtain rfl := e578.symm
      rcases q579 with ⟨rfl, q579⟩ | ⟨rfl, q579⟩
      · -- equal: True
        exact Ww.retNar (ty := .boolean) C hE (by simp) at_224 rfl (by decide) (by decide) rfl
      · -- equal: False
        exact absurd rfl q579
    · -- 2
      refine Ww.iload (pc' := 69) C at_67 rfl rfl ?_
      refine Ww.iload (pc' := 71) C at_69 rfl rfl ?_
      refine Ww.iload (pc' := 73) C at_71 rfl rfl ?_
      refine Ww.iload (pc' := 75) C at_73 rfl rfl ?_
      refine Ww.callSS (pc' := 78) C at_75 (Ww.Con.pays hE (Wn := 0) (own_str2 l hw hE O0 hs v15 v17 v19 (Wk.rng255 hv14 hv15) (Wk.rng255 hv16 hv17) (Wk.rng255 hv18 hv19)) (w3 hw) (w2 hw) (by decide) (by decide)) Wk.cleanC (w0 hw) (w1 hw) (w2 hw) (w3 hw) (by decide) (argsL := [(.int (2 : Int32)), (.int v15), (.int v17), (.int v19)]) (st := []) rfl rfl (lenOf pd19 rfl) rfl (Nat.le_of_eq rfl) (k' := 6) rfl (n' := 16) rfl (by decide) (by decide) rfl ?_
      intro r580 h581 Q581 O581
      obtain ⟨x582, rfl, E581, S581⟩ := Q581
      refine Ww.astore (pc' := 80) C at_78 rfl (Ls' := #[.val (.int p0), .val (.int p1), .val (.int p2), .val (.int p3), .val (.int p4), .val (.int p5), .val (.int (2 : Int32)), .val (.int (2 : Int32)), .val (.int v15), .val (.int v17), .val (.int v19), .val (.int v21), .val (.int v23), .val (.int v26), .val (.ref x582), .unset, .unset, .unset, .unset]) rfl rfl ?_
      refine Ww.iload (pc' := 82) C at_80 rfl rfl ?_
      refine Ww.iload (pc' := 84) C at_82 rfl rfl ?_
      refine Ww.iload (pc' := 86) C at_84 rfl rfl ?_
      refine Ww.iload (pc' := 88) C at_86 rfl rfl ?_
      refine Ww.callSS (pc' := 91) C at_88 (Ww.Con.pays hE (Wn := 0) (own_str2 l hw hE O581 hs v21 v23 v26 (Wk.rng255 hv20 hv21) (Wk.rng255 hv22 hv23) (Wk.rng255 hv25 hv26)) (w3 hw) (w2 hw) (by decide) (by decide)) Wk.cleanC (w0 hw) (w1 hw) (w2 hw) (w3 hw) (by decide) (argsL := [(.int (2 : Int32)), (.int v21), (.int v23), (.int v26)]) (st := []) rfl rfl (lenOf pd19 rfl) rfl (Nat.le_of_eq rfl) (k' := 12) rfl (n' := 32) rfl (by decide) (by decide) rfl ?_
      intro r583 h584 Q584 O584
      obtain ⟨x585, rfl, E584, S584⟩ := Q584
      refine Ww.astore (pc' := 93) C at_91 rfl (Ls' := #[.val (.int p0), .val (.int p1), .val (.int p2), .val (.int p3), .val (.int p4), .val (.int p5), .val (.int (2 : Int32)), .val (.int (2 : Int32)), .val (.int v15), .val (.int v17), .val (.int v19), .val (.int v21), .val (.int v23), .val (.int v26), .val (.ref x582), .val (.ref x585), .unset, .unset, .unset]) rfl rfl ?_
      refine Ww.iload (pc' := 95) C at_93 rfl rfl ?_
      refine Ww.iconst (pc' := 96) C at_95 (v := (1 : Int32)) rfl rfl ?_
      refine Ww.iadd (pc' := 97) C at_96 (v := (3 : Int32)) (by decide) rfl ?_
      refine Ww.iload (pc' := 99) C at_97 rfl rfl ?_
      refine Ww.iadd (pc' := 100) C at_99 (v := (5 : Int32)) (by decide) rfl ?_
      refine Ww.newA (pc' := 102) C at_100 (ty := .char) rfl (w7 hw) (by decide) (cap := 5) (by decide) (by decide) (k' := 13) rfl (n' := 37) rfl (by decide) (by decide) rfl rfl ?_
      intro a586 h587 ga586 za586 E587 Va586 O587
      have V588 : Wk.Ary Z h587 a586 .char [(.int (0 : Int32)), (.int (0 : Int32)), (.int (0 : Int32)), (.int (0 : Int32)), (.int (0 : Int32))] := Va586
      refine Ww.astore (pc' := 104) C at_102 rfl (Ls' := #[.val (.int p0), .val (.int p1), .val (.int p2), .val (.int p3), .val (.int p4), .val (.int p5), .val (.int (2 : Int32)), .val (.int (2 : Int32)), .val (.int v15), .val (.int v17), .val (.int v19), .val (.int v21), .val (.int v23), .val (.int v26), .val (.ref x582), .val (.ref x585), .val (.ref a586), .unset, .unset]) rfl rfl ?_
      refine Ww.iload (pc' := 106) C at_104 rfl rfl ?_
      refine Ww.if_le C at_106 (by decide) (pcT := 115) (by decide) (pc' := 109) rfl (fun q => absurd q (by decide)) (fun q589 => ?_)
      refine Ww.aload (pc' := 111) C at_109 rfl rfl rfl ?_
      refine Ww.iconst (pc' := 112) C at_111 (v := (0 : Int32)) rfl rfl ?_
      refine Ww.iload (pc' := 114) C at_112 rfl rfl ?_
      refine Ww.castore (pc' := 115) C at_114 V588 (by decide) (show _ < _ from Nat.le_of_ble_eq_true rfl) (Wk.nar_i2c hv15) (vs' := [(.int v15), (.int (0 : Int32)), (.int (0 : Int32)), (.int (0 : Int32)), (.int (0 : Int32))]) rfl za586 (List.mem_of_getElem? (i := 0) rfl) rfl ?_
      intro h590 W590 V590 O590
      refine Ww.iload (pc' := 117) C at_115 rfl rfl ?_
      refine Ww.iconst (pc' := 118) C at_117 (v := (1 : Int32)) rfl rfl ?_
      refine Ww.icmp_le C at_118 (by decide) (pcT := 127) (by decide) (pc' := 121) rfl (fun q => absurd q (by decide)) (fun q591 => ?_)
      refine Ww.aload (pc' := 123) C at_121 rfl rfl rfl ?_
      refine Ww.iconst (pc' := 124) C at_123 (v := (1 : Int32)) rfl rfl ?_
      refine Ww.iload (pc' := 126) C at_124 rfl rfl ?_
      refine Ww.castore (pc' := 127) C at_126 V590 (by decide) (show _ < _ from Nat.le_of_ble_eq_true rfl) (Wk.nar_i2c hv17) (vs' := [(.int v15), (.int v17), (.int (0 : Int32)), (.int (0 : Int32)), (.int (0 : Int32))]) rfl za586 (List.mem_of_getElem? (i := 0) rfl) rfl ?_
      intro h592 W592 V592 O592
      refine Ww.iload (pc' := 129) C at_127 rfl rfl ?_
      refine Ww.iconst (pc' := 130) C at_129 (v := (2 : Int32)) rfl rfl ?_
      refine Ww.icmp_le C at_130 (by decide) (pcT := 139) (by decide) (pc' := 133) rfl (fun q593 => ?_) (fun q => absurd q (by decide))
      refine Ww.aload (pc' := 141) C at_139 rfl rfl rfl ?_
      refine Ww.iload (pc' := 143) C at_141 rfl rfl ?_
      refine Ww.bipush (pc' := 145) C at_143 (v := (46 : Int32)) rfl rfl ?_
      refine Ww.castore (pc' := 146) C at_145 V592 (by decide) (show _ < _ from Nat.le_of_ble_eq_true rfl) (by decide) (vs' := [(.int v15), (.int v17), (.int (46 : Int32)), (.int (0 : Int32)), (.int (0 : Int32))]) rfl za586 (List.mem_of_getElem? (i := 0) rfl) rfl ?_
      intro h594 W594 V594 O594
      refine Ww.iload (pc' := 148) C at_146 rfl rfl ?_
      refine Ww.if_le C at_148 (by decide) (pcT := 160) (by decide) (pc' := 151) rfl (fun q => absurd q (by decide)) (fun q595 => ?_)
      refine Ww.aload (pc' := 153) C at_151 rfl rfl rfl ?_
      refine Ww.iload (pc' := 155) C at_153 rfl rfl ?_
      refine Ww.iconst (pc' := 156) C at_155 (v := (1 : Int32)) rfl rfl ?_
      refine Ww.iadd (pc' := 157) C at_156 (v := (3 : Int32)) (by decide) rfl ?_
      refine Ww.iload (pc' := 159) C at_157 rfl rfl ?_
      refine Ww.castore (pc' := 160) C at_159 V594 (by decide) (show _ < _ from Nat.le_of_ble_eq_true rfl) (Wk.nar_i2c hv21) (vs' := [(.int v15), (.int v17), (.int (46 : Int32)), (.int v21), (.int (0 : Int32))]) rfl za586 (List.mem_of_getElem? (i := 0) rfl) rfl ?_
      intro h596 W596 V596 O596
      refine Ww.iload (pc' := 162) C at_160 rfl rfl ?_
      refine Ww.iconst (pc' := 163) C at_162 (v := (1 : Int32)) rfl rfl ?_
      refine Ww.icmp_le C at_163 (by decide) (pcT := 175) (by decide) (pc' := 166) rfl (fun q => absurd q (by decide)) (fun q597 => ?_)
      refine Ww.aload (pc' := 168) C at_166 rfl rfl rfl ?_
      refine Ww.iload (pc' := 170) C at_168 rfl rfl ?_
      refine Ww.iconst (pc' := 171) C at_170 (v := (2 : Int32)) rfl rfl ?_
      refine Ww.iadd (pc' := 172) C at_171 (v := (4 : Int32)) (by decide) rfl ?_
      refine Ww.iload (pc' := 174) C at_172 rfl rfl ?_
      refine Ww.castore (pc' := 175) C at_174 V596 (by decide) (show _ < _ from Nat.le_of_ble_eq_true rfl) (Wk.nar_i2c hv23) (vs' := [(.int v15), (.int v17), (.int (46 : Int32)), (.int v21), (.int v23)]) rfl za586 (List.mem_of_getElem? (i := 0) rfl) rfl ?_
      intro h598 W598 V598 O598
      refine Ww.iload (pc' := 177) C at_175 rfl rfl ?_
      refine Ww.iconst (pc' := 178) C at_177 (v := (2 : Int32)) rfl rfl ?_
      refine Ww.icmp_le C at_178 (by decide) (pcT := 190) (by decide) (pc' := 181) rfl (fun q599 => ?_) (fun q => absurd q (by decide))
      refine Ww.newO (pc' := 193) C at_190 (w4 hw) (w5 hw) (w6 hw) (k' := 14) rfl (n' := 41) rfl (by decide) (by decide) rfl ?_
      intro a600 h601 ga600 za600 E601 Aa600 Da600 Ua600 O601
      have F602 : Fld Z h601 a600 "java/lang/String" "coder" "B" (.int (0 : Int32)) := Da600 (Or.inr (w31 hw)) (ty := .byte) (by decide)
      have F603 : Fld Z h601 a600 "java/lang/String" "value" "[B" .null := Da600 (Or.inr (w33 hw)) (ty := (.array .byte)) (by decide)
      refine Ww.dup (pc' := 194) C at_193 rfl rfl ?_
      refine Ww.aload (pc' := 196) C at_194 rfl rfl rfl ?_
      have hp604 : ∀ c ∈ ([v15, v17, (46 : Int32), v21, v23] : List Int32), ¬ c < 0 ∧ ¬ (255 : Int32) < c := (List.forall_mem_cons.mpr ⟨(Wk.rng255 hv14 hv15), (List.forall_mem_cons.mpr ⟨(Wk.rng255 hv16 hv17), (List.forall_mem_cons.mpr ⟨⟨by decide, by decide⟩, (List.forall_mem_cons.mpr ⟨(Wk.rng255 hv20 hv21), (List.forall_mem_cons.mpr ⟨(Wk.rng255 hv22 hv23), (fun _ h => nomatch h)⟩)⟩)⟩)⟩)⟩)
      refine Ww.callI (pc' := 199) C at_196 (a := a600) (fun vm0 C => (strNew C hw hs O601 (cs := [v15, v17, (46 : Int32), v21, v23]) (n := 5) (Wn := 1) za600 Aa600 F603 F602 (V598.ext E601) rfl (by decide) (by decide) hp604 (by decide) (by decide))) (strNewC (n := 5) O601 za600 rfl (by decide) hp604) (fun v h' q => Or.inr (Or.inr ⟨[a600], allS (List.mem_of_getElem? (i := 0) rfl) all0, q.2.1⟩)) rfl (w8 hw) (w9 hw) (w10 hw) (by decide) (argsL := [(.ref a586)]) (st := [(.ref a600)]) rfl rfl (lenOf pd15 rfl) rfl (Nat.le_of_eq rfl) (k' := 15) rfl (n' := 46) rfl (by decide) (by decide) rfl ?_
      intro r605 h606 Q606 O606
      obtain ⟨rfl, Kh606, Sh606⟩ := Q606
      refine Ww.astore (pc' := 201) C at_199 rfl (Ls' := #[.val (.int p0), .val (.int p1), .val (.int p2), .val (.int p3), .val (.int p4), .val (.int p5), .val (.int (2 : Int32)), .val (.int (2 : Int32)), .val (.int v15), .val (.int v17), .val (.int v19), .val (.int v21), .val (.int v23), .val (.int v26), .val (.ref x582), .val (.ref x585), .val (.ref a586), .val (.ref a600), .unset]) rfl rfl ?_
      refine Ww.newO (pc' := 204) C at_201 (w37 hw) (w38 hw) (w39 hw) (k' := 16) rfl (n' := 48) rfl (by decide) (by decide) rfl ?_
      intro a607 h608 ga607 za607 E608 Aa607 Da607 Ua607 O608
      have F609 : Fld Z h608 a607 "com/example/isomorph/isomorph/MethodName" "className" "Ljava/lang/String;" .null := Da607 (Or.inr (w50 hw)) (ty := (.object "java/lang/String")) (by decide)
      have F610 : Fld Z h608 a607 "com/example/isomorph/isomorph/MethodName" "methodName" "Ljava/lang/String;" .null := Da607 (Or.inr (w52 hw)) (ty := (.object "java/lang/String")) (by decide)
      refine Ww.dup (pc' := 205) C at_204 rfl rfl ?_
      refine Ww.aload (pc' := 207) C at_205 rfl rfl rfl ?_
      refine Ww.aload (pc' := 209) C at_207 rfl rfl rfl ?_
      refine Ww.callI (pc' := 212) C at_209 (a := a607) (fun vm0 C => (Wk.Con.pays C (Wn := 1) (own_mnInit l hw O608 a607 x582 x585 za607 Aa607 F609 F610) (w42 hw) (w39 hw) (by decide) (by decide))) Wk.cleanC (fun v h' q => Or.inr (Or.inr ⟨[a607], allS (List.mem_of_getElem? (i := 0) rfl) all0, q.2.1⟩)) rfl (w40 hw) (w41 hw) (w42 hw) (by decide) (argsL := [(.ref x582), (.ref x585)]) (st := [(.ref a607)]) rfl rfl (lenOf pd20 rfl) rfl (Nat.le_of_eq rfl) (k' := 16) rfl (n' := 48) rfl (by decide) (by decide) rfl ?_
      intro r611 h612 Q612 O612
      obtain ⟨rfl, K612, A612, P612, T612⟩ := Q612
      have X613 : Ext h581 h587 := Wk.Ext.trans E584 E587
      have X614 : Ext h581 h590 := Wk.Ext.wr (Z := Z) X613 W590 (Nat.le_trans E584.1 (Nat.le_of_eq ga586.symm))
      have X615 : Ext h581 h592 := Wk.Ext.wr (Z := Z) X614 W592 (Nat.le_trans E584.1 (Nat.le_of_eq ga586.symm))
      have X616 : Ext h581 h594 := Wk.Ext.wr (Z := Z) X615 W594 (Nat.le_trans E584.1 (Nat.le_of_eq ga586.symm))
      have X617 : Ext h581 h596 := Wk.Ext.wr (Z := Z) X616 W596 (Nat.le_trans E584.1 (Nat.le_of_eq ga586.symm))
      have X618 : Ext h581 h598 := Wk.Ext.wr (Z := Z) X617 W598 (Nat.le_trans E584.1 (Nat.le_of_eq ga586.symm))
      have X619 : Ext h581 h601 := Wk.Ext.trans X618 E601
      have X620 : Ext h581 h606 := Wk.Ext.keep1 (Z := Z) X619 Kh606 (Nat.le_trans X618.1 (Nat.le_of_eq ga600.symm))
      have X621 : Ext h581 h608 := Wk.Ext.trans X620 E608
      have X622 : Ext h581 h612 := Wk.Ext.keep1 (Z := Z) X621 K612 (Nat.le_trans X620.1 (Nat.le_of_eq ga607.symm))
      have X623 : Ext h584 h590 := Wk.Ext.wr (Z := Z) E587 W590 (Nat.le_of_eq ga586.symm)
      have X624 : Ext h584 h592 := Wk.Ext.wr (Z := Z) X623 W592 (Nat.le_of_eq ga586.symm)
      have X625 : Ext h584 h594 := Wk.Ext.wr (Z := Z) X624 W594 (Nat.le_of_eq ga586.symm)
      have X626 : Ext h584 h596 := Wk.Ext.wr (Z := Z) X625 W596 (Nat.le_of_eq ga586.symm)
      have X627 : Ext h584 h598 := Wk.Ext.wr (Z := Z) X626 W598 (Nat.le_of_eq ga586.symm)
      have X628 : Ext h584 h601 := Wk.Ext.trans X627 E601
      have X629 : Ext h584 h606 := Wk.Ext.keep1 (Z := Z) X628 Kh606 (Nat.le_trans X627.1 (Nat.le_of_eq ga600.symm))
      have X630 : Ext h584 h608 := Wk.Ext.trans X629 E608
      have X631 : Ext h584 h612 := Wk.Ext.keep1 (Z := Z) X630 K612 (Nat.le_trans X629.1 (Nat.le_of_eq ga607.symm))
      refine Ww.callVS (pc' := 215) C at_212 (a := a607) (Ww.Con.pays hE (Wn := 0) (own_mnTo l hw hE O612 hs a607 x582 x585 ([v15, v17] : List Int32) ([v21, v23] : List Int32) P612 T612 (S581.ext X622) (S584.ext X631) (show _ ≤ 3 from Nat.le_of_ble_eq_true rfl) (show _ ≤ 3 from Nat.le_of_ble_eq_true rfl)) (w57 hw) (w39 hw) (by decide) (by decide)) Wk.cleanC A612 (w53 hw) (w54 hw) (fun vm0 hZ0 => notFace_of_selects (args := #[]) (mvT (s := W.s.setVm vm0) hZ0 (w56 hw))) (w56 hw) (w55 hw) (by decide) (argsL := []) (st := []) rfl rfl (lenOf pd18 rfl) rfl (Nat.le_of_eq rfl) (k' := 22) rfl (n' := 112) rfl (by decide) (by decide) rfl ?_
      intro r632 h633 Q633 O633
      obtain ⟨x634, rfl, E633, S633⟩ := Q633
      refine Ww.astore (pc' := 217) C at_215 rfl (Ls' := #[.val (.int p0), .val (.int p1), .val (.int p2), .val (.int p3), .val (.int p4), .val (.int p5), .val (.int (2 : Int32)), .val (.int (2 : Int32)), .val (.int v15), .val (.int v17), .val (.int v19), .val (.int v21), .val (.int v23), .val (.int v26), .val (.ref x582), .val (.ref x585), .val (.ref a586), .val (.ref a600), .val (.ref x634)]) rfl rfl ?_
      refine Ww.aload (pc' := 219) C at_217 rfl rfl rfl ?_
      refine Ww.aload (pc' := 221) C at_219 rfl rfl rfl ?_
      have X635 : Ext h606 h612 := Wk.Ext.keep1 (Z := Z) E608 K612 (Nat.le_of_eq ga607.symm)
      have X636 : Ext h606 h633 := Wk.Ext.trans X635 E633
      refine Ww.callV (pc' := 224) C at_221 (a := x634) (fun vm0 C => (strEq C hw hs O633 (Wn := 0) S633 (Sh606.ext X636) (by decide) (by decide))) (pureC (P := fun v => (v = some (.int 1) ∧ ((([] ++ ([v15, v17] : List Int32)) ++ [46]) ++ ([v21, v23] : List Int32) : List Int32) = [v15, v17, (46 : Int32), v21, v23]) ∨ (v = some (.int 0) ∧ ¬ ((([] ++ ([v15, v17] : List Int32)) ++ [46]) ++ ([v21, v23] : List Int32) : List Int32) = [v15, v17, (46 : Int32), v21, v23])) O633) (fun v h' q => Or.inl q.2) S633.exa (w169 hw) (w170 hw) (fun vm0 hZ0 => notFace_of_selects (args := #[]) (mvT (s := W.s.setVm vm0) hZ0 (w172 hw))) (w172 hw) (w171 hw) (by decide) (argsL := [(.ref a600)]) (st := []) rfl rfl (lenOf pd21 rfl) rfl (Nat.le_of_eq rfl) (k' := 22) rfl (n' := 112) rfl (by decide) (by decide) rfl ?_
      intro r637 h638 Q638 O638
      obtain ⟨q640, e639⟩ := Q638
      obtain rfl := e639.symm
      rcases q640 with ⟨rfl, q640⟩ | ⟨rfl, q640⟩
      · -- equal: True
        exact Ww.retNar (ty := .boolean) C hE (by simp) at_224 rfl (by decide) (by decide) rfl
      · -- equal: False
        exact absurd rfl q640
    · -- 3
      refine Ww.iload (pc' := 69) C at_67 rfl rfl ?_
      refine Ww.iload (pc' := 71) C at_69 rfl rfl ?_
      refine Ww.iload (pc' := 73) C at_71 rfl rfl ?_
      refine Ww.iload (pc' := 75) C at_73 rfl rfl ?_
      refine Ww.callSS (pc' := 78) C at_75 (Ww.Con.pays hE (Wn := 0) (own_str2 l hw hE O0 hs v15 v17 v19 (Wk.rng255 hv14 hv15) (Wk.rng255 hv16 hv17) (Wk.rng255 hv18 hv19)) (w3 hw) (w2 hw) (by decide) (by decide)) Wk.cleanC (w0 hw) (w1 hw) (w2 hw) (w3 hw) (by decide) (argsL := [(.int (2 : Int32)), (.int v15), (.int v17), (.int v19)]) (st := []) rfl rfl (lenOf pd19 rfl) rfl (Nat.le_of_eq rfl) (k' := 6) rfl (n' := 16) rfl (by decide) (by decide) rfl ?_
      intro r641 h642 Q642 O642
      obtain ⟨x643, rfl, E642, S642⟩ := Q642
      refine Ww.astore (pc' := 80) C at_78 rfl (Ls' := #[.val (.int p0), .val (.int p1), .val (.int p2), .val (.int p3), .val (.int p4), .val (.int p5), .val (.int (2 : Int32)), .val (.int (3 : Int32)), .val (.int v15), .val (.int v17), .val (.int v19), .val (.int v21), .val (.int v23), .val (.int v26), .val (.ref x643), .unset, .unset, .unset, .unset]) rfl rfl ?_
      refine Ww.iload (pc' := 82) C at_80 rfl rfl ?_
      refine Ww.iload (pc' := 84) C at_82 rfl rfl ?_
      refine Ww.iload (pc' := 86) C at_84 rfl rfl ?_
      refine Ww.iload (pc' := 88) C at_86 rfl rfl ?_
      refine Ww.callSS (pc' := 91) C at_88 (Ww.Con.pays hE (Wn := 0) (own_str3 l hw hE O642 hs v21 v23 v26 (Wk.rng255 hv20 hv21) (Wk.rng255 hv22 hv23) (Wk.rng255 hv25 hv26)) (w3 hw) (w2 hw) (by decide) (by decide)) Wk.cleanC (w0 hw) (w1 hw) (w2 hw) (w3 hw) (by decide) (argsL := [(.int (3 : Int32)), (.int v21), (.int v23), (.int v26)]) (st := []) rfl rfl (lenOf pd19 rfl) rfl (Nat.le_of_eq rfl) (k' := 12) rfl (n' := 32) rfl (by decide) (by decide) rfl ?_
      intro r644 h645 Q645 O645
      obtain ⟨x646, rfl, E645, S645⟩ := Q645
      refine Ww.astore (pc' := 93) C at_91 rfl (Ls' := #[.val (.int p0), .val (.int p1), .val (.int p2), .val (.int p3), .val (.int p4), .val (.int p5), .val (.int (2 : Int32)), .val (.int (3 : Int32)), .val (.int v15), .val (.int v17), .val (.int v19), .val (.int v21), .val (.int v23), .val (.int v26), .val (.ref x643), .val (.ref x646), .unset, .unset, .unset]) rfl rfl ?_
      refine Ww.iload (pc' := 95) C at_93 rfl rfl ?_
      refine Ww.iconst (pc' := 96) C at_95 (v := (1 : Int32)) rfl rfl ?_
      refine Ww.iadd (pc' := 97) C at_96 (v := (3 : Int32)) (by decide) rfl ?_
      refine Ww.iload (pc' := 99) C at_97 rfl rfl ?_
      refine Ww.iadd (pc' := 100) C at_99 (v := (6 : Int32)) (by decide) rfl ?_
      refine Ww.newA (pc' := 102) C at_100 (ty := .char) rfl (w7 hw) (by decide) (cap := 6) (by decide) (by decide) (k' := 13) rfl (n' := 38) rfl (by decide) (by decide) rfl rfl ?_
      intro a647 h648 ga647 za647 E648 Va647 O648
      have V649 : Wk.Ary Z h648 a647 .char [(.int (0 : Int32)), (.int (0 : Int32)), (.int (0 : Int32)), (.int (0 : Int32)), (.int (0 : Int32)), (.int (0 : Int32))] := Va647
      refine Ww.astore (pc' := 104) C at_102 rfl (Ls' := #[.val (.int p0), .val (.int p1), .val (.int p2), .val (.int p3), .val (.int p4), .val (.int p5), .val (.int (2 : Int32)), .val (.int (3 : Int32)), .val (.int v15), .val (.int v17), .val (.int v19), .val (.int v21), .val (.int v23), .val (.int v26), .val (.ref x643), .val (.ref x646), .val (.ref a647), .unset, .unset]) rfl rfl ?_
      refine Ww.iload (pc' := 106) C at_104 rfl rfl ?_
      refine Ww.if_le C at_106 (by decide) (pcT := 115) (by decide) (pc' := 109) rfl (fun q => absurd q (by decide)) (fun q650 => ?_)
      refine Ww.aload (pc' := 111) C at_109 rfl rfl rfl ?_
      refine Ww.iconst (pc' := 112) C at_111 (v := (0 : Int32)) rfl rfl ?_
      refine Ww.iload (pc' := 114) C at_112 rfl rfl ?_
      refine Ww.castore (pc' := 115) C at_114 V649 (by decide) (show _ < _ from Nat.le_of_ble_eq_true rfl) (Wk.nar_i2c hv15) (vs' := [(.int v15), (.int (0 : Int32)), (.int (0 : Int32)), (.int (0 : Int32)), (.int (0 : Int32)), (.int (0 : Int32))]) rfl za647 (List.mem_of_getElem? (i := 0) rfl) rfl ?_
      intro h651 W651 V651 O651
      refine Ww.iload (pc' := 117) C at_115 rfl rfl ?_
      refine Ww.iconst (pc' := 118) C at_117 (v := (1 : Int32)) rfl rfl ?_
      refine Ww.icmp_le C at_118 (by decide) (pcT := 127) (by decide) (pc' := 121) rfl (fun q => absurd q (by decide)) (fun q652 => ?_)
      refine Ww.aload (pc' := 123) C at_121 rfl rfl rfl ?_
      refine Ww.iconst (pc' := 124) C at_123 (v := (1 : Int32)) rfl rfl ?_
      refine Ww.iload (pc' := 126) C at_124 rfl rfl ?_
      refine Ww.castore (pc' := 127) C at_126 V651 (by decide) (show _ < _ from Nat.le_of_ble_eq_true rfl) (Wk.nar_i2c hv17) (vs' := [(.int v15), (.int v17), (.int (0 : Int32)), (.int (0 : Int32)), (.int (0 : Int32)), (.int (0 : Int32))]) rfl za647 (List.mem_of_getElem? (i := 0) rfl) rfl ?_
      intro h653 W653 V653 O653
      refine Ww.iload (pc' := 129) C at_127 rfl rfl ?_
      refine Ww.iconst (pc' := 130) C at_129 (v := (2 : Int32)) rfl rfl ?_
      refine Ww.icmp_le C at_130 (by decide) (pcT := 139) (by decide) (pc' := 133) rfl (fun q654 => ?_) (fun q => absurd q (by decide))
      refine Ww.aload (pc' := 141) C at_139 rfl rfl rfl ?_
      refine Ww.iload (pc' := 143) C at_141 rfl rfl ?_
      refine Ww.bipush (pc' := 145) C at_143 (v := (46 : Int32)) rfl rfl ?_
      refine Ww.castore (pc' := 146) C at_145 V653 (by decide) (show _ < _ from Nat.le_of_ble_eq_true rfl) (by decide) (vs' := [(.int v15), (.int v17), (.int (46 : Int32)), (.int (0 : Int32)), (.int (0 : Int32)), (.int (0 : Int32))]) rfl za647 (List.mem_of_getElem? (i := 0) rfl) rfl ?_
      intro h655 W655 V655 O655
      refine Ww.iload (pc' := 148) C at_146 rfl rfl ?_
      refine Ww.if_le C at_148 (by decide) (pcT := 160) (by decide) (pc' := 151) rfl (fun q => absurd q (by decide)) (fun q656 => ?_)
      refine Ww.aload (pc' := 153) C at_151 rfl rfl rfl ?_
      refine Ww.iload (pc' := 155) C at_153 rfl rfl ?_
      refine Ww.iconst (pc' := 156) C at_155 (v := (1 : Int32)) rfl rfl ?_
      refine Ww.iadd (pc' := 157) C at_156 (v := (3 : Int32)) (by decide) rfl ?_
      refine Ww.iload (pc' := 159) C at_157 rfl rfl ?_
      refine Ww.castore (pc' := 160) C at_159 V655 (by decide) (show _ < _ from Nat.le_of_ble_eq_true rfl) (Wk.nar_i2c hv21) (vs' := [(.int v15), (.int v17), (.int (46 : Int32)), (.int v21), (.int (0 : Int32)), (.int (0 : Int32))]) rfl za647 (List.mem_of_getElem? (i := 0) rfl) rfl ?_
      intro h657 W657 V657 O657
      refine Ww.iload (pc' := 162) C at_160 rfl rfl ?_
      refine Ww.iconst (pc' := 163) C at_162 (v := (1 : Int32)) rfl rfl ?_
      refine Ww.icmp_le C at_163 (by decide) (pcT := 175) (by decide) (pc' := 166) rfl (fun q => absurd q (by decide)) (fun q658 => ?_)
      refine Ww.aload (pc' := 168) C at_166 rfl rfl rfl ?_
      refine Ww.iload (pc' := 170) C at_168 rfl rfl ?_
      refine Ww.iconst (pc' := 171) C at_170 (v := (2 : Int32)) rfl rfl ?_
      refine Ww.iadd (pc' := 172) C at_171 (v := (4 : Int32)) (by decide) rfl ?_
      refine Ww.iload (pc' := 174) C at_172 rfl rfl ?_
      refine Ww.castore (pc' := 175) C at_174 V657 (by decide) (show _ < _ from Nat.le_of_ble_eq_true rfl) (Wk.nar_i2c hv23) (vs' := [(.int v15), (.int v17), (.int (46 : Int32)), (.int v21), (.int v23), (.int (0 : Int32))]) rfl za647 (List.mem_of_getElem? (i := 0) rfl) rfl ?_
      intro h659 W659 V659 O659
      refine Ww.iload (pc' := 177) C at_175 rfl rfl ?_
      refine Ww.iconst (pc' := 178) C at_177 (v := (2 : Int32)) rfl rfl ?_
      refine Ww.icmp_le C at_178 (by decide) (pcT := 190) (by decide) (pc' := 181) rfl (fun q => absurd q (by decide)) (fun q660 => ?_)
      refine Ww.aload (pc' := 183) C at_181 rfl rfl rfl ?_
      refine Ww.iload (pc' := 185) C at_183 rfl rfl ?_
      refine Ww.iconst (pc' := 186) C at_185 (v := (3 : Int32)) rfl rfl ?_
      refine Ww.iadd (pc' := 187) C at_186 (v := (5 : Int32)) (by decide) rfl ?_
      refine Ww.iload (pc' := 189) C at_187 rfl rfl ?_
      refine Ww.castore (pc' := 190) C at_189 V659 (by decide) (show _ < _ from Nat.le_of_ble_eq_true rfl) (Wk.nar_i2c hv26) (vs' := [(.int v15), (.int v17), (.int (46 : Int32)), (.int v21), (.int v23), (.int v26)]) rfl za647 (List.mem_of_getElem? (i := 0) rfl) rfl ?_
      intro h661 W661 V661 O661
      refine Ww.newO (pc' := 193) C at_190 (w4 hw) (w5 hw) (w6 hw) (k' := 14) rfl (n' := 42) rfl (by decide) (by decide) rfl ?_
      intro a662 h663 ga662 za662 E663 Aa662 Da662 Ua662 O663
      have F664 : Fld Z h663 a662 "java/lang/String" "coder" "B" (.int (0 : Int32)) := Da662 (Or.inr (w31 hw)) (ty := .byte) (by decide)
      have F665 : Fld Z h663 a662 "java/lang/String" "value" "[B" .null := Da662 (Or.inr (w33 hw)) (ty := (.array .byte)) (by decide)
      refine Ww.dup (pc' := 194) C at_193 rfl rfl ?_
      refine Ww.aload (pc' := 196) C at_194 rfl rfl rfl ?_
      have hp666 : ∀ c ∈ ([v15, v17, (46 : Int32), v21, v23, v26] : List Int32), ¬ c < 0 ∧ ¬ (255 : Int32) < c := (List.forall_mem_cons.mpr ⟨(Wk.rng255 hv14 hv15), (List.forall_mem_cons.mpr ⟨(Wk.rng255 hv16 hv17), (List.forall_mem_cons.mpr ⟨⟨by decide, by decide⟩, (List.forall_mem_cons.mpr ⟨(Wk.rng255 hv20 hv21), (List.forall_mem_cons.mpr ⟨(Wk.rng255 hv22 hv23), (List.forall_mem_cons.mpr ⟨(Wk.rng255 hv25 hv26), (fun _ h => nomatch h)⟩)⟩)⟩)⟩)⟩)⟩)
      refine Ww.callI (pc' := 199) C at_196 (a := a662) (fun vm0 C => (strNew C hw hs O663 (cs := [v15, v17, (46 : Int32), v21, v23, v26]) (n := 6) (Wn := 1) za662 Aa662 F665 F664 (V661.ext E663) rfl (by decide) (by decide) hp666 (by decide) (by decide))) (strNewC (n := 6) O663 za662 rfl (by decide) hp666) (fun v h' q => Or.inr (Or.inr ⟨[a662], allS (List.mem_of_getElem? (i := 0) rfl) all0, q.2.1⟩)) rfl (w8 hw) (w9 hw) (w10 hw) (by decide) (argsL := [(.ref a647)]) (st := [(.ref a662)]) rfl rfl (lenOf pd15 rfl) rfl (Nat.le_of_eq rfl) (k' := 15) rfl (n' := 48) rfl (by decide) (by decide) rfl ?_
      intro r667 h668 Q668 O668
      obtain ⟨rfl, Kh668, Sh668⟩ := Q668
      refine Ww.astore (pc' := 201) C at_199 rfl (Ls' := #[.val (.int p0), .val (.int p1), .val (.int p2), .val (.int p3), .val (.int p4), .val (.int p5), .val (.int (2 : Int32)), .val (.int (3 : Int32)), .val (.int v15), .val (.int v17), .val (.int v19), .val (.int v21), .val (.int v23), .val (.int v26), .val (.ref x643), .val (.ref x646), .val (.ref a647), .val (.ref a662), .unset]) rfl rfl ?_
      refine Ww.newO (pc' := 204) C at_201 (w37 hw) (w38 hw) (w39 hw) (k' := 16) rfl (n' := 50) rfl (by decide) (by decide) rfl ?_
      intro a669 h670 ga669 za669 E670 Aa669 Da669 Ua669 O670
      have F671 : Fld Z h670 a669 "com/example/isomorph/isomorph/MethodName" "className" "Ljava/lang/String;" .null := Da669 (Or.inr (w50 hw)) (ty := (.object "java/lang/String")) (by decide)
      have F672 : Fld Z h670 a669 "com/example/isomorph/isomorph/MethodName" "methodName" "Ljava/lang/String;" .null := Da669 (Or.inr (w52 hw)) (ty := (.object "java/lang/String")) (by decide)
      refine Ww.dup (pc' := 205) C at_204 rfl rfl ?_
      refine Ww.aload (pc' := 207) C at_205 rfl rfl rfl ?_
      refine Ww.aload (pc' := 209) C at_207 rfl rfl rfl ?_
      refine Ww.callI (pc' := 212) C at_209 (a := a669) (fun vm0 C => (Wk.Con.pays C (Wn := 1) (own_mnInit l hw O670 a669 x643 x646 za669 Aa669 F671 F672) (w42 hw) (w39 hw) (by decide) (by decide))) Wk.cleanC (fun v h' q => Or.inr (Or.inr ⟨[a669], allS (List.mem_of_getElem? (i := 0) rfl) all0, q.2.1⟩)) rfl (w40 hw) (w41 hw) (w42 hw) (by decide) (argsL := [(.ref x643), (.ref x646)]) (st := [(.ref a669)]) rfl rfl (lenOf pd20 rfl) rfl (Nat.le_of_eq rfl) (k' := 16) rfl (n' := 50) rfl (by decide) (by decide) rfl ?_
      intro r673 h674 Q674 O674
      obtain ⟨rfl, K674, A674, P674, T674⟩ := Q674
      have X675 : Ext h642 h648 := Wk.Ext.trans E645 E648
      have X676 : Ext h642 h651 := Wk.Ext.wr (Z := Z) X675 W651 (Nat.le_trans E645.1 (Nat.le_of_eq ga647.symm))
      have X677 : Ext h642 h653 := Wk.Ext.wr (Z := Z) X676 W653 (Nat.le_trans E645.1 (Nat.le_of_eq ga647.symm))
      have X678 : Ext h642 h655 := Wk.Ext.wr (Z := Z) X677 W655 (Nat.le_trans E645.1 (Nat.le_of_eq ga647.symm))
      have X679 : Ext h642 h657 := Wk.Ext.wr (Z := Z) X678 W657 (Nat.le_trans E645.1 (Nat.le_of_eq ga647.symm))
      have X680 : Ext h642 h659 := Wk.Ext.wr (Z := Z) X679 W659 (Nat.le_trans E645.1 (Nat.le_of_eq ga647.symm))
      have X681 : Ext h642 h661 := Wk.Ext.wr (Z := Z) X680 W661 (Nat.le_trans E645.1 (Nat.le_of_eq ga647.symm))
      have X682 : Ext h642 h663 := Wk.Ext.trans X681 E663
      have X683 : Ext h642 h668 := Wk.Ext.keep1 (Z := Z) X682 Kh668 (Nat.le_trans X681.1 (Nat.le_of_eq ga662.symm))
      have X684 : Ext h642 h670 := Wk.Ext.trans X683 E670
      have X685 : Ext h642 h674 := Wk.Ext.keep1 (Z := Z) X684 K674 (Nat.le_trans X683.1 (Nat.le_of_eq ga669.symm))
      have X686 : Ext h645 h651 := Wk.Ext.wr (Z := Z) E648 W651 (Nat.le_of_eq ga647.symm)
      have X687 : Ext h645 h653 := Wk.Ext.wr (Z := Z) X686 W653 (Nat.le_of_eq ga647.symm)
      have X688 : Ext h645 h655 := Wk.Ext.wr (Z := Z) X687 W655 (Nat.le_of_eq ga647.symm)
      have X689 : Ext h645 h657 := Wk.Ext.wr (Z := Z) X688 W657 (Nat.le_of_eq ga647.symm)
      have X690 : Ext h645 h659 := Wk.Ext.wr (Z := Z) X689 W659 (Nat.le_of_eq ga647.symm)
      have X691 : Ext h645 h661 := Wk.Ext.wr (Z := Z) X690 W661 (Nat.le_of_eq ga647.symm)
      have X692 : Ext h645 h663 := Wk.Ext.trans X691 E663
      have X693 : Ext h645 h668 := Wk.Ext.keep1 (Z := Z) X692 Kh668 (Nat.le_trans X691.1 (Nat.le_of_eq ga662.symm))
      have X694 : Ext h645 h670 := Wk.Ext.trans X693 E670
      have X695 : Ext h645 h674 := Wk.Ext.keep1 (Z := Z) X694 K674 (Nat.le_trans X693.1 (Nat.le_of_eq ga669.symm))
      refine Ww.callVS (pc' := 215) C at_212 (a := a669) (Ww.Con.pays hE (Wn := 0) (own_mnTo l hw hE O674 hs a669 x643 x646 ([v15, v17] : List Int32) ([v21, v23, v26] : List Int32) P674 T674 (S642.ext X685) (S645.ext X695) (show _ ≤ 3 from Nat.le_of_ble_eq_true rfl) (show _ ≤ 3 from Nat.le_of_ble_eq_true rfl)) (w57 hw) (w39 hw) (by decide) (by decide)) Wk.cleanC A674 (w53 hw) (w54 hw) (fun vm0 hZ0 => notFace_of_selects (args := #[]) (mvT (s := W.s.setVm vm0) hZ0 (w56 hw))) (w56 hw) (w55 hw) (by decide) (argsL := []) (st := []) rfl rfl (lenOf pd18 rfl) rfl (Nat.le_of_eq rfl) (k' := 22) rfl (n' := 114) rfl (by decide) (by decide) rfl ?_
      intro r696 h697 Q697 O697
      obtain ⟨x698, rfl, E697, S697⟩ := Q697
      refine Ww.astore (pc' := 217) C at_215 rfl (Ls' := #[.val (.int p0), .val (.int p1), .val (.int p2), .val (.int p3), .val (.int p4), .val (.int p5), .val (.int (2 : Int32)), .val (.int (3 : Int32)), .val (.int v15), .val (.int v17), .val (.int v19), .val (.int v21), .val (.int v23), .val (.int v26), .val (.ref x643), .val (.ref x646), .val (.ref a647), .val (.ref a662), .val (.ref x698)]) rfl rfl ?_
      refine Ww.aload (pc' := 219) C at_217 rfl rfl rfl ?_
      refine Ww.aload (pc' := 221) C at_219 rfl rfl rfl ?_
      have X699 : Ext h668 h674 := Wk.Ext.keep1 (Z := Z) E670 K674 (Nat.le_of_eq ga669.symm)
      have X700 : Ext h668 h697 := Wk.Ext.trans X699 E697
      refine Ww.callV (pc' := 224) C at_221 (a := x698) (fun vm0 C => (strEq C hw hs O697 (Wn := 0) S697 (Sh668.ext X700) (by decide) (by decide))) (pureC (P := fun v => (v = some (.int 1) ∧ ((([] ++ ([v15, v17] : List Int32)) ++ [46]) ++ ([v21, v23, v26] : List Int32) : List Int32) = [v15, v17, (46 : Int32), v21, v23, v26]) ∨ (v = some (.int 0) ∧ ¬ ((([] ++ ([v15, v17] : List Int32)) ++ [46]) ++ ([v21, v23, v26] : List Int32) : List Int32) = [v15, v17, (46 : Int32), v21, v23, v26])) O697) (fun v h' q => Or.inl q.2) S697.exa (w169 hw) (w170 hw) (fun vm0 hZ0 => notFace_of_selects (args := #[]) (mvT (s := W.s.setVm vm0) hZ0 (w172 hw))) (w172 hw) (w171 hw) (by decide) (argsL := [(.ref a662)]) (st := []) rfl rfl (lenOf pd21 rfl) rfl (Nat.le_of_eq rfl) (k' := 22) rfl (n' := 114) rfl (by decide) (by decide) rfl ?_
      intro r701 h702 Q702 O702
      obtain ⟨q704, e703⟩ := Q702
      obtain rfl := e703.symm
      rcases q704 with ⟨rfl, q704⟩ | ⟨rfl, q704⟩
      · -- equal: True
        exact Ww.retNar (ty := .boolean) C hE (by simp) at_224 rfl (by decide) (by decide) rfl
      · -- equal: False
        exact absurd rfl q704
  · -- 3
    rcases own_m3 hv13 with rfl | rfl | rfl | rfl
    · -- 0
      refine Ww.iload (pc' := 69) C at_67 rfl rfl ?_
      refine Ww.iload (pc' := 71) C at_69 rfl rfl ?_
      refine Ww.iload (pc' := 73) C at_71 rfl rfl ?_
      refine Ww.iload (pc' := 75) C at_73 rfl rfl ?_
      refine Ww.callSS (pc' := 78) C at_75 (Ww.Con.pays hE (Wn := 0) (own_str3 l hw hE O0 hs v15 v17 v19 (Wk.rng255 hv14 hv15) (Wk.rng255 hv16 hv17) (Wk.rng255 hv18 hv19)) (w3 hw) (w2 hw) (by decide) (by decide)) Wk.cleanC (w0 hw) (w1 hw) (w2 hw) (w3 hw) (by decide) (argsL := [(.int (3 : Int32)), (.int v15), (.int v17), (.int v19)]) (st := []) rfl rfl (lenOf pd19 rfl) rfl (Nat.le_of_eq rfl) (k' := 6) rfl (n' := 16) rfl (by decide) (by decide) rfl ?_
      intro r705 h706 Q706 O706
      obtain ⟨x707, rfl, E706, S706⟩ := Q706
      refine Ww.astore (pc' := 80) C at_78 rfl (Ls' := #[.val (.int p0), .val (.int p1), .val (.int p2), .val (.int p3), .val (.int p4), .val (.int p5), .val (.int (3 : Int32)), .val (.int (0 : Int32)), .val (.int v15), .val (.int v17), .val (.int v19), .val (.int v21), .val (.int v23), .val (.int v26), .val (.ref x707), .unset, .unset, .unset, .unset]) rfl rfl ?_
      refine Ww.iload (pc' := 82) C at_80 rfl rfl ?_
      refine Ww.iload (pc' := 84) C at_82 rfl rfl ?_
      refine Ww.iload (pc' := 86) C at_84 rfl rfl ?_
      refine Ww.iload (pc' := 88) C at_86 rfl rfl ?_
      refine Ww.callSS (pc' := 91) C at_88 (Ww.Con.pays hE (Wn := 0) (own_str0 l hw hE O706 hs v21 v23 v26 (Wk.rng255 hv20 hv21) (Wk.rng255 hv22 hv23) (Wk.rng255 hv25 hv26)) (w3 hw) (w2 hw) (by decide) (by decide)) Wk.cleanC (w0 hw) (w1 hw) (w2 hw) (w3 hw) (by decide) (argsL := [(.int (0 : Int32)), (.int v21), (.int v23), (.int v26)]) (st := []) rfl rfl (lenOf pd19 rfl) rfl (Nat.le_of_eq rfl) (k' := 12) rfl (n' := 32) rfl (by decide) (by decide) rfl ?_
      intro r708 h709 Q709 O709
      obtain ⟨x710, rfl, E709, S709⟩ := Q709
      refine Ww.astore (pc' := 93) C at_91 rfl (Ls' := #[.val (.int p0), .val (.int p1), .val (.int p2), .val (.int p3), .val (.int p4), .val (.int p5), .val (.int (3 : Int32)), .val (.int (0 : Int32)), .val (.int v15), .val (.int v17), .val (.int v19), .val (.int v21), .val (.int v23), .val (.int v26), .val (.ref x707), .val (.ref x710), .unset, .unset, .unset]) rfl rfl ?_
      refine Ww.iload (pc' := 95) C at_93 rfl rfl ?_
      refine Ww.iconst (pc' := 96) C at_95 (v := (1 : Int32)) rfl rfl ?_
      refine Ww.iadd (pc' := 97) C at_96 (v := (4 : Int32)) (by decide) rfl ?_
      refine Ww.iload (pc' := 99) C at_97 rfl rfl ?_
      refine Ww.iadd (pc' := 100) C at_99 (v := (4 : Int32)) (by decide) rfl ?_
      refine Ww.newA (pc' := 102) C at_100 (ty := .char) rfl (w7 hw) (by decide) (cap := 4) (by decide) (by decide) (k' := 13) rfl (n' := 36) rfl (by decide) (by decide) rfl rfl ?_
      intro a711 h712 ga711 za711 E712 Va711 O712
      have V713 : Wk.Ary Z h712 a711 .char [(.int (0 : Int32)), (.int (0 : Int32)), (.int (0 : Int32)), (.int (0 : Int32))] := Va711
      refine Ww.astore (pc' := 104) C at_102 rfl (Ls' := #[.val (.int p0), .val (.int p1), .val (.int p2), .val (.int p3), .val (.int p4), .val (.int p5), .val (.int (3 : Int32)), .val (.int (0 : Int32)), .val (.int v15), .val (.int v17), .val (.int v19), .val (.int v21), .val (.int v23), .val (.int v26), .val (.ref x707), .val (.ref x710), .val (.ref a711), .unset, .unset]) rfl rfl ?_
      refine Ww.iload (pc' := 106) C at_104 rfl rfl ?_
      refine Ww.if_le C at_106 (by decide) (pcT := 115) (by decide) (pc' := 109) rfl (fun q => absurd q (by decide)) (fun q714 => ?_)
      refine Ww.aload (pc' := 111) C at_109 rfl rfl rfl ?_
      refine Ww.iconst (pc' := 112) C at_111 (v := (0 : Int32)) rfl rfl ?_
      refine Ww.iload (pc' := 114) C at_112 rfl rfl ?_
      refine Ww.castore (pc' := 115) C at_114 V713 (by decide) (show _ < _ from Nat.le_of_ble_eq_true rfl) (Wk.nar_i2c hv15) (vs' := [(.int v15), (.int (0 : Int32)), (.int (0 : Int32)), (.int (0 : Int32))]) rfl za711 (List.mem_of_getElem? (i := 0) rfl) rfl ?_
      intro h715 W715 V715 O715
      refine Ww.iload (pc' := 117) C at_115 rfl rfl ?_
      refine Ww.iconst (pc' := 118) C at_117 (v := (1 : Int32)) rfl rfl ?_
      refine Ww.icmp_le C at_118 (by decide) (pcT := 127) (by decide) (pc' := 121) rfl (fun q => absurd q (by decide)) (fun q716 => ?_)
      refine Ww.aload (pc' := 123) C at_121 rfl rfl rfl ?_
      refine Ww.iconst (pc' := 124) C at_123 (v := (1 : Int32)) rfl rfl ?_
      refine Ww.iload (pc' := 126) C at_124 rfl rfl ?_
      refine Ww.castore (pc' := 127) C at_126 V715 (by decide) (show _ < _ from Nat.le_of_ble_eq_true rfl) (Wk.nar_i2c hv17) (vs' := [(.int v15), (.int v17), (.int (0 : Int32)), (.int (0 : Int32))]) rfl za711 (List.mem_of_getElem? (i := 0) rfl) rfl ?_
      intro h717 W717 V717 O717
      refine Ww.iload (pc' := 129) C at_127 rfl rfl ?_
      refine Ww.iconst (pc' := 130) C at_129 (v := (2 : Int32)) rfl rfl ?_
      refine Ww.icmp_le C at_130 (by decide) (pcT := 139) (by decide) (pc' := 133) rfl (fun q => absurd q (by decide)) (fun q718 => ?_)
      refine Ww.aload (pc' := 135) C at_133 rfl rfl rfl ?_
      refine Ww.iconst (pc' := 136) C at_135 (v := (2 : Int32)) rfl rfl ?_
      refine Ww.iload (pc' := 138) C at_136 rfl rfl ?_
      refine Ww.castore (pc' := 139) C at_138 V717 (by decide) (show _ < _ from Nat.le_of_ble_eq_true rfl) (Wk.nar_i2c hv19) (vs' := [(.int v15), (.int v17), (.int v19), (.int (0 : Int32))]) rfl za711 (List.mem_of_getElem? (i := 0) rfl) rfl ?_
      intro h719 W719 V719 O719
      refine Ww.aload (pc' := 141) C at_139 rfl rfl rfl ?_
      refine Ww.iload (pc' := 143) C at_141 rfl rfl ?_
      refine Ww.bipush (pc' := 145) C at_143 (v := (46 : Int32)) rfl rfl ?_
      refine Ww.castore (pc' := 146) C at_145 V719 (by decide) (show _ < _ from Nat.le_of_ble_eq_true rfl) (by decide) (vs' := [(.int v15), (.int v17), (.int v19), (.int (46 : Int32))]) rfl za711 (List.mem_of_getElem? (i := 0) rfl) rfl ?_
      intro h720 W720 V720 O720
      refine Ww.iload (pc' := 148) C at_146 rfl rfl ?_
      refine Ww.if_le C at_148 (by decide) (pcT := 160) (by decide) (pc' := 151) rfl (fun q721 => ?_) (fun q => absurd q (by decide))
      refine Ww.iload (pc' := 162) C at_160 rfl rfl ?_
      refine Ww.iconst (pc' := 163) C at_162 (v := (1 : Int32)) rfl rfl ?_
      refine Ww.icmp_le C at_163 (by decide) (pcT := 175) (by decide) (pc' := 166) rfl (fun q722 => ?_) (fun q => absurd q (by decide))
      refine Ww.iload (pc' := 177) C at_175 rfl rfl ?_
      refine Ww.iconst (pc' := 178) C at_177 (v := (2 : Int32)) rfl rfl ?_
      refine Ww.icmp_le C at_178 (by decide) (pcT := 190) (by decide) (pc' := 181) rfl (fun q723 => ?_) (fun q => absurd q (by decide))
      refine Ww.newO (pc' := 193) C at_190 (w4 hw) (w5 hw) (w6 hw) (k' := 14) rfl (n' := 40) rfl (by decide) (by decide) rfl ?_
      intro a724 h725 ga724 za724 E725 Aa724 Da724 Ua724 O725
      have F726 : Fld Z h725 a724 "java/lang/String" "coder" "B" (.int (0 : Int32)) := Da724 (Or.inr (w31 hw)) (ty := .byte) (by decide)
      have F727 : Fld Z h725 a724 "java/lang/String" "value" "[B" .null := Da724 (Or.inr (w33 hw)) (ty := (.array .byte)) (by decide)
      refine Ww.dup (pc' := 194) C at_193 rfl rfl ?_
      refine Ww.aload (pc' := 196) C at_194 rfl rfl rfl ?_
      have hp728 : ∀ c ∈ ([v15, v17, v19, (46 : Int32)] : List Int32), ¬ c < 0 ∧ ¬ (255 : Int32) < c := (List.forall_mem_cons.mpr ⟨(Wk.rng255 hv14 hv15), (List.forall_mem_cons.mpr ⟨(Wk.rng255 hv16 hv17), (List.forall_mem_cons.mpr ⟨(Wk.rng255 hv18 hv19), (List.forall_mem_cons.mpr ⟨⟨by decide, by decide⟩, (fun _ h => nomatch h)⟩)⟩)⟩)⟩)
      refine Ww.callI (pc' := 199) C at_196 (a := a724) (fun vm0 C => (strNew C hw hs O725 (cs := [v15, v17, v19, (46 : Int32)]) (n := 4) (Wn := 1) za724 Aa724 F727 F726 (V720.ext E725) rfl (by decide) (by decide) hp728 (by decide) (by decide))) (strNewC (n := 4) O725 za724 rfl (by decide) hp728) (fun v h' q => Or.inr (Or.inr ⟨[a724], allS (List.mem_of_getElem? (i := 0) rfl) all0, q.2.1⟩)) rfl (w8 hw) (w9 hw) (w10 hw) (by decide) (argsL := [(.ref a711)]) (st := [(.ref a724)]) rfl rfl (lenOf pd15 rfl) rfl (Nat.le_of_eq rfl) (k' := 15) rfl (n' := 44) rfl (by decide) (by decide) rfl ?_
      intro r729 h730 Q730 O730
      obtain ⟨rfl, Kh730, Sh730⟩ := Q730
      refine Ww.astore (pc' := 201) C at_199 rfl (Ls' := #[.val (.int p0), .val (.int p1), .val (.int p2), .val (.int p3), .val (.int p4), .val (.int p5), .val (.int (3 : Int32)), .val (.int (0 : Int32)), .val (.int v15), .val (.int v17), .val (.int v19), .val (.int v21), .val (.int v23), .val (.int v26), .val (.ref x707), .val (.ref x710), .val (.ref a711), .val (.ref a724), .unset]) rfl rfl ?_
      refine Ww.newO (pc' := 204) C at_201 (w37 hw) (w38 hw) (w39 hw) (k' := 16) rfl (n' := 46) rfl (by decide) (by decide) rfl ?_
      intro a731 h732 ga731 za731 E732 Aa731 Da731 Ua731 O732
      have F733 : Fld Z h732 a731 "com/example/isomorph/isomorph/MethodName" "className" "Ljava/lang/String;" .null := Da731 (Or.inr (w50 hw)) (ty := (.object "java/lang/String")) (by decide)
      have F734 : Fld Z h732 a731 "com/example/isomorph/isomorph/MethodName" "methodName" "Ljava/lang/String;" .null := Da731 (Or.inr (w52 hw)) (ty := (.object "java/lang/String")) (by decide)
      refine Ww.dup (pc' := 205) C at_204 rfl rfl ?_
      refine Ww.aload (pc' := 207) C at_205 rfl rfl rfl ?_
      refine Ww.aload (pc' := 209) C at_207 rfl rfl rfl ?_
      refine Ww.callI (pc' := 212) C at_209 (a := a731) (fun vm0 C => (Wk.Con.pays C (Wn := 1) (own_mnInit l hw O732 a731 x707 x710 za731 Aa731 F733 F734) (w42 hw) (w39 hw) (by decide) (by decide))) Wk.cleanC (fun v h' q => Or.inr (Or.inr ⟨[a731], allS (List.mem_of_getElem? (i := 0) rfl) all0, q.2.1⟩)) rfl (w40 hw) (w41 hw) (w42 hw) (by decide) (argsL := [(.ref x707), (.ref x710)]) (st := [(.ref a731)]) rfl rfl (lenOf pd20 rfl) rfl (Nat.le_of_eq rfl) (k' := 16) rfl (n' := 46) rfl (by decide) (by decide) rfl ?_
      intro r735 h736 Q736 O736
      obtain ⟨rfl, K736, A736, P736, T736⟩ := Q736
      have X737 : Ext h706 h712 := Wk.Ext.trans E709 E712
      have X738 : Ext h706 h715 := Wk.Ext.wr (Z := Z) X737 W715 (Nat.le_trans E709.1 (Nat.le_of_eq ga711.symm))
      have X739 : Ext h706 h717 := Wk.Ext.wr (Z := Z) X738 W717 (Nat.le_trans E709.1 (Nat.le_of_eq ga711.symm))
      have X740 : Ext h706 h719 := Wk.Ext.wr (Z := Z) X739 W719 (Nat.le_trans E709.1 (Nat.le_of_eq ga711.symm))
      have X741 : Ext h706 h720 := Wk.Ext.wr (Z := Z) X740 W720 (Nat.le_trans E709.1 (Nat.le_of_eq ga711.symm))
      have X742 : Ext h706 h725 := Wk.Ext.trans X741 E725
      have X743 : Ext h706 h730 := Wk.Ext.keep1 (Z := Z) X742 Kh730 (Nat.le_trans X741.1 (Nat.le_of_eq ga724.symm))
      have X744 : Ext h706 h732 := Wk.Ext.trans X743 E732
      have X745 : Ext h706 h736 := Wk.Ext.keep1 (Z := Z) X744 K736 (Nat.le_trans X743.1 (Nat.le_of_eq ga731.symm))
      have X746 : Ext h709 h715 := Wk.Ext.wr (Z := Z) E712 W715 (Nat.le_of_eq ga711.symm)
      have X747 : Ext h709 h717 := Wk.Ext.wr (Z := Z) X746 W717 (Nat.le_of_eq ga711.symm)
      have X748 : Ext h709 h719 := Wk.Ext.wr (Z := Z) X747 W719 (Nat.le_of_eq ga711.symm)
      have X749 : Ext h709 h720 := Wk.Ext.wr (Z := Z) X748 W720 (Nat.le_of_eq ga711.symm)
      have X750 : Ext h709 h725 := Wk.Ext.trans X749 E725
      have X751 : Ext h709 h730 := Wk.Ext.keep1 (Z := Z) X750 Kh730 (Nat.le_trans X749.1 (Nat.le_of_eq ga724.symm))
      have X752 : Ext h709 h732 := Wk.Ext.trans X751 E732
      have X753 : Ext h709 h736 := Wk.Ext.keep1 (Z := Z) X752 K736 (Nat.le_trans X751.1 (Nat.le_of_eq ga731.symm))
      refine Ww.callVS (pc' := 215) C at_212 (a := a731) (Ww.Con.pays hE (Wn := 0) (own_mnTo l hw hE O736 hs a731 x707 x710 ([v15, v17, v19] : List Int32) ([] : List Int32) P736 T736 (S706.ext X745) (S709.ext X753) (show _ ≤ 3 from Nat.le_of_ble_eq_true rfl) (show _ ≤ 3 from Nat.le_of_ble_eq_true rfl)) (w57 hw) (w39 hw) (by decide) (by decide)) Wk.cleanC A736 (w53 hw) (w54 hw) (fun vm0 hZ0 => notFace_of_selects (args := #[]) (mvT (s := W.s.setVm vm0) hZ0 (w56 hw))) (w56 hw) (w55 hw) (by decide) (argsL := []) (st := []) rfl rfl (lenOf pd18 rfl) rfl (Nat.le_of_eq rfl) (k' := 22) rfl (n' := 110) rfl (by decide) (by decide) rfl ?_
      intro r754 h755 Q755 O755
      obtain ⟨x756, rfl, E755, S755⟩ := Q755
      refine Ww.astore (pc' := 217) C at_215 rfl (Ls' := #[.val (.int p0), .val (.int p1), .val (.int p2), .val (.int p3), .val (.int p4), .val (.int p5), .val (.int (3 : Int32)), .val (.int (0 : Int32)), .val (.int v15), .val (.int v17), .val (.int v19), .val (.int v21), .val (.int v23), .val (.int v26), .val (.ref x707), .val (.ref x710), .val (.ref a711), .val (.ref a724), .val (.ref x756)]) rfl rfl ?_
      refine Ww.aload (pc' := 219) C at_217 rfl rfl rfl ?_
      refine Ww.aload (pc' := 221) C at_219 rfl rfl rfl ?_
      have X757 : Ext h730 h736 := Wk.Ext.keep1 (Z := Z) E732 K736 (Nat.le_of_eq ga731.symm)
      have X758 : Ext h730 h755 := Wk.Ext.trans X757 E755
      refine Ww.callV (pc' := 224) C at_221 (a := x756) (fun vm0 C => (strEq C hw hs O755 (Wn := 0) S755 (Sh730.ext X758) (by decide) (by decide))) (pureC (P := fun v => (v = some (.int 1) ∧ ((([] ++ ([v15, v17, v19] : List Int32)) ++ [46]) ++ ([] : List Int32) : List Int32) = [v15, v17, v19, (46 : Int32)]) ∨ (v = some (.int 0) ∧ ¬ ((([] ++ ([v15, v17, v19] : List Int32)) ++ [46]) ++ ([] : List Int32) : List Int32) = [v15, v17, v19, (46 : Int32)])) O755) (fun v h' q => Or.inl q.2) S755.exa (w169 hw) (w170 hw) (fun vm0 hZ0 => notFace_of_selects (args := #[]) (mvT (s := W.s.setVm vm0) hZ0 (w172 hw))) (w172 hw) (w171 hw) (by decide) (argsL := [(.ref a724)]) (st := []) rfl rfl (lenOf pd21 rfl) rfl (Nat.le_of_eq rfl) (k' := 22) rfl (n' := 110) rfl (by decide) (by decide) rfl ?_
      intro r759 h760 Q760 O760
      obtain ⟨q762, e761⟩ := Q760
      obtain rfl := e761.symm
      rcases q762 with ⟨rfl, q762⟩ | ⟨rfl, q762⟩
      · -- equal: True
        exact Ww.retNar (ty := .boolean) C hE (by simp) at_224 rfl (by decide) (by decide) rfl
      · -- equal: False
        exact absurd rfl q762
    · -- 1
      refine Ww.iload (pc' := 69) C at_67 rfl rfl ?_
      refine Ww.iload (pc' := 71) C at_69 rfl rfl ?_
      refine Ww.iload (pc' := 73) C at_71 rfl rfl ?_
      refine Ww.iload (pc' := 75) C at_73 rfl rfl ?_
      refine Ww.callSS (pc' := 78) C at_75 (Ww.Con.pays hE (Wn := 0) (own_str3 l hw hE O0 hs v15 v17 v19 (Wk.rng255 hv14 hv15) (Wk.rng255 hv16 hv17) (Wk.rng255 hv18 hv19)) (w3 hw) (w2 hw) (by decide) (by decide)) Wk.cleanC (w0 hw) (w1 hw) (w2 hw) (w3 hw) (by decide) (argsL := [(.int (3 : Int32)), (.int v15), (.int v17), (.int v19)]) (st := []) rfl rfl (lenOf pd19 rfl) rfl (Nat.le_of_eq rfl) (k' := 6) rfl (n' := 16) rfl (by decide) (by decide) rfl ?_
      intro r763 h764 Q764 O764
      obtain ⟨x765, rfl, E764, S764⟩ := Q764
      refine Ww.astore (pc' := 80) C at_78 rfl (Ls' := #[.val (.int p0), .val (.int p1), .val (.int p2), .val (.int p3), .val (.int p4), .val (.int p5), .val (.int (3 : Int32)), .val (.int (1 : Int32)), .val (.int v15), .val (.int v17), .val (.int v19), .val (.int v21), .val (.int v23), .val (.int v26), .val (.ref x765), .unset, .unset, .unset, .unset]) rfl rfl ?_
      refine Ww.iload (pc' := 82) C at_80 rfl rfl ?_
      refine Ww.iload (pc' := 84) C at_82 rfl rfl ?_
      refine Ww.iload (pc' := 86) C at_84 rfl rfl ?_
      refine Ww.iload (pc' := 88) C at_86 rfl rfl ?_
      refine Ww.callSS (pc' := 91) C at_88 (Ww.Con.pays hE (Wn := 0) (own_str1 l hw hE O764 hs v21 v23 v26 (Wk.rng255 hv20 hv21) (Wk.rng255 hv22 hv23) (Wk.rng255 hv25 hv26)) (w3 hw) (w2 hw) (by decide) (by decide)) Wk.cleanC (w0 hw) (w1 hw) (w2 hw) (w3 hw) (by decide) (argsL := [(.int (1 : Int32)), (.int v21), (.int v23), (.int v26)]) (st := []) rfl rfl (lenOf pd19 rfl) rfl (Nat.le_of_eq rfl) (k' := 12) rfl (n' := 32) rfl (by decide) (by decide) rfl ?_
      intro r766 h767 Q767 O767
      obtain ⟨x768, rfl, E767, S767⟩ := Q767
      refine Ww.astore (pc' := 93) C at_91 rfl (Ls' := #[.val (.int p0), .val (.int p1), .val (.int p2), .val (.int p3), .val (.int p4), .val (.int p5), .val (.int (3 : Int32)), .val (.int (1 : Int32)), .val (.int v15), .val (.int v17), .val (.int v19), .val (.int v21), .val (.int v23), .val (.int v26), .val (.ref x765), .val (.ref x768), .unset, .unset, .unset]) rfl rfl ?_
      refine Ww.iload (pc' := 95) C at_93 rfl rfl ?_
      refine Ww.iconst (pc' := 96) C at_95 (v := (1 : Int32)) rfl rfl ?_
      refine Ww.iadd (pc' := 97) C at_96 (v := (4 : Int32)) (by decide) rfl ?_
      refine Ww.iload (pc' := 99) C at_97 rfl rfl ?_
      refine Ww.iadd (pc' := 100) C at_99 (v := (5 : Int32)) (by decide) rfl ?_
      refine Ww.newA (pc' := 102) C at_100 (ty := .char) rfl (w7 hw) (by decide) (cap := 5) (by decide) (by decide) (k' := 13) rfl (n' := 37) rfl (by decide) (by decide) rfl rfl ?_
      intro a769 h770 ga769 za769 E770 Va769 O770
      have V771 : Wk.Ary Z h770 a769 .char [(.int (0 : Int32)), (.int (0 : Int32)), (.int (0 : Int32)), (.int (0 : Int32)), (.int (0 : Int32))] := Va769
      refine Ww.astore (pc' := 104) C at_102 rfl (Ls' := #[.val (.int p0), .val (.int p1), .val (.int p2), .val (.int p3), .val (.int p4), .val (.int p5), .val (.int (3 : Int32)), .val (.int (1 : Int32)), .val (.int v15), .val (.int v17), .val (.int v19), .val (.int v21), .val (.int v23), .val (.int v26), .val (.ref x765), .val (.ref x768), .val (.ref a769), .unset, .unset]) rfl rfl ?_
      refine Ww.iload (pc' := 106) C at_104 rfl rfl ?_
      refine Ww.if_le C at_106 (by decide) (pcT := 115) (by decide) (pc' := 109) rfl (fun q => absurd q (by decide)) (fun q772 => ?_)
      refine Ww.aload (pc' := 111) C at_109 rfl rfl rfl ?_
      refine Ww.iconst (pc' := 112) C at_111 (v := (0 : Int32)) rfl rfl ?_
      refine Ww.iload (pc' := 114) C at_112 rfl rfl ?_
      refine Ww.castore (pc' := 115) C at_114 V771 (by decide) (show _ < _ from Nat.le_of_ble_eq_true rfl) (Wk.nar_i2c hv15) (vs' := [(.int v15), (.int (0 : Int32)), (.int (0 : Int32)), (.int (0 : Int32)), (.int (0 : Int32))]) rfl za769 (List.mem_of_getElem? (i := 0) rfl) rfl ?_
      intro h773 W773 V773 O773
      refine Ww.iload (pc' := 117) C at_115 rfl rfl ?_
      refine Ww.iconst (pc' := 118) C at_117 (v := (1 : Int32)) rfl rfl ?_
      refine Ww.icmp_le C at_118 (by decide) (pcT := 127) (by decide) (pc' := 121) rfl (fun q => absurd q (by decide)) (fun q774 => ?_)
      refine Ww.aload (pc' := 123) C at_121 rfl rfl rfl ?_
      refine Ww.iconst (pc' := 124) C at_123 (v := (1 : Int32)) rfl rfl ?_
      refine Ww.iload (pc' := 126) C at_124 rfl rfl ?_
      refine Ww.castore (pc' := 127) C at_126 V773 (by decide) (show _ < _ from Nat.le_of_ble_eq_true rfl) (Wk.nar_i2c hv17) (vs' := [(.int v15), (.int v17), (.int (0 : Int32)), (.int (0 : Int32)), (.int (0 : Int32))]) rfl za769 (List.mem_of_getElem? (i := 0) rfl) rfl ?_
      intro h775 W775 V775 O775
      refine Ww.iload (pc' := 129) C at_127 rfl rfl ?_
      refine Ww.iconst (pc' := 130) C at_129 (v := (2 : Int32)) rfl rfl ?_
      refine Ww.icmp_le C at_130 (by decide) (pcT := 139) (by decide) (pc' := 133) rfl (fun q => absurd q (by decide)) (fun q776 => ?_)
      refine Ww.aload (pc' := 135) C at_133 rfl rfl rfl ?_
      refine Ww.iconst (pc' := 136) C at_135 (v := (2 : Int32)) rfl rfl ?_
      refine Ww.iload (pc' := 138) C at_136 rfl rfl ?_
      refine Ww.castore (pc' := 139) C at_138 V775 (by decide) (show _ < _ from Nat.le_of_ble_eq_true rfl) (Wk.nar_i2c hv19) (vs' := [(.int v15), (.int v17), (.int v19), (.int (0 : Int32)), (.int (0 : Int32))]) rfl za769 (List.mem_of_getElem? (i := 0) rfl) rfl ?_
      intro h777 W777 V777 O777
      refine Ww.aload (pc' := 141) C at_139 rfl rfl rfl ?_
      refine Ww.iload (pc' := 143) C at_141 rfl rfl ?_
      refine Ww.bipush (pc' := 145) C at_143 (v := (46 : Int32)) rfl rfl ?_
      refine Ww.castore (pc' := 146) C at_145 V777 (by decide) (show _ < _ from Nat.le_of_ble_eq_true rfl) (by decide) (vs' := [(.int v15), (.int v17), (.int v19), (.int (46 : Int32)), (.int (0 : Int32))]) rfl za769 (List.mem_of_getElem? (i := 0) rfl) rfl ?_
      intro h778 W778 V778 O778
      refine Ww.iload (pc' := 148) C at_146 rfl rfl ?_
      refine Ww.if_le C at_148 (by decide) (pcT := 160) (by decide) (pc' := 151) rfl (fun q => absurd q (by decide)) (fun q779 => ?_)
      refine Ww.aload (pc' := 153) C at_151 rfl rfl rfl ?_
      refine Ww.iload (pc' := 155) C at_153 rfl rfl ?_
      refine Ww.iconst (pc' := 156) C at_155 (v := (1 : Int32)) rfl rfl ?_
      refine Ww.iadd (pc' := 157) C at_156 (v := (4 : Int32)) (by decide) rfl ?_
      refine Ww.iload (pc' := 159) C at_157 rfl rfl ?_
      refine Ww.castore (pc' := 160) C at_159 V778 (by decide) (show _ < _ from Nat.le_of_ble_eq_true rfl) (Wk.nar_i2c hv21) (vs' := [(.int v15), (.int v17), (.int v19), (.int (46 : Int32)), (.int v21)]) rfl za769 (List.mem_of_getElem? (i := 0) rfl) rfl ?_
      intro h780 W780 V780 O780
      refine Ww.iload (pc' := 162) C at_160 rfl rfl ?_
      refine Ww.iconst (pc' := 163) C at_162 (v := (1 : Int32)) rfl rfl ?_
      refine Ww.icmp_le C at_163 (by decide) (pcT := 175) (by decide) (pc' := 166) rfl (fun q781 => ?_) (fun q => absurd q (by decide))
      refine Ww.iload (pc' := 177) C at_175 rfl rfl ?_
      refine Ww.iconst (pc' := 178) C at_177 (v := (2 : Int32)) rfl rfl ?_
      refine Ww.icmp_le C at_178 (by decide) (pcT := 190) (by decide) (pc' := 181) rfl (fun q782 => ?_) (fun q => absurd q (by decide))
      refine Ww.newO (pc' := 193) C at_190 (w4 hw) (w5 hw) (w6 hw) (k' := 14) rfl (n' := 41) rfl (by decide) (by decide) rfl ?_
      intro a783 h784 ga783 za783 E784 Aa783 Da783 Ua783 O784
      have F785 : Fld Z h784 a783 "java/lang/String" "coder" "B" (.int (0 : Int32)) := Da783 (Or.inr (w31 hw)) (ty := .byte) (by decide)
      have F786 : Fld Z h784 a783 "java/lang/String" "value" "[B" .null := Da783 (Or.inr (w33 hw)) (ty := (.array .byte)) (by decide)
      refine Ww.dup (pc' := 194) C at_193 rfl rfl ?_
      refine Ww.aload (pc' := 196) C at_194 rfl rfl rfl ?_
      have hp787 : ∀ c ∈ ([v15, v17, v19, (46 : Int32), v21] : List Int32), ¬ c < 0 ∧ ¬ (255 : Int32) < c := (List.forall_mem_cons.mpr ⟨(Wk.rng255 hv14 hv15), (List.forall_mem_cons.mpr ⟨(Wk.rng255 hv16 hv17), (List.forall_mem_cons.mpr ⟨(Wk.rng255 hv18 hv19), (List.forall_mem_cons.mpr ⟨⟨by decide, by decide⟩, (List.forall_mem_cons.mpr ⟨(Wk.rng255 hv20 hv21), (fun _ h => nomatch h)⟩)⟩)⟩)⟩)⟩)
      refine Ww.callI (pc' := 199) C at_196 (a := a783) (fun vm0 C => (strNew C hw hs O784 (cs := [v15, v17, v19, (46 : Int32), v21]) (n := 5) (Wn := 1) za783 Aa783 F786 F785 (V780.ext E784) rfl (by decide) (by decide) hp787 (by decide) (by decide))) (strNewC (n := 5) O784 za783 rfl (by decide) hp787) (fun v h' q => Or.inr (Or.inr ⟨[a783], allS (List.mem_of_getElem? (i := 0) rfl) all0, q.2.1⟩)) rfl (w8 hw) (w9 hw) (w10 hw) (by decide) (argsL := [(.ref a769)]) (st := [(.ref a783)]) rfl rfl (lenOf pd15 rfl) rfl (Nat.le_of_eq rfl) (k' := 15) rfl (n' := 46) rfl (by decide) (by decide) rfl ?_
      intro r788 h789 Q789 O789
      obtain ⟨rfl, Kh789, Sh789⟩ := Q789
      refine Ww.astore (pc' := 201) C at_199 rfl (Ls' := #[.val (.int p0), .val (.int p1), .val (.int p2), .val (.int p3), .val (.int p4), .val (.int p5), .val (.int (3 : Int32)), .val (.int (1 : Int32)), .val (.int v15), .val (.int v17), .val (.int v19), .val (.int v21), .val (.int v23), .val (.int v26), .val (.ref x765), .val (.ref x768), .val (.ref a769), .val (.ref a783), .unset]) rfl rfl ?_
      refine Ww.newO (pc' := 204) C at_201 (w37 hw) (w38 hw) (w39 hw) (k' := 16) rfl (n' := 48) rfl (by decide) (by decide) rfl ?_
      intro a790 h791 ga790 za790 E791 Aa790 Da790 Ua790 O791
      have F792 : Fld Z h791 a790 "com/example/isomorph/isomorph/MethodName" "className" "Ljava/lang/String;" .null := Da790 (Or.inr (w50 hw)) (ty := (.object "java/lang/String")) (by decide)
      have F793 : Fld Z h791 a790 "com/example/isomorph/isomorph/MethodName" "methodName" "Ljava/lang/String;" .null := Da790 (Or.inr (w52 hw)) (ty := (.object "java/lang/String")) (by decide)
      refine Ww.dup (pc' := 205) C at_204 rfl rfl ?_
      refine Ww.aload (pc' := 207) C at_205 rfl rfl rfl ?_
      refine Ww.aload (pc' := 209) C at_207 rfl rfl rfl ?_
      refine Ww.callI (pc' := 212) C at_209 (a := a790) (fun vm0 C => (Wk.Con.pays C (Wn := 1) (own_mnInit l hw O791 a790 x765 x768 za790 Aa790 F792 F793) (w42 hw) (w39 hw) (by decide) (by decide))) Wk.cleanC (fun v h' q => Or.inr (Or.inr ⟨[a790], allS (List.mem_of_getElem? (i := 0) rfl) all0, q.2.1⟩)) rfl (w40 hw) (w41 hw) (w42 hw) (by decide) (argsL := [(.ref x765), (.ref x768)]) (st := [(.ref a790)]) rfl rfl (lenOf pd20 rfl) rfl (Nat.le_of_eq rfl) (k' := 16) rfl (n' := 48) rfl (by decide) (by decide) rfl ?_
      intro r794 h795 Q795 O795
      obtain ⟨rfl, K795, A795, P795, T795⟩ := Q795
      have X796 : Ext h764 h770 := Wk.Ext.trans E767 E770
      have X797 : Ext h764 h773 := Wk.Ext.wr (Z := Z) X796 W773 (Nat.le_trans E767.1 (Nat.le_of_eq ga769.symm))
      have X798 : Ext h764 h775 := Wk.Ext.wr (Z := Z) X797 W775 (Nat.le_trans E767.1 (Nat.le_of_eq ga769.symm))
      have X799 : Ext h764 h777 := Wk.Ext.wr (Z := Z) X798 W777 (Nat.le_trans E767.1 (Nat.le_of_eq ga769.symm))
      have X800 : Ext h764 h778 := Wk.Ext.wr (Z := Z) X799 W778 (Nat.le_trans E767.1 (Nat.le_of_eq ga769.symm))
      have X801 : Ext h764 h780 := Wk.Ext.wr (Z := Z) X800 W780 (Nat.le_trans E767.1 (Nat.le_of_eq ga769.symm))
      have X802 : Ext h764 h784 := Wk.Ext.trans X801 E784
      have X803 : Ext h764 h789 := Wk.Ext.keep1 (Z := Z) X802 Kh789 (Nat.le_trans X801.1 (Nat.le_of_eq ga783.symm))
      have X804 : Ext h764 h791 := Wk.Ext.trans X803 E791
      have X805 : Ext h764 h795 := Wk.Ext.keep1 (Z := Z) X804 K795 (Nat.le_trans X803.1 (Nat.le_of_eq ga790.symm))
      have X806 : Ext h767 h773 := Wk.Ext.wr (Z := Z) E770 W773 (Nat.le_of_eq ga769.symm)
      have X807 : Ext h767 h775 := Wk.Ext.wr (Z := Z) X806 W775 (Nat.le_of_eq ga769.symm)
      have X808 : Ext h767 h777 := Wk.Ext.wr (Z := Z) X807 W777 (Nat.le_of_eq ga769.symm)
      have X809 : Ext h767 h778 := Wk.Ext.wr (Z := Z) X808 W778 (Nat.le_of_eq ga769.symm)
      have X810 : Ext h767 h780 := Wk.Ext.wr (Z := Z) X809 W780 (Nat.le_of_eq ga769.symm)
      have X811 : Ext h767 h784 := Wk.Ext.trans X810 E784
      have X812 : Ext h767 h789 := Wk.Ext.keep1 (Z := Z) X811 Kh789 (Nat.le_trans X810.1 (Nat.le_of_eq ga783.symm))
      have X813 : Ext h767 h791 := Wk.Ext.trans X812 E791
      have X814 : Ext h767 h795 := Wk.Ext.keep1 (Z := Z) X813 K795 (Nat.le_trans X812.1 (Nat.le_of_eq ga790.symm))
      refine Ww.callVS (pc' := 215) C at_212 (a := a790) (Ww.Con.pays hE (Wn := 0) (own_mnTo l hw hE O795 hs a790 x765 x768 ([v15, v17, v19] : List Int32) ([v21] : List Int32) P795 T795 (S764.ext X805) (S767.ext X814) (show _ ≤ 3 from Nat.le_of_ble_eq_true rfl) (show _ ≤ 3 from Nat.le_of_ble_eq_true rfl)) (w57 hw) (w39 hw) (by decide) (by decide)) Wk.cleanC A795 (w53 hw) (w54 hw) (fun vm0 hZ0 => notFace_of_selects (args := #[]) (mvT (s := W.s.setVm vm0) hZ0 (w56 hw))) (w56 hw) (w55 hw) (by decide) (argsL := []) (st := []) rfl rfl (lenOf pd18 rfl) rfl (Nat.le_of_eq rfl) (k' := 22) rfl (n' := 112) rfl (by decide) (by decide) rfl ?_
      intro r815 h816 Q816 O816
      obtain ⟨x817, rfl, E816, S816⟩ := Q816
      refine Ww.astore (pc' := 217) C at_215 rfl (Ls' := #[.val (.int p0), .val (.int p1), .val (.int p2), .val (.int p3), .val (.int p4), .val (.int p5), .val (.int (3 : Int32)), .val (.int (1 : Int32)), .val (.int v15), .val (.int v17), .val (.int v19), .val (.int v21), .val (.int v23), .val (.int v26), .val (.ref x765), .val (.ref x768), .val (.ref a769), .val (.ref a783), .val (.ref x817)]) rfl rfl ?_
      refine Ww.aload (pc' := 219) C at_217 rfl rfl rfl ?_
      refine Ww.aload (pc' := 221) C at_219 rfl rfl rfl ?_
      have X818 : Ext h789 h795 := Wk.Ext.keep1 (Z := Z) E791 K795 (Nat.le_of_eq ga790.symm)
      have X819 : Ext h789 h816 := Wk.Ext.trans X818 E816
      refine Ww.callV (pc' := 224) C at_221 (a := x817) (fun vm0 C => (strEq C hw hs O816 (Wn := 0) S816 (Sh789.ext X819) (by decide) (by decide))) (pureC (P := fun v => (v = some (.int 1) ∧ ((([] ++ ([v15, v17, v19] : List Int32)) ++ [46]) ++ ([v21] : List Int32) : List Int32) = [v15, v17, v19, (46 : Int32), v21]) ∨ (v = some (.int 0) ∧ ¬ ((([] ++ ([v15, v17, v19] : List Int32)) ++ [46]) ++ ([v21] : List Int32) : List Int32) = [v15, v17, v19, (46 : Int32), v21])) O816) (fun v h' q => Or.inl q.2) S816.exa (w169 hw) (w170 hw) (fun vm0 hZ0 => notFace_of_selects (args := #[]) (mvT (s := W.s.setVm vm0) hZ0 (w172 hw))) (w172 hw) (w171 hw) (by decide) (argsL := [(.ref a783)]) (st := []) rfl rfl (lenOf pd21 rfl) rfl (Nat.le_of_eq rfl) (k' := 22) rfl (n' := 112) rfl (by decide) (by decide) rfl ?_
      intro r820 h821 Q821 O821
      obtain ⟨q823, e822⟩ := Q821
      obtain rfl := e822.symm
      rcases q823 with ⟨rfl, q823⟩ | ⟨rfl, q823⟩
      · -- equal: True
        exact Ww.retNar (ty := .boolean) C hE (by simp) at_224 rfl (by decide) (by decide) rfl
      · -- equal: False
        exact absurd rfl q823
    · -- 2
      refine Ww.iload (pc' := 69) C at_67 rfl rfl ?_
      refine Ww.iload (pc' := 71) C at_69 rfl rfl ?_
      refine Ww.iload (pc' := 73) C at_71 rfl rfl ?_
      refine Ww.iload (pc' := 75) C at_73 rfl rfl ?_
      refine Ww.callSS (pc' := 78) C at_75 (Ww.Con.pays hE (Wn := 0) (own_str3 l hw hE O0 hs v15 v17 v19 (Wk.rng255 hv14 hv15) (Wk.rng255 hv16 hv17) (Wk.rng255 hv18 hv19)) (w3 hw) (w2 hw) (by decide) (by decide)) Wk.cleanC (w0 hw) (w1 hw) (w2 hw) (w3 hw) (by decide) (argsL := [(.int (3 : Int32)), (.int v15), (.int v17), (.int v19)]) (st := []) rfl rfl (lenOf pd19 rfl) rfl (Nat.le_of_eq rfl) (k' := 6) rfl (n' := 16) rfl (by decide) (by decide) rfl ?_
      intro r824 h825 Q825 O825
      obtain ⟨x826, rfl, E825, S825⟩ := Q825
      refine Ww.astore (pc' := 80) C at_78 rfl (Ls' := #[.val (.int p0), .val (.int p1), .val (.int p2), .val (.int p3), .val (.int p4), .val (.int p5), .val (.int (3 : Int32)), .val (.int (2 : Int32)), .val (.int v15), .val (.int v17), .val (.int v19), .val (.int v21), .val (.int v23), .val (.int v26), .val (.ref x826), .unset, .unset, .unset, .unset]) rfl rfl ?_
      refine Ww.iload (pc' := 82) C at_80 rfl rfl ?_
      refine Ww.iload (pc' := 84) C at_82 rfl rfl ?_
      refine Ww.iload (pc' := 86) C at_84 rfl rfl ?_
      refine Ww.iload (pc' := 88) C at_86 rfl rfl ?_
      refine Ww.callSS (pc' := 91) C at_88 (Ww.Con.pays hE (Wn := 0) (own_str2 l hw hE O825 hs v21 v23 v26 (Wk.rng255 hv20 hv21) (Wk.rng255 hv22 hv23) (Wk.rng255 hv25 hv26)) (w3 hw) (w2 hw) (by decide) (by decide)) Wk.cleanC (w0 hw) (w1 hw) (w2 hw) (w3 hw) (by decide) (argsL := [(.int (2 : Int32)), (.int v21), (.int v23), (.int v26)]) (st := []) rfl rfl (lenOf pd19 rfl) rfl (Nat.le_of_eq rfl) (k' := 12) rfl (n' := 32) rfl (by decide) (by decide) rfl ?_
      intro r827 h828 Q828 O828
      obtain ⟨x829, rfl, E828, S828⟩ := Q828
      refine Ww.astore (pc' := 93) C at_91 rfl (Ls' := #[.val (.int p0), .val (.int p1), .val (.int p2), .val (.int p3), .val (.int p4), .val (.int p5), .val (.int (3 : Int32)), .val (.int (2 : Int32)), .val (.int v15), .val (.int v17), .val (.int v19), .val (.int v21), .val (.int v23), .val (.int v26), .val (.ref x826), .val (.ref x829), .unset, .unset, .unset]) rfl rfl ?_
      refine Ww.iload (pc' := 95) C at_93 rfl rfl ?_
      refine Ww.iconst (pc' := 96) C at_95 (v := (1 : Int32)) rfl rfl ?_
      refine Ww.iadd (pc' := 97) C at_96 (v := (4 : Int32)) (by decide) rfl ?_
      refine Ww.iload (pc' := 99) C at_97 rfl rfl ?_
      refine Ww.iadd (pc' := 100) C at_99 (v := (6 : Int32)) (by decide) rfl ?_
      refine Ww.newA (pc' := 102) C at_100 (ty := .char) rfl (w7 hw) (by decide) (cap := 6) (by decide) (by decide) (k' := 13) rfl (n' := 38) rfl (by decide) (by decide) rfl rfl ?_
      intro a830 h831 ga830 za830 E831 Va830 O831
      have V832 : Wk.Ary Z h831 a830 .char [(.int (0 : Int32)), (.int (0 : Int32)), (.int (0 : Int32)), (.int (0 : Int32)), (.int (0 : Int32)), (.int (0 : Int32))] := Va830
      refine Ww.astore (pc' := 104) C at_102 rfl (Ls' := #[.val (.int p0), .val (.int p1), .val (.int p2), .val (.int p3), .val (.int p4), .val (.int p5), .val (.int (3 : Int32)), .val (.int (2 : Int32)), .val (.int v15), .val (.int v17), .val (.int v19), .val (.int v21), .val (.int v23), .val (.int v26), .val (.ref x826), .val (.ref x829), .val (.ref a830), .unset, .unset]) rfl rfl ?_
      refine Ww.iload (pc' := 106) C at_104 rfl rfl ?_
      refine Ww.if_le C at_106 (by decide) (pcT := 115) (by decide) (pc' := 109) rfl (fun q => absurd q (by decide)) (fun q833 => ?_)
      refine Ww.aload (pc' := 111) C at_109 rfl rfl rfl ?_
      refine Ww.iconst (pc' := 112) C at_111 (v := (0 : Int32)) rfl rfl ?_
      refine Ww.iload (pc' := 114) C at_112 rfl rfl ?_
      refine Ww.castore (pc' := 115) C at_114 V832 (by decide) (show _ < _ from Nat.le_of_ble_eq_true rfl) (Wk.nar_i2c hv15) (vs' := [(.int v15), (.int (0 : Int32)), (.int (0 : Int32)), (.int (0 : Int32)), (.int (0 : Int32)), (.int (0 : Int32))]) rfl za830 (List.mem_of_getElem? (i := 0) rfl) rfl ?_
      intro h834 W834 V834 O834
      refine Ww.iload (pc' := 117) C at_115 rfl rfl ?_
      refine Ww.iconst (pc' := 118) C at_117 (v := (1 : Int32)) rfl rfl ?_
      refine Ww.icmp_le C at_118 (by decide) (pcT := 127) (by decide) (pc' := 121) rfl (fun q => absurd q (by decide)) (fun q835 => ?_)
      refine Ww.aload (pc' := 123) C at_121 rfl rfl rfl ?_
      refine Ww.iconst (pc' := 124) C at_123 (v := (1 : Int32)) rfl rfl ?_
      refine Ww.iload (pc' := 126) C at_124 rfl rfl ?_
      refine Ww.castore (pc' := 127) C at_126 V834 (by decide) (show _ < _ from Nat.le_of_ble_eq_true rfl) (Wk.nar_i2c hv17) (vs' := [(.int v15), (.int v17), (.int (0 : Int32)), (.int (0 : Int32)), (.int (0 : Int32)), (.int (0 : Int32))]) rfl za830 (List.mem_of_getElem? (i := 0) rfl) rfl ?_
      intro h836 W836 V836 O836
      refine Ww.iload (pc' := 129) C at_127 rfl rfl ?_
      refine Ww.iconst (pc' := 130) C at_129 (v := (2 : Int32)) rfl rfl ?_
      refine Ww.icmp_le C at_130 (by decide) (pcT := 139) (by decide) (pc' := 133) rfl (fun q => absurd q (by decide)) (fun q837 => ?_)
      refine Ww.aload (pc' := 135) C at_133 rfl rfl rfl ?_
      refine Ww.iconst (pc' := 136) C at_135 (v := (2 : Int32)) rfl rfl ?_
      refine Ww.iload (pc' := 138) C at_136 rfl rfl ?_
      refine Ww.castore (pc' := 139) C at_138 V836 (by decide) (show _ < _ from Nat.le_of_ble_eq_true rfl) (Wk.nar_i2c hv19) (vs' := [(.int v15), (.int v17), (.int v19), (.int (0 : Int32)), (.int (0 : Int32)), (.int (0 : Int32))]) rfl za830 (List.mem_of_getElem? (i := 0) rfl) rfl ?_
      intro h838 W838 V838 O838
      refine Ww.aload (pc' := 141) C at_139 rfl rfl rfl ?_
      refine Ww.iload (pc' := 143) C at_141 rfl rfl ?_
      refine Ww.bipush (pc' := 145) C at_143 (v := (46 : Int32)) rfl rfl ?_
      refine Ww.castore (pc' := 146) C at_145 V838 (by decide) (show _ < _ from Nat.le_of_ble_eq_true rfl) (by decide) (vs' := [(.int v15), (.int v17), (.int v19), (.int (46 : Int32)), (.int (0 : Int32)), (.int (0 : Int32))]) rfl za830 (List.mem_of_getElem? (i := 0) rfl) rfl ?_
      intro h839 W839 V839 O839
      refine Ww.iload (pc' := 148) C at_146 rfl rfl ?_
      refine Ww.if_le C at_148 (by decide) (pcT := 160) (by decide) (pc' := 151) rfl (fun q => absurd q (by decide)) (fun q840 => ?_)
      refine Ww.aload (pc' := 153) C at_151 rfl rfl rfl ?_
      refine Ww.iload (pc' := 155) C at_153 rfl rfl ?_
      refine Ww.iconst (pc' := 156) C at_155 (v := (1 : Int32)) rfl rfl ?_
      refine Ww.iadd (pc' := 157) C at_156 (v := (4 : Int32)) (by decide) rfl ?_
      refine Ww.iload (pc' := 159) C at_157 rfl rfl ?_
      refine Ww.castore (pc' := 160) C at_159 V839 (by decide) (show _ < _ from Nat.le_of_ble_eq_true rfl) (Wk.nar_i2c hv21) (vs' := [(.int v15), (.int v17), (.int v19), (.int (46 : Int32)), (.int v21), (.int (0 : Int32))]) rfl za830 (List.mem_of_getElem? (i := 0) rfl) rfl ?_
      intro h841 W841 V841 O841
      refine Ww.iload (pc' := 162) C at_160 rfl rfl ?_
      refine Ww.iconst (pc' := 163) C at_162 (v := (1 : Int32)) rfl rfl ?_
      refine Ww.icmp_le C at_163 (by decide) (pcT := 175) (by decide) (pc' := 166) rfl (fun q => absurd q (by decide)) (fun q842 => ?_)
      refine Ww.aload (pc' := 168) C at_166 rfl rfl rfl ?_
      refine Ww.iload (pc' := 170) C at_168 rfl rfl ?_
      refine Ww.iconst (pc' := 171) C at_170 (v := (2 : Int32)) rfl rfl ?_
      refine Ww.iadd (pc' := 172) C at_171 (v := (5 : Int32)) (by decide) rfl ?_
      refine Ww.iload (pc' := 174) C at_172 rfl rfl ?_
      refine Ww.castore (pc' := 175) C at_174 V841 (by decide) (show _ < _ from Nat.le_of_ble_eq_true rfl) (Wk.nar_i2c hv23) (vs' := [(.int v15), (.int v17), (.int v19), (.int (46 : Int32)), (.int v21), (.int v23)]) rfl za830 (List.mem_of_getElem? (i := 0) rfl) rfl ?_
      intro h843 W843 V843 O843
      refine Ww.iload (pc' := 177) C at_175 rfl rfl ?_
      refine Ww.iconst (pc' := 178) C at_177 (v := (2 : Int32)) rfl rfl ?_
      refine Ww.icmp_le C at_178 (by decide) (pcT := 190) (by decide) (pc' := 181) rfl (fun q844 => ?_) (fun q => absurd q (by decide))
      refine Ww.newO (pc' := 193) C at_190 (w4 hw) (w5 hw) (w6 hw) (k' := 14) rfl (n' := 42) rfl (by decide) (by decide) rfl ?_
      intro a845 h846 ga845 za845 E846 Aa845 Da845 Ua845 O846
      have F847 : Fld Z h846 a845 "java/lang/String" "coder" "B" (.int (0 : Int32)) := Da845 (Or.inr (w31 hw)) (ty := .byte) (by decide)
      have F848 : Fld Z h846 a845 "java/lang/String" "value" "[B" .null := Da845 (Or.inr (w33 hw)) (ty := (.array .byte)) (by decide)
      refine Ww.dup (pc' := 194) C at_193 rfl rfl ?_
      refine Ww.aload (pc' := 196) C at_194 rfl rfl rfl ?_
      have hp849 : ∀ c ∈ ([v15, v17, v19, (46 : Int32), v21, v23] : List Int32), ¬ c < 0 ∧ ¬ (255 : Int32) < c := (List.forall_mem_cons.mpr ⟨(Wk.rng255 hv14 hv15), (List.forall_mem_cons.mpr ⟨(Wk.rng255 hv16 hv17), (List.forall_mem_cons.mpr ⟨(Wk.rng255 hv18 hv19), (List.forall_mem_cons.mpr ⟨⟨by decide, by decide⟩, (List.forall_mem_cons.mpr ⟨(Wk.rng255 hv20 hv21), (List.forall_mem_cons.mpr ⟨(Wk.rng255 hv22 hv23), (fun _ h => nomatch h)⟩)⟩)⟩)⟩)⟩)⟩)
      refine Ww.callI (pc' := 199) C at_196 (a := a845) (fun vm0 C => (strNew C hw hs O846 (cs := [v15, v17, v19, (46 : Int32), v21, v23]) (n := 6) (Wn := 1) za845 Aa845 F848 F847 (V843.ext E846) rfl (by decide) (by decide) hp849 (by decide) (by decide))) (strNewC (n := 6) O846 za845 rfl (by decide) hp849) (fun v h' q => Or.inr (Or.inr ⟨[a845], allS (List.mem_of_getElem? (i := 0) rfl) all0, q.2.1⟩)) rfl (w8 hw) (w9 hw) (w10 hw) (by decide) (argsL := [(.ref a830)]) (st := [(.ref a845)]) rfl rfl (lenOf pd15 rfl) rfl (Nat.le_of_eq rfl) (k' := 15) rfl (n' := 48) rfl (by decide) (by decide) rfl ?_
      intro r850 h851 Q851 O851
      obtain ⟨rfl, Kh851, Sh851⟩ := Q851
      refine Ww.astore (pc' := 201) C at_199 rfl (Ls' := #[.val (.int p0), .val (.int p1), .val (.int p2), .val (.int p3), .val (.int p4), .val (.int p5), .val (.int (3 : Int32)), .val (.int (2 : Int32)), .val (.int v15), .val (.int v17), .val (.int v19), .val (.int v21), .val (.int v23), .val (.int v26), .val (.ref x826), .val (.ref x829), .val (.ref a830), .val (.ref a845), .unset]) rfl rfl ?_
      refine Ww.newO (pc' := 204) C at_201 (w37 hw) (w38 hw) (w39 hw) (k' := 16) rfl (n' := 50) rfl (by decide) (by decide) rfl ?_
      intro a852 h853 ga852 za852 E853 Aa852 Da852 Ua852 O853
      have F854 : Fld Z h853 a852 "com/example/isomorph/isomorph/MethodName" "className" "Ljava/lang/String;" .null := Da852 (Or.inr (w50 hw)) (ty := (.object "java/lang/String")) (by decide)
      have F855 : Fld Z h853 a852 "com/example/isomorph/isomorph/MethodName" "methodName" "Ljava/lang/String;" .null := Da852 (Or.inr (w52 hw)) (ty := (.object "java/lang/String")) (by decide)
      refine Ww.dup (pc' := 205) C at_204 rfl rfl ?_
      refine Ww.aload (pc' := 207) C at_205 rfl rfl rfl ?_
      refine Ww.aload (pc' := 209) C at_207 rfl rfl rfl ?_
      refine Ww.callI (pc' := 212) C at_209 (a := a852) (fun vm0 C => (Wk.Con.pays C (Wn := 1) (own_mnInit l hw O853 a852 x826 x829 za852 Aa852 F854 F855) (w42 hw) (w39 hw) (by decide) (by decide))) Wk.cleanC (fun v h' q => Or.inr (Or.inr ⟨[a852], allS (List.mem_of_getElem? (i := 0) rfl) all0, q.2.1⟩)) rfl (w40 hw) (w41 hw) (w42 hw) (by decide) (argsL := [(.ref x826), (.ref x829)]) (st := [(.ref a852)]) rfl rfl (lenOf pd20 rfl) rfl (Nat.le_of_eq rfl) (k' := 16) rfl (n' := 50) rfl (by decide) (by decide) rfl ?_
      intro r856 h857 Q857 O857
      obtain ⟨rfl, K857, A857, P857, T857⟩ := Q857
      have X858 : Ext h825 h831 := Wk.Ext.trans E828 E831
      have X859 : Ext h825 h834 := Wk.Ext.wr (Z := Z) X858 W834 (Nat.le_trans E828.1 (Nat.le_of_eq ga830.symm))
      have X860 : Ext h825 h836 := Wk.Ext.wr (Z := Z) X859 W836 (Nat.le_trans E828.1 (Nat.le_of_eq ga830.symm))
      have X861 : Ext h825 h838 := Wk.Ext.wr (Z := Z) X860 W838 (Nat.le_trans E828.1 (Nat.le_of_eq ga830.symm))
      have X862 : Ext h825 h839 := Wk.Ext.wr (Z := Z) X861 W839 (Nat.le_trans E828.1 (Nat.le_of_eq ga830.symm))
      have X863 : Ext h825 h841 := Wk.Ext.wr (Z := Z) X862 W841 (Nat.le_trans E828.1 (Nat.le_of_eq ga830.symm))
      have X864 : Ext h825 h843 := Wk.Ext.wr (Z := Z) X863 W843 (Nat.le_trans E828.1 (Nat.le_of_eq ga830.symm))
      have X865 : Ext h825 h846 := Wk.Ext.trans X864 E846
      have X866 : Ext h825 h851 := Wk.Ext.keep1 (Z := Z) X865 Kh851 (Nat.le_trans X864.1 (Nat.le_of_eq ga845.symm))
      have X867 : Ext h825 h853 := Wk.Ext.trans X866 E853
      have X868 : Ext h825 h857 := Wk.Ext.keep1 (Z := Z) X867 K857 (Nat.le_trans X866.1 (Nat.le_of_eq ga852.symm))
      have X869 : Ext h828 h834 := Wk.Ext.wr (Z := Z) E831 W834 (Nat.le_of_eq ga830.symm)
      have X870 : Ext h828 h836 := Wk.Ext.wr (Z := Z) X869 W836 (Nat.le_of_eq ga830.symm)
      have X871 : Ext h828 h838 := Wk.Ext.wr (Z := Z) X870 W838 (Nat.le_of_eq ga830.symm)
      have X872 : Ext h828 h839 := Wk.Ext.wr (Z := Z) X871 W839 (Nat.le_of_eq ga830.symm)
      have X873 : Ext h828 h841 := Wk.Ext.wr (Z := Z) X872 W841 (Nat.le_of_eq ga830.symm)
      have X874 : Ext h828 h843 := Wk.Ext.wr (Z := Z) X873 W843 (Nat.le_of_eq ga830.symm)
      have X875 : Ext h828 h846 := Wk.Ext.trans X874 E846
      have X876 : Ext h828 h851 := Wk.Ext.keep1 (Z := Z) X875 Kh851 (Nat.le_trans X874.1 (Nat.le_of_eq ga845.symm))
      have X877 : Ext h828 h853 := Wk.Ext.trans X876 E853
      have X878 : Ext h828 h857 := Wk.Ext.keep1 (Z := Z) X877 K857 (Nat.le_trans X876.1 (Nat.le_of_eq ga852.symm))
      refine Ww.callVS (pc' := 215) C at_212 (a := a852) (Ww.Con.pays hE (Wn := 0) (own_mnTo l hw hE O857 hs a852 x826 x829 ([v15, v17, v19] : List Int32) ([v21, v23] : List Int32) P857 T857 (S825.ext X868) (S828.ext X878) (show _ ≤ 3 from Nat.le_of_ble_eq_true rfl) (show _ ≤ 3 from Nat.le_of_ble_eq_true rfl)) (w57 hw) (w39 hw) (by decide) (by decide)) Wk.cleanC A857 (w53 hw) (w54 hw) (fun vm0 hZ0 => notFace_of_selects (args := #[]) (mvT (s := W.s.setVm vm0) hZ0 (w56 hw))) (w56 hw) (w55 hw) (by decide) (argsL := []) (st := []) rfl rfl (lenOf pd18 rfl) rfl (Nat.le_of_eq rfl) (k' := 22) rfl (n' := 114) rfl (by decide) (by decide) rfl ?_
      intro r879 h880 Q880 O880
      obtain ⟨x881, rfl, E880, S880⟩ := Q880
      refine Ww.astore (pc' := 217) C at_215 rfl (Ls' := #[.val (.int p0), .val (.int p1), .val (.int p2), .val (.int p3), .val (.int p4), .val (.int p5), .val (.int (3 : Int32)), .val (.int (2 : Int32)), .val (.int v15), .val (.int v17), .val (.int v19), .val (.int v21), .val (.int v23), .val (.int v26), .val (.ref x826), .val (.ref x829), .val (.ref a830), .val (.ref a845), .val (.ref x881)]) rfl rfl ?_
      refine Ww.aload (pc' := 219) C at_217 rfl rfl rfl ?_
      refine Ww.aload (pc' := 221) C at_219 rfl rfl rfl ?_
      have X882 : Ext h851 h857 := Wk.Ext.keep1 (Z := Z) E853 K857 (Nat.le_of_eq ga852.symm)
      have X883 : Ext h851 h880 := Wk.Ext.trans X882 E880
      refine Ww.callV (pc' := 224) C at_221 (a := x881) (fun vm0 C => (strEq C hw hs O880 (Wn := 0) S880 (Sh851.ext X883) (by decide) (by decide))) (pureC (P := fun v => (v = some (.int 1) ∧ ((([] ++ ([v15, v17, v19] : List Int32)) ++ [46]) ++ ([v21, v23] : List Int32) : List Int32) = [v15, v17, v19, (46 : Int32), v21, v23]) ∨ (v = some (.int 0) ∧ ¬ ((([] ++ ([v15, v17, v19] : List Int32)) ++ [46]) ++ ([v21, v23] : List Int32) : List Int32) = [v15, v17, v19, (46 : Int32), v21, v23])) O880) (fun v h' q => Or.inl q.2) S880.exa (w169 hw) (w170 hw) (fun vm0 hZ0 => notFace_of_selects (args := #[]) (mvT (s := W.s.setVm vm0) hZ0 (w172 hw))) (w172 hw) (w171 hw) (by decide) (argsL := [(.ref a845)]) (st := []) rfl rfl (lenOf pd21 rfl) rfl (Nat.le_of_eq rfl) (k' := 22) rfl (n' := 114) rfl (by decide) (by decide) rfl ?_
      intro r884 h885 Q885 O885
      obtain ⟨q887, e886⟩ := Q885
      obtain rfl := e886.symm
      rcases q887 with ⟨rfl, q887⟩ | ⟨rfl, q887⟩
      · -- equal: True
        exact Ww.retNar (ty := .boolean) C hE (by simp) at_224 rfl (by decide) (by decide) rfl
      · -- equal: False
        exact absurd rfl q887
    · -- 3
      refine Ww.iload (pc' := 69) C at_67 rfl rfl ?_
      refine Ww.iload (pc' := 71) C at_69 rfl rfl ?_
      refine Ww.iload (pc' := 73) C at_71 rfl rfl ?_
      refine Ww.iload (pc' := 75) C at_73 rfl rfl ?_
      refine Ww.callSS (pc' := 78) C at_75 (Ww.Con.pays hE (Wn := 0) (own_str3 l hw hE O0 hs v15 v17 v19 (Wk.rng255 hv14 hv15) (Wk.rng255 hv16 hv17) (Wk.rng255 hv18 hv19)) (w3 hw) (w2 hw) (by decide) (by decide)) Wk.cleanC (w0 hw) (w1 hw) (w2 hw) (w3 hw) (by decide) (argsL := [(.int (3 : Int32)), (.int v15), (.int v17), (.int v19)]) (st := []) rfl rfl (lenOf pd19 rfl) rfl (Nat.le_of_eq rfl) (k' := 6) rfl (n' := 16) rfl (by decide) (by decide) rfl ?_
      intro r888 h889 Q889 O889
      obtain ⟨x890, rfl, E889, S889⟩ := Q889
      refine Ww.astore (pc' := 80) C at_78 rfl (Ls' := #[.val (.int p0), .val (.int p1), .val (.int p2), .val (.int p3), .val (.int p4), .val (.int p5), .val (.int (3 : Int32)), .val (.int (3 : Int32)), .val (.int v15), .val (.int v17), .val (.int v19), .val (.int v21), .val (.int v23), .val (.int v26), .val (.ref x890), .unset, .unset, .unset, .unset]) rfl rfl ?_
      refine Ww.iload (pc' := 82) C at_80 rfl rfl ?_
      refine Ww.iload (pc' := 84) C at_82 rfl rfl ?_
      refine Ww.iload (pc' := 86) C at_84 rfl rfl ?_
      refine Ww.iload (pc' := 88) C at_86 rfl rfl ?_
      refine Ww.callSS (pc' := 91) C at_88 (Ww.Con.pays hE (Wn := 0) (own_str3 l hw hE O889 hs v21 v23 v26 (Wk.rng255 hv20 hv21) (Wk.rng255 hv22 hv23) (Wk.rng255 hv25 hv26)) (w3 hw) (w2 hw) (by decide) (by decide)) Wk.cleanC (w0 hw) (w1 hw) (w2 hw) (w3 hw) (by decide) (argsL := [(.int (3 : Int32)), (.int v21), (.int v23), (.int v26)]) (st := []) rfl rfl (lenOf pd19 rfl) rfl (Nat.le_of_eq rfl) (k' := 12) rfl (n' := 32) rfl (by decide) (by decide) rfl ?_
      intro r891 h892 Q892 O892
      obtain ⟨x893, rfl, E892, S892⟩ := Q892
      refine Ww.astore (pc' := 93) C at_91 rfl (Ls' := #[.val (.int p0), .val (.int p1), .val (.int p2), .val (.int p3), .val (.int p4), .val (.int p5), .val (.int (3 : Int32)), .val (.int (3 : Int32)), .val (.int v15), .val (.int v17), .val (.int v19), .val (.int v21), .val (.int v23), .val (.int v26), .val (.ref x890), .val (.ref x893), .unset, .unset, .unset]) rfl rfl ?_
      refine Ww.iload (pc' := 95) C at_93 rfl rfl ?_
      refine Ww.iconst (pc' := 96) C at_95 (v := (1 : Int32)) rfl rfl ?_
      refine Ww.iadd (pc' := 97) C at_96 (v := (4 : Int32)) (by decide) rfl ?_
      refine Ww.iload (pc' := 99) C at_97 rfl rfl ?_
      refine Ww.iadd (pc' := 100) C at_99 (v := (7 : Int32)) (by decide) rfl ?_
      refine Ww.newA (pc' := 102) C at_100 (ty := .char) rfl (w7 hw) (by decide) (cap := 7) (by decide) (by decide) (k' := 13) rfl (n' := 39) rfl (by decide) (by decide) rfl rfl ?_
      intro a894 h895 ga894 za894 E895 Va894 O895
      have V896 : Wk.Ary Z h895 a894 .char [(.int (0 : Int32)), (.int (0 : Int32)), (.int (0 : Int32)), (.int (0 : Int32)), (.int (0 : Int32)), (.int (0 : Int32)), (.int (0 : Int32))] := Va894
      refine Ww.astore (pc' := 104) C at_102 rfl (Ls' := #[.val (.int p0), .val (.int p1), .val (.int p2), .val (.int p3), .val (.int p4), .val (.int p5), .val (.int (3 : Int32)), .val (.int (3 : Int32)), .val (.int v15), .val (.int v17), .val (.int v19), .val (.int v21), .val (.int v23), .val (.int v26), .val (.ref x890), .val (.ref x893), .val (.ref a894), .unset, .unset]) rfl rfl ?_
      refine Ww.iload (pc' := 106) C at_104 rfl rfl ?_
      refine Ww.if_le C at_106 (by decide) (pcT := 115) (by decide) (pc' := 109) rfl (fun q => absurd q (by decide)) (fun q897 => ?_)
      refine Ww.aload (pc' := 111) C at_109 rfl rfl rfl ?_
      refine Ww.iconst (pc' := 112) C at_111 (v := (0 : Int32)) rfl rfl ?_
      refine Ww.iload (pc' := 114) C at_112 rfl rfl ?_
      refine Ww.castore (pc' := 115) C at_114 V896 (by decide) (show _ < _ from Nat.le_of_ble_eq_true rfl) (Wk.nar_i2c hv15) (vs' := [(.int v15), (.int (0 : Int32)), (.int (0 : Int32)), (.int (0 : Int32)), (.int (0 : Int32)), (.int (0 : Int32)), (.int (0 : Int32))]) rfl za894 (List.mem_of_getElem? (i := 0) rfl) rfl ?_
      intro h898 W898 V898 O898
      refine Ww.iload (pc' := 117) C at_115 rfl rfl ?_
      refine Ww.iconst (pc' := 118) C at_117 (v := (1 : Int32)) rfl rfl ?_
      refine Ww.icmp_le C at_118 (by decide) (pcT := 127) (by decide) (pc' := 121) rfl (fun q => absurd q (by decide)) (fun q899 => ?_)
      refine Ww.aload (pc' := 123) C at_121 rfl rfl rfl ?_
      refine Ww.iconst (pc' := 124) C at_123 (v := (1 : Int32)) rfl rfl ?_
      refine Ww.iload (pc' := 126) C at_124 rfl rfl ?_
      refine Ww.castore (pc' := 127) C at_126 V898 (by decide) (show _ < _ from Nat.le_of_ble_eq_true rfl) (Wk.nar_i2c hv17) (vs' := [(.int v15), (.int v17), (.int (0 : Int32)), (.int (0 : Int32)), (.int (0 : Int32)), (.int (0 : Int32)), (.int (0 : Int32))]) rfl za894 (List.mem_of_getElem? (i := 0) rfl) rfl ?_
      intro h900 W900 V900 O900
      refine Ww.iload (pc' := 129) C at_127 rfl rfl ?_
      refine Ww.iconst (pc' := 130) C at_129 (v := (2 : Int32)) rfl rfl ?_
      refine Ww.icmp_le C at_130 (by decide) (pcT := 139) (by decide) (pc' := 133) rfl (fun q => absurd q (by decide)) (fun q901 => ?_)
      refine Ww.aload (pc' := 135) C at_133 rfl rfl rfl ?_
      refine Ww.iconst (pc' := 136) C at_135 (v := (2 : Int32)) rfl rfl ?_
      refine Ww.iload (pc' := 138) C at_136 rfl rfl ?_
      refine Ww.castore (pc' := 139) C at_138 V900 (by decide) (show _ < _ from Nat.le_of_ble_eq_true rfl) (Wk.nar_i2c hv19) (vs' := [(.int v15), (.int v17), (.int v19), (.int (0 : Int32)), (.int (0 : Int32)), (.int (0 : Int32)), (.int (0 : Int32))]) rfl za894 (List.mem_of_getElem? (i := 0) rfl) rfl ?_
      intro h902 W902 V902 O902
      refine Ww.aload (pc' := 141) C at_139 rfl rfl rfl ?_
      refine Ww.iload (pc' := 143) C at_141 rfl rfl ?_
      refine Ww.bipush (pc' := 145) C at_143 (v := (46 : Int32)) rfl rfl ?_
      refine Ww.castore (pc' := 146) C at_145 V902 (by decide) (show _ < _ from Nat.le_of_ble_eq_true rfl) (by decide) (vs' := [(.int v15), (.int v17), (.int v19), (.int (46 : Int32)), (.int (0 : Int32)), (.int (0 : Int32)), (.int (0 : Int32))]) rfl za894 (List.mem_of_getElem? (i := 0) rfl) rfl ?_
      intro h903 W903 V903 O903
      refine Ww.iload (pc' := 148) C at_146 rfl rfl ?_
      refine Ww.if_le C at_148 (by decide) (pcT := 160) (by decide) (pc' := 151) rfl (fun q => absurd q (by decide)) (fun q904 => ?_)
      refine Ww.aload (pc' := 153) C at_151 rfl rfl rfl ?_
      refine Ww.iload (pc' := 155) C at_153 rfl rfl ?_
      refine Ww.iconst (pc' := 156) C at_155 (v := (1 : Int32)) rfl rfl ?_
      refine Ww.iadd (pc' := 157) C at_156 (v := (4 : Int32)) (by decide) rfl ?_
      refine Ww.iload (pc' := 159) C at_157 rfl rfl ?_
      refine Ww.castore (pc' := 160) C at_159 V903 (by decide) (show _ < _ from Nat.le_of_ble_eq_true rfl) (Wk.nar_i2c hv21) (vs' := [(.int v15), (.int v17), (.int v19), (.int (46 : Int32)), (.int v21), (.int (0 : Int32)), (.int (0 : Int32))]) rfl za894 (List.mem_of_getElem? (i := 0) rfl) rfl ?_
      intro h905 W905 V905 O905
      refine Ww.iload (pc' := 162) C at_160 rfl rfl ?_
      refine Ww.iconst (pc' := 163) C at_162 (v := (1 : Int32)) rfl rfl ?_
      refine Ww.icmp_le C at_163 (by decide) (pcT := 175) (by decide) (pc' := 166) rfl (fun q => absurd q (by decide)) (fun q906 => ?_)
      refine Ww.aload (pc' := 168) C at_166 rfl rfl rfl ?_
      refine Ww.iload (pc' := 170) C at_168 rfl rfl ?_
      refine Ww.iconst (pc' := 171) C at_170 (v := (2 : Int32)) rfl rfl ?_
      refine Ww.iadd (pc' := 172) C at_171 (v := (5 : Int32)) (by decide) rfl ?_
      refine Ww.iload (pc' := 174) C at_172 rfl rfl ?_
      refine Ww.castore (pc' := 175) C at_174 V905 (by decide) (show _ < _ from Nat.le_of_ble_eq_true rfl) (Wk.nar_i2c hv23) (vs' := [(.int v15), (.int v17), (.int v19), (.int (46 : Int32)), (.int v21), (.int v23), (.int (0 : Int32))]) rfl za894 (List.mem_of_getElem? (i := 0) rfl) rfl ?_
      intro h907 W907 V907 O907
      refine Ww.iload (pc' := 177) C at_175 rfl rfl ?_
      refine Ww.iconst (pc' := 178) C at_177 (v := (2 : Int32)) rfl rfl ?_
      refine Ww.icmp_le C at_178 (by decide) (pcT := 190) (by decide) (pc' := 181) rfl (fun q => absurd q (by decide)) (fun q908 => ?_)
      refine Ww.aload (pc' := 183) C at_181 rfl rfl rfl ?_
      refine Ww.iload (pc' := 185) C at_183 rfl rfl ?_
      refine Ww.iconst (pc' := 186) C at_185 (v := (3 : Int32)) rfl rfl ?_
      refine Ww.iadd (pc' := 187) C at_186 (v := (6 : Int32)) (by decide) rfl ?_
      refine Ww.iload (pc' := 189) C at_187 rfl rfl ?_
      refine Ww.castore (pc' := 190) C at_189 V907 (by decide) (show _ < _ from Nat.le_of_ble_eq_true rfl) (Wk.nar_i2c hv26) (vs' := [(.int v15), (.int v17), (.int v19), (.int (46 : Int32)), (.int v21), (.int v23), (.int v26)]) rfl za894 (List.mem_of_getElem? (i := 0) rfl) rfl ?_
      intro h909 W909 V909 O909
      refine Ww.newO (pc' := 193) C at_190 (w4 hw) (w5 hw) (w6 hw) (k' := 14) rfl (n' := 43) rfl (by decide) (by decide) rfl ?_
      intro a910 h911 ga910 za910 E911 Aa910 Da910 Ua910 O911
      have F912 : Fld Z h911 a910 "java/lang/String" "coder" "B" (.int (0 : Int32)) := Da910 (Or.inr (w31 hw)) (ty := .byte) (by decide)
      have F913 : Fld Z h911 a910 "java/lang/String" "value" "[B" .null := Da910 (Or.inr (w33 hw)) (ty := (.array .byte)) (by decide)
      refine Ww.dup (pc' := 194) C at_193 rfl rfl ?_
      refine Ww.aload (pc' := 196) C at_194 rfl rfl rfl ?_
      have hp914 : ∀ c ∈ ([v15, v17, v19, (46 : Int32), v21, v23, v26] : List Int32), ¬ c < 0 ∧ ¬ (255 : Int32) < c := (List.forall_mem_cons.mpr ⟨(Wk.rng255 hv14 hv15), (List.forall_mem_cons.mpr ⟨(Wk.rng255 hv16 hv17), (List.forall_mem_cons.mpr ⟨(Wk.rng255 hv18 hv19), (List.forall_mem_cons.mpr ⟨⟨by decide, by decide⟩, (List.forall_mem_cons.mpr ⟨(Wk.rng255 hv20 hv21), (List.forall_mem_cons.mpr ⟨(Wk.rng255 hv22 hv23), (List.forall_mem_cons.mpr ⟨(Wk.rng255 hv25 hv26), (fun _ h => nomatch h)⟩)⟩)⟩)⟩)⟩)⟩)⟩)
      refine Ww.callI (pc' := 199) C at_196 (a := a910) (fun vm0 C => (strNew C hw hs O911 (cs := [v15, v17, v19, (46 : Int32), v21, v23, v26]) (n := 7) (Wn := 1) za910 Aa910 F913 F912 (V909.ext E911) rfl (by decide) (by decide) hp914 (by decide) (by decide))) (strNewC (n := 7) O911 za910 rfl (by decide) hp914) (fun v h' q => Or.inr (Or.inr ⟨[a910], allS (List.mem_of_getElem? (i := 0) rfl) all0, q.2.1⟩)) rfl (w8 hw) (w9 hw) (w10 hw) (by decide) (argsL := [(.ref a894)]) (st := [(.ref a910)]) rfl rfl (lenOf pd15 rfl) rfl (Nat.le_of_eq rfl) (k' := 15) rfl (n' := 50) rfl (by decide) (by decide) rfl ?_
      intro r915 h916 Q916 O916
      obtain ⟨rfl, Kh916, Sh916⟩ := Q916
      refine Ww.astore (pc' := 201) C at_199 rfl (Ls' := #[.val (.int p0), .val (.int p1), .val (.int p2), .val (.int p3), .val (.int p4), .val (.int p5), .val (.int (3 : Int32)), .val (.int (3 : Int32)), .val (.int v15), .val (.int v17), .val (.int v19), .val (.int v21), .val (.int v23), .val (.int v26), .val (.ref x890), .val (.ref x893), .val (.ref a894), .val (.ref a910), .unset]) rfl rfl ?_
      refine Ww.newO (pc' := 204) C at_201 (w37 hw) (w38 hw) (w39 hw) (k' := 16) rfl (n' := 52) rfl (by decide) (by decide) rfl ?_
      intro a917 h918 ga917 za917 E918 Aa917 Da917 Ua917 O918
      have F919 : Fld Z h918 a917 "com/example/isomorph/isomorph/MethodName" "className" "Ljava/lang/String;" .null := Da917 (Or.inr (w50 hw)) (ty := (.object "java/lang/String")) (by decide)
      have F920 : Fld Z h918 a917 "com/example/isomorph/isomorph/MethodName" "methodName" "Ljava/lang/String;" .null := Da917 (Or.inr (w52 hw)) (ty := (.object "java/lang/String")) (by decide)
      refine Ww.dup (pc' := 205) C at_204 rfl rfl ?_
      refine Ww.aload (pc' := 207) C at_205 rfl rfl rfl ?_
      refine Ww.aload (pc' := 209) C at_207 rfl rfl rfl ?_
      refine Ww.callI (pc' := 212) C at_209 (a := a917) (fun vm0 C => (Wk.Con.pays C (Wn := 1) (own_mnInit l hw O918 a917 x890 x893 za917 Aa917 F919 F920) (w42 hw) (w39 hw) (by decide) (by decide))) Wk.cleanC (fun v h' q => Or.inr (Or.inr ⟨[a917], allS (List.mem_of_getElem? (i := 0) rfl) all0, q.2.1⟩)) rfl (w40 hw) (w41 hw) (w42 hw) (by decide) (argsL := [(.ref x890), (.ref x893)]) (st := [(.ref a917)]) rfl rfl (lenOf pd20 rfl) rfl (Nat.le_of_eq rfl) (k' := 16) rfl (n' := 52) rfl (by decide) (by decide) rfl ?_
      intro r921 h922 Q922 O922
      obtain ⟨rfl, K922, A922, P922, T922⟩ := Q922
      have X923 : Ext h889 h895 := Wk.Ext.trans E892 E895
      have X924 : Ext h889 h898 := Wk.Ext.wr (Z := Z) X923 W898 (Nat.le_trans E892.1 (Nat.le_of_eq ga894.symm))
      have X925 : Ext h889 h900 := Wk.Ext.wr (Z := Z) X924 W900 (Nat.le_trans E892.1 (Nat.le_of_eq ga894.symm))
      have X926 : Ext h889 h902 := Wk.Ext.wr (Z := Z) X925 W902 (Nat.le_trans E892.1 (Nat.le_of_eq ga894.symm))
      have X927 : Ext h889 h903 := Wk.Ext.wr (Z := Z) X926 W903 (Nat.le_trans E892.1 (Nat.le_of_eq ga894.symm))
      have X928 : Ext h889 h905 := Wk.Ext.wr (Z := Z) X927 W905 (Nat.le_trans E892.1 (Nat.le_of_eq ga894.symm))
      have X929 : Ext h889 h907 := Wk.Ext.wr (Z := Z) X928 W907 (Nat.le_trans E892.1 (Nat.le_of_eq ga894.symm))
      have X930 : Ext h889 h909 := Wk.Ext.wr (Z := Z) X929 W909 (Nat.le_trans E892.1 (Nat.le_of_eq ga894.symm))
      have X931 : Ext h889 h911 := Wk.Ext.trans X930 E911
      have X932 : Ext h889 h916 := Wk.Ext.keep1 (Z := Z) X931 Kh916 (Nat.le_trans X930.1 (Nat.le_of_eq ga910.symm))
      have X933 : Ext h889 h918 := Wk.Ext.trans X932 E918
      have X934 : Ext h889 h922 := Wk.Ext.keep1 (Z := Z) X933 K922 (Nat.le_trans X932.1 (Nat.le_of_eq ga917.symm))
      have X935 : Ext h892 h898 := Wk.Ext.wr (Z := Z) E895 W898 (Nat.le_of_eq ga894.symm)
      have X936 : Ext h892 h900 := Wk.Ext.wr (Z := Z) X935 W900 (Nat.le_of_eq ga894.symm)
      have X937 : Ext h892 h902 := Wk.Ext.wr (Z := Z) X936 W902 (Nat.le_of_eq ga894.symm)
      have X938 : Ext h892 h903 := Wk.Ext.wr (Z := Z) X937 W903 (Nat.le_of_eq ga894.symm)
      have X939 : Ext h892 h905 := Wk.Ext.wr (Z := Z) X938 W905 (Nat.le_of_eq ga894.symm)
      have X940 : Ext h892 h907 := Wk.Ext.wr (Z := Z) X939 W907 (Nat.le_of_eq ga894.symm)
      have X941 : Ext h892 h909 := Wk.Ext.wr (Z := Z) X940 W909 (Nat.le_of_eq ga894.symm)
      have X942 : Ext h892 h911 := Wk.Ext.trans X941 E911
      have X943 : Ext h892 h916 := Wk.Ext.keep1 (Z := Z) X942 Kh916 (Nat.le_trans X941.1 (Nat.le_of_eq ga910.symm))
      have X944 : Ext h892 h918 := Wk.Ext.trans X943 E918
      have X945 : Ext h892 h922 := Wk.Ext.keep1 (Z := Z) X944 K922 (Nat.le_trans X943.1 (Nat.le_of_eq ga917.symm))
      refine Ww.callVS (pc' := 215) C at_212 (a := a917) (Ww.Con.pays hE (Wn := 0) (own_mnTo l hw hE O922 hs a917 x890 x893 ([v15, v17, v19] : List Int32) ([v21, v23, v26] : List Int32) P922 T922 (S889.ext X934) (S892.ext X945) (show _ ≤ 3 from Nat.le_of_ble_eq_true rfl) (show _ ≤ 3 from Nat.le_of_ble_eq_true rfl)) (w57 hw) (w39 hw) (by decide) (by decide)) Wk.cleanC A922 (w53 hw) (w54 hw) (fun vm0 hZ0 => notFace_of_selects (args := #[]) (mvT (s := W.s.setVm vm0) hZ0 (w56 hw))) (w56 hw) (w55 hw) (by decide) (argsL := []) (st := []) rfl rfl (lenOf pd18 rfl) rfl (Nat.le_of_eq rfl) (k' := 22) rfl (n' := 116) rfl (by decide) (by decide) rfl ?_
      intro r946 h947 Q947 O947
      obtain ⟨x948, rfl, E947, S947⟩ := Q947
      refine Ww.astore (pc' := 217) C at_215 rfl (Ls' := #[.val (.int p0), .val (.int p1), .val (.int p2), .val (.int p3), .val (.int p4), .val (.int p5), .val (.int (3 : Int32)), .val (.int (3 : Int32)), .val (.int v15), .val (.int v17), .val (.int v19), .val (.int v21), .val (.int v23), .val (.int v26), .val (.ref x890), .val (.ref x893), .val (.ref a894), .val (.ref a910), .val (.ref x948)]) rfl rfl ?_
      refine Ww.aload (pc' := 219) C at_217 rfl rfl rfl ?_
      refine Ww.aload (pc' := 221) C at_219 rfl rfl rfl ?_
      have X949 : Ext h916 h922 := Wk.Ext.keep1 (Z := Z) E918 K922 (Nat.le_of_eq ga917.symm)
      have X950 : Ext h916 h947 := Wk.Ext.trans X949 E947
      refine Ww.callV (pc' := 224) C at_221 (a := x948) (fun vm0 C => (strEq C hw hs O947 (Wn := 0) S947 (Sh916.ext X950) (by decide) (by decide))) (pureC (P := fun v => (v = some (.int 1) ∧ ((([] ++ ([v15, v17, v19] : List Int32)) ++ [46]) ++ ([v21, v23, v26] : List Int32) : List Int32) = [v15, v17, v19, (46 : Int32), v21, v23, v26]) ∨ (v = some (.int 0) ∧ ¬ ((([] ++ ([v15, v17, v19] : List Int32)) ++ [46]) ++ ([v21, v23, v26] : List Int32) : List Int32) = [v15, v17, v19, (46 : Int32), v21, v23, v26])) O947) (fun v h' q => Or.inl q.2) S947.exa (w169 hw) (w170 hw) (fun vm0 hZ0 => notFace_of_selects (args := #[]) (mvT (s := W.s.setVm vm0) hZ0 (w172 hw))) (w172 hw) (w171 hw) (by decide) (argsL := [(.ref a910)]) (st := []) rfl rfl (lenOf pd21 rfl) rfl (Nat.le_of_eq rfl) (k' := 22) rfl (n' := 116) rfl (by decide) (by decide) rfl ?_
      intro r951 h952 Q952 O952
      obtain ⟨q954, e953⟩ := Q952
      obtain rfl := e953.symm
      rcases q954 with ⟨rfl, q954⟩ | ⟨rfl, q954⟩
      · -- equal: True
        exact Ww.retNar (ty := .boolean) C hE (by simp) at_224 rfl (by decide) (by decide) rfl
      · -- equal: False
        exact absurd rfl q954
set_option maxRecDepth 65536 in
set_option maxHeartbeats 40000000 in
theorem comes_1 {Post : Tables → Env → Array Value → State → Outcome → State → Prop} (hpost : ∀ tb e args s v u, (limb_1_1.after args s (.returned v) u = true ∧ limb_1_2.after args s (.returned v) u = true ∧ True) → ReturnedEndW s (.returned v) u (Jvm.fieldLocs frame_1_writes args s ++ Jvm.arrayLocs frame_1_arrays args s ++ Jvm.staticLocs frame_1_statics s) 40 2304 → Post tb e args s (.returned v) u) :
    ArmFor flags0 classFile x code maxLocals ret World_1 tables_1 room_1 Calls_1 rest_1 Pre_1 Post := by
  intro l hfl _ _ p e ha hc hk s m args below hf hA hF happ hP
  obtain ⟨hcalls, hrest, hpre⟩ := hP
  obtain ⟨-, -, -, hnamed, -, -, -, hat⟩ := (Spec.applies_iff hf).mp happ
  obtain ⟨hg, hn⟩ := and_e (Cond.before_iff.mp (show (Jvm.Cond.and given_1 narrow_1).before args s = true from hpre))
  obtain ⟨gc0, gr0⟩ := and_e hg
  obtain ⟨gc1, gr1⟩ := and_e gr0
  obtain ⟨gc2, gr2⟩ := and_e gr1
  obtain ⟨gc3, gr3⟩ := and_e gr2
  obtain ⟨gc4, gr4⟩ := and_e gr3
  obtain ⟨gc5, gr5⟩ := and_e gr4
  obtain ⟨w0, w1, w2, w3, w4, w5, rfl⟩ : ∃ w0 w1 w2 w3 w4 w5 : Value, args = #[w0, w1, w2, w3, w4, w5] := by
    have hs : args.size = 6 := by simpa [Cond.value, given_1] using gc0
    obtain ⟨L⟩ := args
    match L, hs with
    | [w0, w1, w2, w3, w4, w5], _ => exact ⟨w0, w1, w2, w3, w4, w5, rfl⟩
  have hw : Ws _ s := fun d (hd : d ∈ tables_1) => atoms_spec (ws := Jvm.Cond.code x code maxLocals ret :: tables_1) hat d (List.mem_cons_of_mem _ hd)
  have hfit : Fit s := fun {y c} hc i hi => by
    obtain ⟨ha, rfl⟩ := Array.getElem?_eq_some_iff.mp hc
    have q := List.all_eq_true.mp ((Array.all_eq_true_iff_forall_mem.mp hF) _ (Array.getElem_mem ha)) i (List.mem_range.mpr hi)
    simpa [Array.getElem?_eq_getElem hi] using q
  obtain ⟨i0, ei0⟩ := is_v gc1
  obtain rfl : w0 = (.int i0) := Option.some.inj ei0
  obtain ⟨i1, ei1⟩ := is_v gc2
  obtain rfl : w1 = (.int i1) := Option.some.inj ei1
  obtain ⟨i2, ei2⟩ := is_v gc3
  obtain rfl : w2 = (.int i2) := Option.some.inj ei2
  obtain ⟨i3, ei3⟩ := is_v gc4
  obtain rfl : w3 = (.int i3) := Option.some.inj ei3
  obtain ⟨i4, ei4⟩ := is_v gc5
  obtain rfl : w4 = (.int i4) := Option.some.inj ei4
  obtain ⟨i5, ei5⟩ := is_v gr5
  obtain rfl : w5 = (.int i5) := Option.some.inj ei5
  obtain ⟨hsets, hown0⟩ := atoms_of _ (rest_1_c_eq ▸ (show rest_1_c.before _ s = true from hrest))
  have hS : Sets s := by
    have n5 := not_v (Cond.before_iff.mp (hsets _ (List.mem_of_getElem? (i := 2) rfl)))
    obtain ⟨zc, ez⟩ := is_v (Cond.before_iff.mp (hsets _ (List.mem_of_getElem? (i := 1) rfl)))
    obtain ⟨fm, ef, rf⟩ := isR_v (Cond.before_iff.mp (hsets _ (List.mem_of_getElem? (i := 8) rfl)))
    exact ⟨zc, fm, Sta.start ez (Or.inl (hsets _ (List.mem_of_getElem? (i := 0) rfl))), gotF (Cond.eq_ints ez (Term.int_eval (0))) n5, Sta.start ef (Or.inl (hsets _ (List.mem_of_getElem? (i := 7) rfl))), rf⟩
  have hE := own_EW hw
  have hCH : CHv s EL s.vm s.heap := CHv.start hE hcalls.1 (hsets _ (List.mem_of_getElem? (i := 2) rfl)) (w23 hw) (w5 hw)
  obtain ⟨n, o, h1, h2, h3, _, L, rfl, ⟨rfl, -, N⟩, -, hq⟩ := own_law l hw hE i0 i1 i2 i3 i4 i5 hS tables_1 p e ha hc hk s m _ below hf ((Spec.applies_iff_loose hf).mp happ).1 ⟨rfl, State.Warmed39.refl s, rfl, hCH⟩ trivial
  refine ⟨n, _, h1, h2, h3, hpost _ _ _ _ _ _ ⟨Cond.after_iff.mpr rfl, Cond.after_iff.mpr (eq_i res_at (Term.int_eval (1)) rfl), trivial⟩ ⟨hq.1, hq.2.1, hq.2.2.1, (hq.2.2.2.sift fun y hy => Or.inr (N y hy)).mono (by decide) (by decide)⟩⟩
theorem main_1_1 : Claimed_1_1 := comes_1 fun _ _ _ _ _ _ h hF => ⟨h.1, hF⟩
theorem main_1_2 : Claimed_1_2 := comes_1 fun _ _ _ _ _ _ h hF => ⟨h.2.1, hF⟩
end Jvm.Pilot.@@N@@
namespace Jvm.Pilot.@@N@@
open Jvm Jvm.ClassFile Sem Op Lib Jvm.Free Jvm.Stand Jvm.Pilot.@@N@@.Jvm.D
/-! MADE BY PROGRAM (witnessworld.py) out of the Statement's table words and the real class files: 27 classes; the members and pool entries that the words name. The judged class is class 1, her method 2. -/
namespace start1
open Jvm.ClassFile
def u (s : String) : CpInfo := .utf8 (stringToUtf16 s)
/-- a pool by its gaps: so many unusable entries, then the entry; so many at the end -/
def gap : Nat → List CpInfo → List CpInfo
  | 0, r => r
  | n + 1, r => .unusable :: gap n r
def poolList (es : List (Nat × CpInfo)) (last : Nat) : List CpInfo := es.foldr (fun e r => gap e.1 (e.2 :: r)) (gap last [])
def pool (es : List (Nat × CpInfo)) (last : Nat) : Array CpInfo := ⟨poolList es last⟩
def fileOf (pool : Array CpInfo) (this : Nat) (attrs : Array Attribute := #[]) (ms : Array MethodInfo := #[]) (fl : Nat := 33) (sup : Nat := 0) (ifs : Array Nat := #[]) (fds : Array FieldInfo := #[]) : ClassFile where
  minorVersion := 0
  majorVersion := 65
  constantPool := pool
  accessFlags := fl
  thisClass := this
  superClass := sup
  interfaces := ifs
  fields := fds
  methods := ms
  attributes := attrs
def plain (name : String) (sup : Option ClassId) : Class where
  name := name
  kind := .ordinary
  loader := none
  accessFlags := 33
  super := sup
  interfaces := #[]
  cf := none
  fields := #[]
  methods := #[]
  instanceTypes := #[]
  staticTypes := #[]
  resolved := #[]
  callSites := []
  init := .initialized
  statics := none
  mirror := none

def pool0 : Array CpInfo := pool [(5, u "<init>"), (0, u "()V"), (1, .class_ 10), (1, u "java/lang/Object")] 113

def k0c0 : Code := { maxStack := 0, maxLocals := 1, code := object_method_1_code, exceptionTable := #[], attributes := #[] }
def k0m0 : Method := { name := "<init>", desc := "()V", sig := { parameters := [], returnType := none }, accessFlags := 1, code := some k0c0 }
/-- java/lang/Object -/
def k0 : Class := { plain "java/lang/Object" none with
  accessFlags := 33
  interfaces := #[]
  cf := some (fileOf pool0 8 #[] #[{ accessFlags := 1, nameIndex := 5, descriptorIndex := 6, attributes := #[] }] 33 0 #[] #[])
  fields := #[]
  methods := #[k0m0]
  instanceTypes := #[]
  staticTypes := #[]
  resolved := Array.replicate 124 none
  statics := none }

def pool1 : Array CpInfo := pool [(2, .class_ 4), (1, u "java/lang/Object"), (0, u "<init>"), (0, u "()V"), (0, .class_ 8), (0, u "java/lang/String"), (0, .methodref 7 10), (0, .nameAndType 5 11), (0, u "([C)V"), (0, .methodref 13 14), (0, .class_ 15), (0, .nameAndType 16 17), (0, u "com/example/isomorph/isomorph/MethodNameToStringPinLaw"), (0, u "str"), (0, u "(ICCC)Ljava/lang/String;"), (0, .class_ 19), (0, u "com/example/isomorph/isomorph/MethodName"), (0, .methodref 18 21), (0, .nameAndType 5 22), (0, u "(Ljava/lang/String;Ljava/lang/String;)V"), (0, .methodref 18 24), (0, .nameAndType 25 26), (0, u "toString"), (0, u "()Ljava/lang/String;"), (0, .methodref 7 28), (0, .nameAndType 29 30), (0, u "equals"), (0, u "(Ljava/lang/Object;)Z"), (3, u "law"), (0, u "(IIIIII)Z")] 4

def k1m0 : Method := { name := "<init>", desc := "()V", sig := { parameters := [], returnType := none }, accessFlags := 2, code := none }
def k1c1 : Code := { maxStack := 6, maxLocals := 4, code := method_2_code, exceptionTable := #[], attributes := #[] }
def k1m1 : Method := { name := "str", desc := "(ICCC)Ljava/lang/String;", sig := { parameters := [.int, .char, .char, .char], returnType := some (.object "java/lang/String") }, accessFlags := 10, code := some k1c1 }
def k1c2 : Code := { maxStack := 4, maxLocals := 19, code := code, exceptionTable := #[], attributes := #[] }
def k1m2 : Method := { name := "law", desc := "(IIIIII)Z", sig := { parameters := [.int, .int, .int, .int, .int, .int], returnType := some .boolean }, accessFlags := 9, code := some k1c2 }
/-- com/example/isomorph/isomorph/MethodNameToStringPinLaw -/
def k1 : Class := { plain "com/example/isomorph/isomorph/MethodNameToStringPinLaw" (some 0) with
  accessFlags := 49
  interfaces := #[]
  cf := some (fileOf pool1 13 #[] #[{ accessFlags := 2, nameIndex := 5, descriptorIndex := 6, attributes := #[] }, { accessFlags := 10, nameIndex := 16, descriptorIndex := 17, attributes := #[] }, { accessFlags := 9, nameIndex := 34, descriptorIndex := 35, attributes := #[] }] 49 2 #[] #[])
  fields := #[]
  methods := #[k1m0, k1m1, k1m2]
  instanceTypes := #[]
  staticTypes := #[]
  resolved := Array.replicate 40 none
  statics := none }

def pool2 : Array CpInfo := pool [(1, .class_ 2), (0, u "java/io/Serializable"), (0, .class_ 4), (0, u "java/lang/Object")] 2

/-- java/io/Serializable -/
def k2 : Class := { plain "java/io/Serializable" (some 0) with
  accessFlags := 1537
  interfaces := #[]
  cf := some (fileOf pool2 1 #[] #[] 1537 3 #[] #[])
  fields := #[]
  methods := #[]
  instanceTypes := #[]
  staticTypes := #[]
  resolved := Array.replicate 7 none
  statics := none }

def pool3 : Array CpInfo := pool [(1, .class_ 2), (0, u "java/lang/Comparable"), (0, .class_ 4), (0, u "java/lang/Object")] 7

/-- java/lang/Comparable -/
def k3 : Class := { plain "java/lang/Comparable" (some 0) with
  accessFlags := 1537
  interfaces := #[]
  cf := some (fileOf pool3 1 #[] #[] 1537 3 #[] #[])
  fields := #[]
  methods := #[]
  instanceTypes := #[]
  staticTypes := #[]
  resolved := Array.replicate 12 none
  statics := none }

def pool4 : Array CpInfo := pool [(2, .class_ 4), (1, u "java/lang/CharSequence"), (42, .class_ 48), (0, u "java/lang/CharSequence$1CodePointIterator"), (10, .class_ 60), (0, u "java/lang/CharSequence$1CharIterator"), (5, .class_ 67), (0, u "java/lang/Object")] 63

/-- java/lang/CharSequence -/
def k4 : Class := { plain "java/lang/CharSequence" (some 0) with
  accessFlags := 1537
  interfaces := #[]
  cf := some (fileOf pool4 2 #[.nestMembers #[47, 59]] #[] 1537 66 #[] #[])
  fields := #[]
  methods := #[]
  instanceTypes := #[]
  staticTypes := #[]
  resolved := Array.replicate 131 none
  statics := none }

def pool5 : Array CpInfo := pool [(1, .class_ 2), (0, u "java/lang/constant/Constable"), (0, .class_ 4), (0, u "java/lang/Object")] 6

/-- java/lang/constant/Constable -/
def k5 : Class := { plain "java/lang/constant/Constable" (some 0) with
  accessFlags := 1537
  interfaces := #[]
  cf := some (fileOf pool5 1 #[] #[] 1537 3 #[] #[])
  fields := #[]
  methods := #[]
  instanceTypes := #[]
  staticTypes := #[]
  resolved := Array.replicate 11 none
  statics := none }

def pool6 : Array CpInfo := pool [(1, .class_ 2), (0, u "java/lang/constant/ConstantDesc"), (0, .class_ 4), (0, u "java/lang/Object")] 32

/-- java/lang/constant/ConstantDesc -/
def k6 : Class := { plain "java/lang/constant/ConstantDesc" (some 0) with
  accessFlags := 1537
  interfaces := #[]
  cf := some (fileOf pool6 1 #[] #[] 1537 3 #[] #[])
  fields := #[]
  methods := #[]
  instanceTypes := #[]
  staticTypes := #[]
  resolved := Array.replicate 37 none
  statics := none }

def pool7 : Array CpInfo := pool [(1, .methodref 2 3), (0, .class_ 4), (0, .nameAndType 5 6), (0, u "java/lang/Object"), (0, u "<init>"), (0, u "()V"), (0, .string 8), (0, u ""), (0, .fieldref 10 11), (0, .class_ 12), (0, .nameAndType 13 14), (0, u "java/lang/String"), (0, u "value"), (0, u "[B"), (0, .fieldref 10 16), (0, .nameAndType 17 18), (0, u "coder"), (0, u "B"), (2, u "hash"), (0, u "I"), (2, u "hashIsZero"), (0, u "Z"), (0, .methodref 10 28), (0, .nameAndType 5 29), (0, u "([CIILjava/lang/Void;)V"), (8, .fieldref 10 39), (0, .nameAndType 40 26), (0, u "COMPACT_STRINGS"), (1, .class_ 44), (1, u "java/lang/StringUTF16"), (0, u "compress"), (1, .methodref 42 48), (0, .nameAndType 49 50), (0, u "coderFromArrayLen"), (0, u "([BI)B"), (3, .methodref 55 56), (0, .class_ 57), (0, .nameAndType 58 59), (0, u "java/util/Arrays"), (0, u "copyOfRange"), (0, u "([BII)[B"), (47, .class_ 109), (1, u "java/lang/StringLatin1"), (32, u "()Z"), (34, .methodref 42 178), (0, .nameAndType 45 179), (0, u "([CII)[B"), (13, .class_ 195), (1, u "java/lang/System"), (16, .methodref 193 213), (0, .nameAndType 214 215), (0, u "arraycopy"), (0, u "(Ljava/lang/Object;ILjava/lang/Object;II)V"), (118, u "()I"), (0, .methodref 10 336), (0, .nameAndType 17 337), (0, u "()B"), (2, u "()[B"), (148, .methodref 10 490), (0, .nameAndType 5 491), (0, u "(Ljava/lang/AbstractStringBuilder;Ljava/lang/Void;)V"), (1, .nameAndType 494 142), (0, u "isLatin1"), (11, .nameAndType 507 334), (0, u "length"), (24, u "getBytes"), (8, .methodref 107 542), (0, .nameAndType 543 544), (0, u "equals"), (0, u "([B[B)Z"), (4, .methodref 550 506), (0, .class_ 551), (0, u "java/lang/AbstractStringBuilder"), (0, .methodref 550 553), (0, .nameAndType 554 340), (0, u "getValue"), (18, u "(Ljava/lang/Object;)Z"), (1, .class_ 576), (0, u "java/lang/CharSequence"), (22, u "CASE_INSENSITIVE_ORDER"), (0, u "Ljava/util/Comparator;"), (220, u "([BIB)V"), (188, u "([C)V"), (36, .methodref 550 493), (53, u "serialPersistentFields"), (0, u "[Ljava/io/ObjectStreamField;"), (0, .class_ 1104), (0, u "java/lang/String$CaseInsensitiveComparator"), (1, .class_ 1107), (0, u "java/io/Serializable"), (0, .class_ 1109), (0, u "java/lang/Comparable"), (0, .class_ 1111), (0, u "java/lang/constant/Constable"), (0, .class_ 1113), (0, u "java/lang/constant/ConstantDesc"), (2, u "serialVersionUID"), (0, u "J"), (3, u "REPL"), (0, u "C"), (2, u "LATIN1"), (1, u "UTF16"), (105, u "(Ljava/lang/StringBuilder;)V")] 217

def k7m0 : Method := { name := "<init>", desc := "()V", sig := { parameters := [], returnType := none }, accessFlags := 1, code := none }
def k7c1 : Code := { maxStack := 5, maxLocals := 2, code := jdk_42_method_3_code, exceptionTable := #[], attributes := #[] }
def k7m1 : Method := { name := "<init>", desc := "([C)V", sig := { parameters := [(.array .char)], returnType := none }, accessFlags := 1, code := some k7c1 }
def k7c2 : Code := { maxStack := 3, maxLocals := 2, code := jdk_42_method_53_code, exceptionTable := #[], attributes := #[] }
def k7m2 : Method := { name := "<init>", desc := "(Ljava/lang/StringBuilder;)V", sig := { parameters := [(.object "java/lang/StringBuilder")], returnType := none }, accessFlags := 1, code := some k7c2 }
def k7c3 : Code := { maxStack := 2, maxLocals := 1, code := jdk_42_method_54_code, exceptionTable := #[], attributes := #[] }
def k7m3 : Method := { name := "length", desc := "()I", sig := { parameters := [], returnType := some .int }, accessFlags := 1, code := some k7c3 }
def k7c4 : Code := { maxStack := 2, maxLocals := 3, code := jdk_42_method_66_code, exceptionTable := #[], attributes := #[] }
def k7m4 : Method := { name := "equals", desc := "(Ljava/lang/Object;)Z", sig := { parameters := [(.object "java/lang/Object")], returnType := some .boolean }, accessFlags := 1, code := some k7c4 }
def k7c5 : Code := { maxStack := 5, maxLocals := 4, code := jdk_42_method_147_code, exceptionTable := #[], attributes := #[] }
def k7m5 : Method := { name := "getBytes", desc := "([BIB)V", sig := { parameters := [(.array .byte), .int, .byte], returnType := none }, accessFlags := 0, code := some k7c5 }
def k7c6 : Code := { maxStack := 4, maxLocals := 6, code := jdk_42_method_149_code, exceptionTable := #[], attributes := #[] }
def k7m6 : Method := { name := "<init>", desc := "([CIILjava/lang/Void;)V", sig := { parameters := [(.array .char), .int, .int, (.object "java/lang/Void")], returnType := none }, accessFlags := 2, code := some k7c6 }
def k7c7 : Code := { maxStack := 5, maxLocals := 5, code := jdk_42_method_150_code, exceptionTable := #[], attributes := #[] }
def k7m7 : Method := { name := "<init>", desc := "(Ljava/lang/AbstractStringBuilder;Ljava/lang/Void;)V", sig := { parameters := [(.object "java/lang/AbstractStringBuilder"), (.object "java/lang/Void")], returnType := none }, accessFlags := 0, code := some k7c7 }
def k7c8 : Code := { maxStack := 1, maxLocals := 1, code := jdk_42_method_152_code, exceptionTable := #[], attributes := #[] }
def k7m8 : Method := { name := "coder", desc := "()B", sig := { parameters := [], returnType := some .byte }, accessFlags := 0, code := some k7c8 }
/-- java/lang/String -/
def k7 : Class := { plain "java/lang/String" (some 0) with
  accessFlags := 49
  interfaces := #[2, 3, 4, 5, 6]
  cf := some (fileOf pool7 10 #[.nestMembers #[1103]] #[{ accessFlags := 1, nameIndex := 5, descriptorIndex := 6, attributes := #[] }, { accessFlags := 1, nameIndex := 5, descriptorIndex := 1010, attributes := #[] }, { accessFlags := 1, nameIndex := 5, descriptorIndex := 1233, attributes := #[] }, { accessFlags := 1, nameIndex := 507, descriptorIndex := 334, attributes := #[] }, { accessFlags := 1, nameIndex := 543, descriptorIndex := 573, attributes := #[] }, { accessFlags := 0, nameIndex := 532, descriptorIndex := 821, attributes := #[] }, { accessFlags := 2, nameIndex := 5, descriptorIndex := 29, attributes := #[] }, { accessFlags := 0, nameIndex := 5, descriptorIndex := 491, attributes := #[] }, { accessFlags := 0, nameIndex := 17, descriptorIndex := 337, attributes := #[] }] 49 2 #[1106, 1108, 575, 1110, 1112] #[{ accessFlags := 18, nameIndex := 13, descriptorIndex := 14, attributes := #[] }, { accessFlags := 18, nameIndex := 17, descriptorIndex := 18, attributes := #[] }, { accessFlags := 2, nameIndex := 21, descriptorIndex := 22, attributes := #[] }, { accessFlags := 2, nameIndex := 25, descriptorIndex := 26, attributes := #[] }, { accessFlags := 26, nameIndex := 1116, descriptorIndex := 1117, attributes := #[] }, { accessFlags := 24, nameIndex := 40, descriptorIndex := 26, attributes := #[] }, { accessFlags := 26, nameIndex := 1101, descriptorIndex := 1102, attributes := #[] }, { accessFlags := 26, nameIndex := 1121, descriptorIndex := 1122, attributes := #[] }, { accessFlags := 25, nameIndex := 599, descriptorIndex := 600, attributes := #[] }, { accessFlags := 24, nameIndex := 1125, descriptorIndex := 18, attributes := #[] }, { accessFlags := 24, nameIndex := 1127, descriptorIndex := 18, attributes := #[] }])
  fields := #[{ name := "value", type := (.array .byte), accessFlags := 18, slot := 0, constantValue := 0 }, { name := "coder", type := .byte, accessFlags := 18, slot := 1, constantValue := 0 }, { name := "hash", type := .int, accessFlags := 2, slot := 2, constantValue := 0 }, { name := "hashIsZero", type := .boolean, accessFlags := 2, slot := 3, constantValue := 0 }, { name := "serialVersionUID", type := .long, accessFlags := 26, slot := 0, constantValue := 0 }, { name := "COMPACT_STRINGS", type := .boolean, accessFlags := 24, slot := 1, constantValue := 0 }, { name := "serialPersistentFields", type := (.array (.object "java/io/ObjectStreamField")), accessFlags := 26, slot := 2, constantValue := 0 }, { name := "REPL", type := .char, accessFlags := 26, slot := 3, constantValue := 0 }, { name := "CASE_INSENSITIVE_ORDER", type := (.object "java/util/Comparator"), accessFlags := 25, slot := 4, constantValue := 0 }, { name := "LATIN1", type := .byte, accessFlags := 24, slot := 5, constantValue := 0 }, { name := "UTF16", type := .byte, accessFlags := 24, slot := 6, constantValue := 0 }]
  methods := #[k7m0, k7m1, k7m2, k7m3, k7m4, k7m5, k7m6, k7m7, k7m8]
  instanceTypes := #[(.array .byte), .byte, .int, .boolean]
  staticTypes := #[.long, .boolean, (.array (.object "java/io/ObjectStreamField")), .char, (.object "java/util/Comparator"), .byte, .byte]
  resolved := Array.replicate 1451 none
  statics := some 0 }

def pool8 : Array CpInfo := pool [(6, .class_ 8), (1, u "java/lang/Object"), (0, u "<init>"), (0, u "()V"), (1, .class_ 14), (1, u "java/lang/StringUTF16"), (31, u "$assertionsDisabled"), (0, u "Z"), (13, u "HI_BYTE_SHIFT"), (0, u "I"), (2, u "LO_BYTE_SHIFT"), (49, .methodref 12 116), (0, .nameAndType 117 118), (0, u "compress"), (0, u "([CI[BII)I"), (3, u "([CII)[B"), (138, u "coderFromArrayLen"), (0, u "([BI)B"), (106, .class_ 371), (1, u "java/lang/StringUTF16$LinesSpliterator"), (58, u "MAX_LENGTH"), (196, .class_ 628), (0, u "java/lang/StringUTF16$CodePointsSpliterator"), (0, .class_ 630), (0, u "java/lang/StringUTF16$CharsSpliterator")] 4

def k8m0 : Method := { name := "<init>", desc := "()V", sig := { parameters := [], returnType := none }, accessFlags := 0, code := none }
def k8c1 : Code := { maxStack := 2, maxLocals := 2, code := jdk_52_method_15_code, exceptionTable := #[], attributes := #[] }
def k8m1 : Method := { name := "coderFromArrayLen", desc := "([BI)B", sig := { parameters := [(.array .byte), .int], returnType := some .byte }, accessFlags := 8, code := some k8c1 }
def k8c2 : Code := { maxStack := 5, maxLocals := 6, code := jdk_52_method_16_code, exceptionTable := #[], attributes := #[] }
def k8m2 : Method := { name := "compress", desc := "([CII)[B", sig := { parameters := [(.array .char), .int, .int], returnType := some (.array .byte) }, accessFlags := 9, code := some k8c2 }
def k8c3 : Code := { maxStack := 3, maxLocals := 7, code := jdk_52_method_21_code, exceptionTable := #[], attributes := #[] }
def k8m3 : Method := { name := "compress", desc := "([CI[BII)I", sig := { parameters := [(.array .char), .int, (.array .byte), .int, .int], returnType := some .int }, accessFlags := 9, code := some k8c3 }
/-- java/lang/StringUTF16 -/
def k8 : Class := { plain "java/lang/StringUTF16" (some 0) with
  accessFlags := 48
  interfaces := #[]
  cf := some (fileOf pool8 12 #[.nestMembers #[627, 629, 369]] #[{ accessFlags := 0, nameIndex := 9, descriptorIndex := 10, attributes := #[] }, { accessFlags := 8, nameIndex := 261, descriptorIndex := 262, attributes := #[] }, { accessFlags := 9, nameIndex := 117, descriptorIndex := 122, attributes := #[] }, { accessFlags := 9, nameIndex := 117, descriptorIndex := 118, attributes := #[] }] 48 6 #[] #[{ accessFlags := 26, nameIndex := 61, descriptorIndex := 62, attributes := #[] }, { accessFlags := 26, nameIndex := 65, descriptorIndex := 62, attributes := #[] }, { accessFlags := 24, nameIndex := 430, descriptorIndex := 62, attributes := #[] }, { accessFlags := 4120, nameIndex := 46, descriptorIndex := 47, attributes := #[] }])
  fields := #[{ name := "HI_BYTE_SHIFT", type := .int, accessFlags := 26, slot := 0, constantValue := 0 }, { name := "LO_BYTE_SHIFT", type := .int, accessFlags := 26, slot := 1, constantValue := 0 }, { name := "MAX_LENGTH", type := .int, accessFlags := 24, slot := 2, constantValue := 0 }, { name := "$assertionsDisabled", type := .boolean, accessFlags := 4120, slot := 3, constantValue := 0 }]
  methods := #[k8m0, k8m1, k8m2, k8m3]
  instanceTypes := #[]
  staticTypes := #[.int, .int, .int, .boolean]
  resolved := Array.replicate 635 none
  statics := none }

def pool9 : Array CpInfo := pool [(1, .methodref 2 3), (0, .class_ 4), (0, .nameAndType 5 6), (0, u "java/lang/Object"), (0, u "<init>"), (0, u "()V"), (0, .class_ 8), (0, u "java/lang/Record")] 13

def k9c0 : Code := { maxStack := 1, maxLocals := 1, code := jdk_30_method_1_code, exceptionTable := #[], attributes := #[] }
def k9m0 : Method := { name := "<init>", desc := "()V", sig := { parameters := [], returnType := none }, accessFlags := 4, code := some k9c0 }
/-- java/lang/Record -/
def k9 : Class := { plain "java/lang/Record" (some 0) with
  accessFlags := 1057
  interfaces := #[]
  cf := some (fileOf pool9 7 #[] #[{ accessFlags := 4, nameIndex := 5, descriptorIndex := 6, attributes := #[] }] 1057 2 #[] #[])
  fields := #[]
  methods := #[k9m0]
  instanceTypes := #[]
  staticTypes := #[]
  resolved := Array.replicate 22 none
  statics := none }

def pool10 : Array CpInfo := pool [(1, .methodref 2 3), (0, .class_ 4), (0, .nameAndType 5 6), (0, u "java/lang/Record"), (0, u "<init>"), (0, u "()V"), (0, .fieldref 8 9), (0, .class_ 10), (0, .nameAndType 11 12), (0, u "com/example/isomorph/isomorph/MethodName"), (0, u "className"), (0, u "Ljava/lang/String;"), (0, .fieldref 8 14), (0, .nameAndType 15 12), (0, u "methodName"), (28, .class_ 45), (0, u "java/lang/StringBuilder"), (0, .methodref 44 3), (2, .methodref 44 50), (0, .nameAndType 51 52), (0, u "append"), (0, u "(Ljava/lang/String;)Ljava/lang/StringBuilder;"), (2, .methodref 44 56), (0, .nameAndType 57 58), (0, u "toString"), (0, u "()Ljava/lang/String;"), (5, u "(Ljava/lang/String;Ljava/lang/String;)V"), (18, .string 84), (0, u ".")] 36

def k10c0 : Code := { maxStack := 2, maxLocals := 3, code := prog_2_method_1_code, exceptionTable := #[], attributes := #[] }
def k10m0 : Method := { name := "<init>", desc := "(Ljava/lang/String;Ljava/lang/String;)V", sig := { parameters := [(.object "java/lang/String"), (.object "java/lang/String")], returnType := none }, accessFlags := 0, code := some k10c0 }
def k10c1 : Code := { maxStack := 2, maxLocals := 1, code := prog_2_method_5_code, exceptionTable := #[], attributes := #[] }
def k10m1 : Method := { name := "toString", desc := "()Ljava/lang/String;", sig := { parameters := [], returnType := some (.object "java/lang/String") }, accessFlags := 1, code := some k10c1 }
/-- com/example/isomorph/isomorph/MethodName -/
def k10 : Class := { plain "com/example/isomorph/isomorph/MethodName" (some 9) with
  accessFlags := 48
  interfaces := #[]
  cf := some (fileOf pool10 8 #[] #[{ accessFlags := 0, nameIndex := 5, descriptorIndex := 64, attributes := #[] }, { accessFlags := 1, nameIndex := 57, descriptorIndex := 58, attributes := #[] }] 48 2 #[] #[{ accessFlags := 18, nameIndex := 11, descriptorIndex := 12, attributes := #[] }, { accessFlags := 18, nameIndex := 15, descriptorIndex := 12, attributes := #[] }])
  fields := #[{ name := "className", type := (.object "java/lang/String"), accessFlags := 18, slot := 0, constantValue := 0 }, { name := "methodName", type := (.object "java/lang/String"), accessFlags := 18, slot := 1, constantValue := 0 }]
  methods := #[k10m0, k10m1]
  instanceTypes := #[(.object "java/lang/String"), (.object "java/lang/String")]
  staticTypes := #[]
  resolved := Array.replicate 121 none
  statics := none }

def pool11 : Array CpInfo := pool [(1, .class_ 2), (0, u "java/lang/Appendable"), (0, .class_ 4), (0, u "java/lang/Object")] 9

/-- java/lang/Appendable -/
def k11 : Class := { plain "java/lang/Appendable" (some 0) with
  accessFlags := 1537
  interfaces := #[]
  cf := some (fileOf pool11 1 #[] #[] 1537 3 #[] #[])
  fields := #[]
  methods := #[]
  instanceTypes := #[]
  staticTypes := #[]
  resolved := Array.replicate 14 none
  statics := none }

def pool12 : Array CpInfo := pool [(1, .class_ 2), (0, u "java/lang/String"), (0, .methodref 4 5), (0, .class_ 6), (0, .nameAndType 7 8), (0, u "java/lang/Object"), (0, u "<init>"), (0, u "()V"), (1, .class_ 12), (1, u "java/lang/AbstractStringBuilder"), (0, u "EMPTYVALUE"), (0, u "[B"), (0, .fieldref 10 16), (0, .nameAndType 17 14), (0, u "value"), (0, .fieldref 1 19), (0, .nameAndType 20 21), (0, u "COMPACT_STRINGS"), (0, u "Z"), (0, .fieldref 10 23), (0, .nameAndType 24 25), (0, u "coder"), (0, u "B"), (6, .methodref 1 33), (0, .nameAndType 34 35), (0, u "length"), (0, u "()I"), (4, .methodref 1 41), (0, .nameAndType 24 42), (0, u "()B"), (2, u "append"), (0, u "(Ljava/lang/String;)Ljava/lang/AbstractStringBuilder;"), (1, .class_ 49), (0, u "java/lang/CharSequence"), (19, u "(Ljava/lang/String;)V"), (5, u "maybeLatin1"), (3, .fieldref 10 80), (0, .nameAndType 81 82), (0, u "count"), (0, u "I"), (2, u "isLatin1"), (0, u "()Z"), (13, .methodref 10 101), (0, .nameAndType 102 103), (0, u "ensureCapacityInternal"), (0, u "(I)V"), (104, .methodref 10 209), (0, .nameAndType 210 211), (0, u "putStringAt"), (0, u "(ILjava/lang/String;)V"), (5, u "inflateIfNeededFor"), (2, .nameAndType 221 222), (0, u "getBytes"), (0, u "([BIB)V"), (174, .methodref 10 398), (0, .nameAndType 217 69), (0, .methodref 1 220), (3, u "()[B"), (40, .class_ 445), (0, u "java/lang/Appendable"), (106, u "getValue")] 56

def k12m0 : Method := { name := "<init>", desc := "()V", sig := { parameters := [], returnType := none }, accessFlags := 0, code := none }
def k12c1 : Code := { maxStack := 2, maxLocals := 2, code := jdk_68_method_2_code, exceptionTable := #[], attributes := #[] }
def k12m1 : Method := { name := "<init>", desc := "(I)V", sig := { parameters := [.int], returnType := none }, accessFlags := 0, code := some k12c1 }
def k12c2 : Code := { maxStack := 1, maxLocals := 1, code := jdk_68_method_6_code, exceptionTable := #[], attributes := #[] }
def k12m2 : Method := { name := "length", desc := "()I", sig := { parameters := [], returnType := some .int }, accessFlags := 1, code := some k12c2 }
def k12c3 : Code := { maxStack := 4, maxLocals := 3, code := jdk_68_method_9_code, exceptionTable := #[], attributes := #[] }
def k12m3 : Method := { name := "ensureCapacityInternal", desc := "(I)V", sig := { parameters := [.int], returnType := none }, accessFlags := 2, code := some k12c3 }
def k12c4 : Code := { maxStack := 3, maxLocals := 3, code := jdk_68_method_22_code, exceptionTable := #[], attributes := #[] }
def k12m4 : Method := { name := "append", desc := "(Ljava/lang/String;)Ljava/lang/AbstractStringBuilder;", sig := { parameters := [(.object "java/lang/String")], returnType := some (.object "java/lang/AbstractStringBuilder") }, accessFlags := 1, code := some k12c4 }
def k12c5 : Code := { maxStack := 1, maxLocals := 1, code := jdk_68_method_64_code, exceptionTable := #[], attributes := #[] }
def k12m5 : Method := { name := "getValue", desc := "()[B", sig := { parameters := [], returnType := some (.array .byte) }, accessFlags := 16, code := some k12c5 }
def k12c6 : Code := { maxStack := 1, maxLocals := 1, code := jdk_68_method_68_code, exceptionTable := #[], attributes := #[] }
def k12m6 : Method := { name := "isLatin1", desc := "()Z", sig := { parameters := [], returnType := some .boolean }, accessFlags := 16, code := some k12c6 }
def k12c7 : Code := { maxStack := 2, maxLocals := 2, code := jdk_68_method_71_code, exceptionTable := #[], attributes := #[] }
def k12m7 : Method := { name := "inflateIfNeededFor", desc := "(Ljava/lang/String;)V", sig := { parameters := [(.object "java/lang/String")], returnType := none }, accessFlags := 2, code := some k12c7 }
def k12c8 : Code := { maxStack := 4, maxLocals := 3, code := jdk_68_method_73_code, exceptionTable := #[], attributes := #[] }
def k12m8 : Method := { name := "putStringAt", desc := "(ILjava/lang/String;)V", sig := { parameters := [.int, (.object "java/lang/String")], returnType := none }, accessFlags := 2, code := some k12c8 }
/-- java/lang/AbstractStringBuilder -/
def k12 : Class := { plain "java/lang/AbstractStringBuilder" (some 0) with
  accessFlags := 1056
  interfaces := #[11, 4]
  cf := some (fileOf pool12 10 #[] #[{ accessFlags := 0, nameIndex := 7, descriptorIndex := 8, attributes := #[] }, { accessFlags := 0, nameIndex := 7, descriptorIndex := 103, attributes := #[] }, { accessFlags := 1, nameIndex := 34, descriptorIndex := 35, attributes := #[] }, { accessFlags := 2, nameIndex := 102, descriptorIndex := 103, attributes := #[] }, { accessFlags := 1, nameIndex := 45, descriptorIndex := 46, attributes := #[] }, { accessFlags := 16, nameIndex := 552, descriptorIndex := 403, attributes := #[] }, { accessFlags := 16, nameIndex := 85, descriptorIndex := 86, attributes := #[] }, { accessFlags := 2, nameIndex := 217, descriptorIndex := 69, attributes := #[] }, { accessFlags := 2, nameIndex := 210, descriptorIndex := 211, attributes := #[] }] 1056 4 #[444, 48] #[{ accessFlags := 0, nameIndex := 17, descriptorIndex := 14, attributes := #[] }, { accessFlags := 0, nameIndex := 24, descriptorIndex := 25, attributes := #[] }, { accessFlags := 0, nameIndex := 75, descriptorIndex := 21, attributes := #[] }, { accessFlags := 0, nameIndex := 81, descriptorIndex := 82, attributes := #[] }, { accessFlags := 26, nameIndex := 13, descriptorIndex := 14, attributes := #[] }])
  fields := #[{ name := "value", type := (.array .byte), accessFlags := 0, slot := 0, constantValue := 0 }, { name := "coder", type := .byte, accessFlags := 0, slot := 1, constantValue := 0 }, { name := "maybeLatin1", type := .boolean, accessFlags := 0, slot := 2, constantValue := 0 }, { name := "count", type := .int, accessFlags := 0, slot := 3, constantValue := 0 }, { name := "EMPTYVALUE", type := (.array .byte), accessFlags := 26, slot := 0, constantValue := 0 }]
  methods := #[k12m0, k12m1, k12m2, k12m3, k12m4, k12m5, k12m6, k12m7, k12m8]
  instanceTypes := #[(.array .byte), .byte, .boolean, .int]
  staticTypes := #[(.array .byte)]
  resolved := Array.replicate 609 none
  statics := none }

def pool13 : Array CpInfo := pool [(1, .methodref 2 3), (0, .class_ 4), (0, .nameAndType 5 6), (0, u "java/lang/AbstractStringBuilder"), (0, u "<init>"), (0, u "(I)V"), (11, .class_ 20), (1, u "java/lang/String"), (3, .class_ 26), (1, u "java/lang/StringBuilder"), (0, u "append"), (0, u "(Ljava/lang/String;)Ljava/lang/StringBuilder;"), (0, .methodref 2 30), (0, .nameAndType 27 31), (0, u "(Ljava/lang/String;)Ljava/lang/AbstractStringBuilder;"), (105, .methodref 18 138), (0, .nameAndType 5 139), (0, u "(Ljava/lang/StringBuilder;)V"), (5, u "()V"), (10, u "()I"), (186, .methodref 2 344), (0, .nameAndType 345 156), (0, u "length"), (3, .class_ 350), (0, u "java/lang/Appendable"), (0, .class_ 352), (0, u "java/io/Serializable"), (0, .class_ 354), (0, u "java/lang/Comparable"), (0, .class_ 356), (0, u "java/lang/CharSequence"), (0, u "serialVersionUID"), (0, u "J"), (40, u "toString"), (0, u "()Ljava/lang/String;")] 21

def k13c0 : Code := { maxStack := 2, maxLocals := 1, code := jdk_67_method_1_code, exceptionTable := #[], attributes := #[] }
def k13m0 : Method := { name := "<init>", desc := "()V", sig := { parameters := [], returnType := none }, accessFlags := 1, code := some k13c0 }
def k13c1 : Code := { maxStack := 2, maxLocals := 2, code := jdk_67_method_7_code, exceptionTable := #[], attributes := #[] }
def k13m1 : Method := { name := "append", desc := "(Ljava/lang/String;)Ljava/lang/StringBuilder;", sig := { parameters := [(.object "java/lang/String")], returnType := some (.object "java/lang/StringBuilder") }, accessFlags := 1, code := some k13c1 }
def k13c2 : Code := { maxStack := 3, maxLocals := 1, code := jdk_67_method_42_code, exceptionTable := #[], attributes := #[] }
def k13m2 : Method := { name := "toString", desc := "()Ljava/lang/String;", sig := { parameters := [], returnType := some (.object "java/lang/String") }, accessFlags := 1, code := some k13c2 }
def k13c3 : Code := { maxStack := 1, maxLocals := 1, code := jdk_67_method_93_code, exceptionTable := #[], attributes := #[] }
def k13m3 : Method := { name := "length", desc := "()I", sig := { parameters := [], returnType := some .int }, accessFlags := 4161, code := some k13c3 }
/-- java/lang/StringBuilder -/
def k13 : Class := { plain "java/lang/StringBuilder" (some 12) with
  accessFlags := 49
  interfaces := #[11, 2, 3, 4]
  cf := some (fileOf pool13 24 #[] #[{ accessFlags := 1, nameIndex := 5, descriptorIndex := 145, attributes := #[] }, { accessFlags := 1, nameIndex := 27, descriptorIndex := 28, attributes := #[] }, { accessFlags := 1, nameIndex := 399, descriptorIndex := 400, attributes := #[] }, { accessFlags := 4161, nameIndex := 345, descriptorIndex := 156, attributes := #[] }] 49 2 #[349, 351, 353, 355] #[{ accessFlags := 24, nameIndex := 357, descriptorIndex := 358, attributes := #[] }])
  fields := #[{ name := "serialVersionUID", type := .long, accessFlags := 24, slot := 0, constantValue := 0 }]
  methods := #[k13m0, k13m1, k13m2, k13m3]
  instanceTypes := #[(.array .byte), .byte, .boolean, .int]
  staticTypes := #[.long]
  resolved := Array.replicate 422 none
  statics := none }

def pool14 : Array CpInfo := pool [(2, .class_ 4), (1, u "java/lang/Object"), (0, u "<init>"), (0, u "()V"), (1, .class_ 10), (1, u "java/lang/System"), (0, u "allowSecurityManager"), (0, u "I"), (16, u "cons"), (0, u "Ljava/io/Console;"), (77, .class_ 110), (1, u "java/lang/System$CallersHolder"), (43, u "initialErrStream"), (0, u "Ljava/io/PrintStream;"), (19, u "security"), (0, u "Ljava/lang/SecurityManager;"), (31, .class_ 209), (0, u "java/lang/System$1"), (7, u "props"), (0, u "Ljava/util/Properties;"), (2, u "lineSeparator"), (0, u "Ljava/lang/String;"), (96, .class_ 321), (1, u "java/lang/System$LoggerFinder"), (5, .class_ 328), (0, u "java/lang/System$Logger"), (67, u "err"), (2, u "out"), (91, u "notSupportedJnuEncoding"), (15, u "in"), (17, u "initialIn"), (0, u "Ljava/io/InputStream;"), (35, u "bootLayer"), (0, u "Ljava/lang/ModuleLayer;"), (99, .class_ 664), (0, u "java/lang/System$2"), (9, u "NEVER"), (2, u "MAYBE"), (49, u "arraycopy"), (0, u "(Ljava/lang/Object;ILjava/lang/Object;II)V"), (72, .class_ 802), (0, u "java/lang/System$Logger$Level")] 31

def k14m0 : Method := { name := "<init>", desc := "()V", sig := { parameters := [], returnType := none }, accessFlags := 2, code := none }
def k14m1 : Method := { name := "arraycopy", desc := "(Ljava/lang/Object;ILjava/lang/Object;II)V", sig := { parameters := [(.object "java/lang/Object"), .int, (.object "java/lang/Object"), .int, .int], returnType := none }, accessFlags := 265, code := none }
/-- java/lang/System -/
def k14 : Class := { plain "java/lang/System" (some 0) with
  accessFlags := 49
  interfaces := #[]
  cf := some (fileOf pool14 8 #[.nestMembers #[319, 327, 801, 108, 663, 208]] #[{ accessFlags := 2, nameIndex := 5, descriptorIndex := 6, attributes := #[] }, { accessFlags := 265, nameIndex := 727, descriptorIndex := 728, attributes := #[] }] 49 2 #[] #[{ accessFlags := 25, nameIndex := 507, descriptorIndex := 526, attributes := #[] }, { accessFlags := 25, nameIndex := 399, descriptorIndex := 155, attributes := #[] }, { accessFlags := 25, nameIndex := 396, descriptorIndex := 155, attributes := #[] }, { accessFlags := 10, nameIndex := 525, descriptorIndex := 526, attributes := #[] }, { accessFlags := 26, nameIndex := 674, descriptorIndex := 12, attributes := #[] }, { accessFlags := 26, nameIndex := 677, descriptorIndex := 12, attributes := #[] }, { accessFlags := 10, nameIndex := 11, descriptorIndex := 12, attributes := #[] }, { accessFlags := 74, nameIndex := 175, descriptorIndex := 176, attributes := #[] }, { accessFlags := 10, nameIndex := 491, descriptorIndex := 222, attributes := #[] }, { accessFlags := 74, nameIndex := 29, descriptorIndex := 30, attributes := #[] }, { accessFlags := 74, nameIndex := 154, descriptorIndex := 155, attributes := #[] }, { accessFlags := 10, nameIndex := 217, descriptorIndex := 218, attributes := #[] }, { accessFlags := 10, nameIndex := 221, descriptorIndex := 222, attributes := #[] }, { accessFlags := 8, nameIndex := 562, descriptorIndex := 563, attributes := #[] }])
  fields := #[{ name := "in", type := (.object "java/io/InputStream"), accessFlags := 25, slot := 0, constantValue := 0 }, { name := "out", type := (.object "java/io/PrintStream"), accessFlags := 25, slot := 1, constantValue := 0 }, { name := "err", type := (.object "java/io/PrintStream"), accessFlags := 25, slot := 2, constantValue := 0 }, { name := "initialIn", type := (.object "java/io/InputStream"), accessFlags := 10, slot := 3, constantValue := 0 }, { name := "NEVER", type := .int, accessFlags := 26, slot := 4, constantValue := 0 }, { name := "MAYBE", type := .int, accessFlags := 26, slot := 5, constantValue := 0 }, { name := "allowSecurityManager", type := .int, accessFlags := 10, slot := 6, constantValue := 0 }, { name := "security", type := (.object "java/lang/SecurityManager"), accessFlags := 74, slot := 7, constantValue := 0 }, { name := "notSupportedJnuEncoding", type := (.object "java/lang/String"), accessFlags := 10, slot := 8, constantValue := 0 }, { name := "cons", type := (.object "java/io/Console"), accessFlags := 74, slot := 9, constantValue := 0 }, { name := "initialErrStream", type := (.object "java/io/PrintStream"), accessFlags := 74, slot := 10, constantValue := 0 }, { name := "props", type := (.object "java/util/Properties"), accessFlags := 10, slot := 11, constantValue := 0 }, { name := "lineSeparator", type := (.object "java/lang/String"), accessFlags := 10, slot := 12, constantValue := 0 }, { name := "bootLayer", type := (.object "java/lang/ModuleLayer"), accessFlags := 8, slot := 13, constantValue := 0 }]
  methods := #[k14m0, k14m1]
  instanceTypes := #[]
  staticTypes := #[(.object "java/io/InputStream"), (.object "java/io/PrintStream"), (.object "java/io/PrintStream"), (.object "java/io/InputStream"), .int, .int, .int, (.object "java/lang/SecurityManager"), (.object "java/lang/String"), (.object "java/io/Console"), (.object "java/io/PrintStream"), (.object "java/util/Properties"), (.object "java/lang/String"), (.object "java/lang/ModuleLayer")]
  resolved := Array.replicate 834 none
  statics := none }

def pool15 : Array CpInfo := pool [(2, .class_ 4), (1, u "java/lang/Object"), (0, u "<init>"), (0, u "()V"), (7, .class_ 16), (1, u "java/util/Arrays"), (57, .class_ 76), (1, u "java/util/Arrays$NaturalOrder"), (36, .class_ 115), (1, u "java/util/Arrays$LegacyMergeSort"), (1, u "Z"), (21, u "copyOfRange"), (10, .methodref 151 152), (0, .class_ 153), (0, .nameAndType 154 155), (0, u "java/lang/System"), (0, u "arraycopy"), (0, u "(Ljava/lang/Object;ILjava/lang/Object;II)V"), (148, .methodref 305 306), (0, .class_ 307), (0, .nameAndType 308 309), (0, u "java/lang/Math"), (0, u "min"), (0, u "(II)I"), (29, .methodref 14 340), (0, .nameAndType 341 342), (0, u "copyOfRangeByte"), (0, u "([BII)[B"), (0, .methodref 14 344), (0, .nameAndType 345 346), (0, u "checkLength"), (0, u "(II)V"), (28, .class_ 376), (0, u "java/util/Arrays$ArrayList"), (68, u "$assertionsDisabled"), (269, u "MIN_ARRAY_SORT_GRAN"), (0, u "I"), (2, u "INSERTIONSORT_THRESHOLD"), (255, .class_ 976), (0, u "java/util/Arrays$ArrayItr")] 52

def k15m0 : Method := { name := "<init>", desc := "()V", sig := { parameters := [], returnType := none }, accessFlags := 2, code := none }
def k15c1 : Code := { maxStack := 4, maxLocals := 2, code := jdk_65_method_131_code, exceptionTable := #[], attributes := #[] }
def k15m1 : Method := { name := "checkLength", desc := "(II)V", sig := { parameters := [.int, .int], returnType := none }, accessFlags := 10, code := some k15c1 }
def k15c2 : Code := { maxStack := 3, maxLocals := 3, code := jdk_65_method_132_code, exceptionTable := #[], attributes := #[] }
def k15m2 : Method := { name := "copyOfRange", desc := "([BII)[B", sig := { parameters := [(.array .byte), .int, .int], returnType := some (.array .byte) }, accessFlags := 9, code := some k15c2 }
def k15c3 : Code := { maxStack := 6, maxLocals := 5, code := jdk_65_method_133_code, exceptionTable := #[], attributes := #[] }
def k15m3 : Method := { name := "copyOfRangeByte", desc := "([BII)[B", sig := { parameters := [(.array .byte), .int, .int], returnType := some (.array .byte) }, accessFlags := 10, code := some k15c3 }
/-- java/util/Arrays -/
def k15 : Class := { plain "java/util/Arrays" (some 0) with
  accessFlags := 49
  interfaces := #[]
  cf := some (fileOf pool15 14 #[.nestMembers #[975, 375, 113, 74]] #[{ accessFlags := 2, nameIndex := 5, descriptorIndex := 6, attributes := #[] }, { accessFlags := 10, nameIndex := 345, descriptorIndex := 346, attributes := #[] }, { accessFlags := 9, nameIndex := 139, descriptorIndex := 342, attributes := #[] }, { accessFlags := 10, nameIndex := 341, descriptorIndex := 342, attributes := #[] }] 49 2 #[] #[{ accessFlags := 26, nameIndex := 715, descriptorIndex := 716, attributes := #[] }, { accessFlags := 26, nameIndex := 719, descriptorIndex := 716, attributes := #[] }, { accessFlags := 4120, nameIndex := 445, descriptorIndex := 117, attributes := #[] }])
  fields := #[{ name := "MIN_ARRAY_SORT_GRAN", type := .int, accessFlags := 26, slot := 0, constantValue := 0 }, { name := "INSERTIONSORT_THRESHOLD", type := .int, accessFlags := 26, slot := 1, constantValue := 0 }, { name := "$assertionsDisabled", type := .boolean, accessFlags := 4120, slot := 2, constantValue := 0 }]
  methods := #[k15m0, k15m1, k15m2, k15m3]
  instanceTypes := #[]
  staticTypes := #[.int, .int, .boolean]
  resolved := Array.replicate 1029 none
  statics := none }

def pool16 : Array CpInfo := pool [(1, .class_ 2), (0, u "java/lang/Math"), (1, .class_ 6), (1, u "java/lang/Object"), (0, u "<init>"), (0, u "()V"), (89, .class_ 100), (1, u "java/lang/Math$RandomNumberGeneratorHolder"), (71, u "negativeZeroFloatBits"), (0, u "J"), (2, u "negativeZeroDoubleBits"), (24, u "min"), (43, u "$assertionsDisabled"), (0, u "Z"), (88, u "(II)I"), (2, u "twoToTheDoubleScaleDown"), (0, u "D"), (4, u "twoToTheDoubleScaleUp"), (9, u "E"), (3, u "PI"), (2, u "TAU"), (2, u "DEGREES_TO_RADIANS"), (0, u "RADIANS_TO_DEGREES")] 94

def k16m0 : Method := { name := "<init>", desc := "()V", sig := { parameters := [], returnType := none }, accessFlags := 2, code := none }
def k16c1 : Code := { maxStack := 2, maxLocals := 2, code := jdk_29_method_69_code, exceptionTable := #[], attributes := #[] }
def k16m1 : Method := { name := "min", desc := "(II)I", sig := { parameters := [.int, .int], returnType := some .int }, accessFlags := 9, code := some k16c1 }
/-- java/lang/Math -/
def k16 : Class := { plain "java/lang/Math" (some 0) with
  accessFlags := 49
  interfaces := #[]
  cf := some (fileOf pool16 1 #[.nestMembers #[98]] #[{ accessFlags := 2, nameIndex := 7, descriptorIndex := 8, attributes := #[] }, { accessFlags := 9, nameIndex := 201, descriptorIndex := 335, attributes := #[] }] 49 4 #[] #[{ accessFlags := 25, nameIndex := 354, descriptorIndex := 339, attributes := #[] }, { accessFlags := 25, nameIndex := 358, descriptorIndex := 339, attributes := #[] }, { accessFlags := 25, nameIndex := 361, descriptorIndex := 339, attributes := #[] }, { accessFlags := 26, nameIndex := 364, descriptorIndex := 339, attributes := #[] }, { accessFlags := 26, nameIndex := 365, descriptorIndex := 339, attributes := #[] }, { accessFlags := 26, nameIndex := 172, descriptorIndex := 173, attributes := #[] }, { accessFlags := 26, nameIndex := 176, descriptorIndex := 173, attributes := #[] }, { accessFlags := 8, nameIndex := 344, descriptorIndex := 339, attributes := #[] }, { accessFlags := 8, nameIndex := 338, descriptorIndex := 339, attributes := #[] }, { accessFlags := 4120, nameIndex := 245, descriptorIndex := 246, attributes := #[] }])
  fields := #[{ name := "E", type := .double, accessFlags := 25, slot := 0, constantValue := 0 }, { name := "PI", type := .double, accessFlags := 25, slot := 1, constantValue := 0 }, { name := "TAU", type := .double, accessFlags := 25, slot := 2, constantValue := 0 }, { name := "DEGREES_TO_RADIANS", type := .double, accessFlags := 26, slot := 3, constantValue := 0 }, { name := "RADIANS_TO_DEGREES", type := .double, accessFlags := 26, slot := 4, constantValue := 0 }, { name := "negativeZeroFloatBits", type := .long, accessFlags := 26, slot := 5, constantValue := 0 }, { name := "negativeZeroDoubleBits", type := .long, accessFlags := 26, slot := 6, constantValue := 0 }, { name := "twoToTheDoubleScaleUp", type := .double, accessFlags := 8, slot := 7, constantValue := 0 }, { name := "twoToTheDoubleScaleDown", type := .double, accessFlags := 8, slot := 8, constantValue := 0 }, { name := "$assertionsDisabled", type := .boolean, accessFlags := 4120, slot := 9, constantValue := 0 }]
  methods := #[k16m0, k16m1]
  instanceTypes := #[]
  staticTypes := #[.double, .double, .double, .double, .double, .long, .long, .double, .double, .boolean]
  resolved := Array.replicate 460 none
  statics := none }

def pool17 : Array CpInfo := pool [(4, .class_ 6), (1, u "java/lang/Object"), (0, u "<init>"), (0, u "()V"), (5, .class_ 16), (1, u "java/lang/StringLatin1"), (104, u "$assertionsDisabled"), (0, u "Z"), (98, .class_ 223), (1, u "java/lang/StringLatin1$LinesSpliterator"), (57, u "equals"), (0, u "([B[B)Z"), (107, .class_ 391), (0, u "java/lang/StringLatin1$CharsSpliterator")] 3

def k17m0 : Method := { name := "<init>", desc := "()V", sig := { parameters := [], returnType := none }, accessFlags := 0, code := none }
def k17c1 : Code := { maxStack := 3, maxLocals := 3, code := jdk_43_method_13_code, exceptionTable := #[], attributes := #[] }
def k17m1 : Method := { name := "equals", desc := "([B[B)Z", sig := { parameters := [(.array .byte), (.array .byte)], returnType := some .boolean }, accessFlags := 9, code := some k17c1 }
/-- java/lang/StringLatin1 -/
def k17 : Class := { plain "java/lang/StringLatin1" (some 0) with
  accessFlags := 48
  interfaces := #[]
  cf := some (fileOf pool17 14 #[.nestMembers #[390, 221]] #[{ accessFlags := 0, nameIndex := 7, descriptorIndex := 8, attributes := #[] }, { accessFlags := 9, nameIndex := 281, descriptorIndex := 282, attributes := #[] }] 48 4 #[] #[{ accessFlags := 4120, nameIndex := 121, descriptorIndex := 122, attributes := #[] }])
  fields := #[{ name := "$assertionsDisabled", type := .boolean, accessFlags := 4120, slot := 0, constantValue := 0 }]
  methods := #[k17m0, k17m1]
  instanceTypes := #[]
  staticTypes := #[.boolean]
  resolved := Array.replicate 395 none
  statics := none }

def pool18 : Array CpInfo := pool [(2, .class_ 4), (1, u "java/lang/Object"), (0, u "<init>"), (0, u "()V"), (17, .class_ 26), (1, u "jdk/internal/util/Preconditions"), (28, .class_ 56), (0, u "jdk/internal/util/Preconditions$4"), (57, .class_ 115), (0, u "jdk/internal/util/Preconditions$1"), (7, u "SIOOBE_FORMATTER"), (0, u "Ljava/util/function/BiFunction;"), (0, .class_ 126), (0, u "jdk/internal/util/Preconditions$2"), (3, u "AIOOBE_FORMATTER"), (0, .class_ 132), (0, u "jdk/internal/util/Preconditions$3"), (3, u "IOOBE_FORMATTER")] 57

def k18m0 : Method := { name := "<init>", desc := "()V", sig := { parameters := [], returnType := none }, accessFlags := 1, code := none }
/-- jdk/internal/util/Preconditions -/
def k18 : Class := { plain "jdk/internal/util/Preconditions" (some 0) with
  accessFlags := 33
  interfaces := #[]
  cf := some (fileOf pool18 24 #[.nestMembers #[55, 131, 125, 114]] #[{ accessFlags := 1, nameIndex := 5, descriptorIndex := 6, attributes := #[] }] 33 2 #[] #[{ accessFlags := 25, nameIndex := 123, descriptorIndex := 124, attributes := #[] }, { accessFlags := 25, nameIndex := 130, descriptorIndex := 124, attributes := #[] }, { accessFlags := 25, nameIndex := 136, descriptorIndex := 124, attributes := #[] }])
  fields := #[{ name := "SIOOBE_FORMATTER", type := (.object "java/util/function/BiFunction"), accessFlags := 25, slot := 0, constantValue := 0 }, { name := "AIOOBE_FORMATTER", type := (.object "java/util/function/BiFunction"), accessFlags := 25, slot := 1, constantValue := 0 }, { name := "IOOBE_FORMATTER", type := (.object "java/util/function/BiFunction"), accessFlags := 25, slot := 2, constantValue := 0 }]
  methods := #[k18m0]
  instanceTypes := #[]
  staticTypes := #[(.object "java/util/function/BiFunction"), (.object "java/util/function/BiFunction"), (.object "java/util/function/BiFunction")]
  resolved := Array.replicate 194 none
  statics := some 1 }

def pool19 : Array CpInfo := pool [(9, u "<init>"), (6, .class_ 18), (1, u "java/lang/Object"), (0, u "()V"), (1, .class_ 23), (1, u "jdk/internal/util/ArraysSupport"), (0, u "LOG2_ARRAY_LONG_INDEX_SCALE"), (0, u "I"), (2, u "U"), (0, u "Ljdk/internal/misc/Unsafe;"), (8, u "BIG_ENDIAN"), (0, u "Z"), (8, u "LOG2_BYTE_BIT_SIZE"), (4, u "LOG2_ARRAY_INT_INDEX_SCALE"), (54, u "JLA"), (0, u "Ljdk/internal/access/JavaLangAccess;"), (11, u "LOG2_ARRAY_BOOLEAN_INDEX_SCALE"), (9, u "LOG2_ARRAY_BYTE_INDEX_SCALE"), (5, u "LOG2_ARRAY_CHAR_INDEX_SCALE"), (5, u "LOG2_ARRAY_SHORT_INDEX_SCALE"), (18, u "LOG2_ARRAY_FLOAT_INDEX_SCALE"), (24, u "LOG2_ARRAY_DOUBLE_INDEX_SCALE"), (89, u "T_BOOLEAN"), (2, u "T_CHAR"), (1, u "T_FLOAT"), (1, u "T_DOUBLE"), (1, u "T_BYTE"), (1, u "T_SHORT"), (1, u "T_INT"), (1, u "T_LONG"), (1, u "SOFT_MAX_ARRAY_LENGTH")] 83

def k19m0 : Method := { name := "<init>", desc := "()V", sig := { parameters := [], returnType := none }, accessFlags := 2, code := none }
/-- jdk/internal/util/ArraysSupport -/
def k19 : Class := { plain "jdk/internal/util/ArraysSupport" (some 0) with
  accessFlags := 33
  interfaces := #[]
  cf := some (fileOf pool19 21 #[] #[{ accessFlags := 2, nameIndex := 9, descriptorIndex := 19, attributes := #[] }] 33 16 #[] #[{ accessFlags := 24, nameIndex := 28, descriptorIndex := 29, attributes := #[] }, { accessFlags := 26, nameIndex := 38, descriptorIndex := 39, attributes := #[] }, { accessFlags := 25, nameIndex := 121, descriptorIndex := 25, attributes := #[] }, { accessFlags := 25, nameIndex := 131, descriptorIndex := 25, attributes := #[] }, { accessFlags := 25, nameIndex := 137, descriptorIndex := 25, attributes := #[] }, { accessFlags := 25, nameIndex := 143, descriptorIndex := 25, attributes := #[] }, { accessFlags := 25, nameIndex := 53, descriptorIndex := 25, attributes := #[] }, { accessFlags := 25, nameIndex := 24, descriptorIndex := 25, attributes := #[] }, { accessFlags := 25, nameIndex := 162, descriptorIndex := 25, attributes := #[] }, { accessFlags := 25, nameIndex := 187, descriptorIndex := 25, attributes := #[] }, { accessFlags := 26, nameIndex := 48, descriptorIndex := 25, attributes := #[] }, { accessFlags := 25, nameIndex := 277, descriptorIndex := 25, attributes := #[] }, { accessFlags := 25, nameIndex := 280, descriptorIndex := 25, attributes := #[] }, { accessFlags := 25, nameIndex := 282, descriptorIndex := 25, attributes := #[] }, { accessFlags := 25, nameIndex := 284, descriptorIndex := 25, attributes := #[] }, { accessFlags := 25, nameIndex := 286, descriptorIndex := 25, attributes := #[] }, { accessFlags := 25, nameIndex := 288, descriptorIndex := 25, attributes := #[] }, { accessFlags := 25, nameIndex := 290, descriptorIndex := 25, attributes := #[] }, { accessFlags := 25, nameIndex := 292, descriptorIndex := 25, attributes := #[] }, { accessFlags := 26, nameIndex := 108, descriptorIndex := 109, attributes := #[] }, { accessFlags := 25, nameIndex := 294, descriptorIndex := 25, attributes := #[] }])
  fields := #[{ name := "U", type := (.object "jdk/internal/misc/Unsafe"), accessFlags := 24, slot := 0, constantValue := 0 }, { name := "BIG_ENDIAN", type := .boolean, accessFlags := 26, slot := 1, constantValue := 0 }, { name := "LOG2_ARRAY_BOOLEAN_INDEX_SCALE", type := .int, accessFlags := 25, slot := 2, constantValue := 0 }, { name := "LOG2_ARRAY_BYTE_INDEX_SCALE", type := .int, accessFlags := 25, slot := 3, constantValue := 0 }, { name := "LOG2_ARRAY_CHAR_INDEX_SCALE", type := .int, accessFlags := 25, slot := 4, constantValue := 0 }, { name := "LOG2_ARRAY_SHORT_INDEX_SCALE", type := .int, accessFlags := 25, slot := 5, constantValue := 0 }, { name := "LOG2_ARRAY_INT_INDEX_SCALE", type := .int, accessFlags := 25, slot := 6, constantValue := 0 }, { name := "LOG2_ARRAY_LONG_INDEX_SCALE", type := .int, accessFlags := 25, slot := 7, constantValue := 0 }, { name := "LOG2_ARRAY_FLOAT_INDEX_SCALE", type := .int, accessFlags := 25, slot := 8, constantValue := 0 }, { name := "LOG2_ARRAY_DOUBLE_INDEX_SCALE", type := .int, accessFlags := 25, slot := 9, constantValue := 0 }, { name := "LOG2_BYTE_BIT_SIZE", type := .int, accessFlags := 26, slot := 10, constantValue := 0 }, { name := "T_BOOLEAN", type := .int, accessFlags := 25, slot := 11, constantValue := 0 }, { name := "T_CHAR", type := .int, accessFlags := 25, slot := 12, constantValue := 0 }, { name := "T_FLOAT", type := .int, accessFlags := 25, slot := 13, constantValue := 0 }, { name := "T_DOUBLE", type := .int, accessFlags := 25, slot := 14, constantValue := 0 }, { name := "T_BYTE", type := .int, accessFlags := 25, slot := 15, constantValue := 0 }, { name := "T_SHORT", type := .int, accessFlags := 25, slot := 16, constantValue := 0 }, { name := "T_INT", type := .int, accessFlags := 25, slot := 17, constantValue := 0 }, { name := "T_LONG", type := .int, accessFlags := 25, slot := 18, constantValue := 0 }, { name := "JLA", type := (.object "jdk/internal/access/JavaLangAccess"), accessFlags := 26, slot := 19, constantValue := 0 }, { name := "SOFT_MAX_ARRAY_LENGTH", type := .int, accessFlags := 25, slot := 20, constantValue := 0 }]
  methods := #[k19m0]
  instanceTypes := #[]
  staticTypes := #[(.object "jdk/internal/misc/Unsafe"), .boolean, .int, .int, .int, .int, .int, .int, .int, .int, .int, .int, .int, .int, .int, .int, .int, .int, .int, (.object "jdk/internal/access/JavaLangAccess"), .int]
  resolved := Array.replicate 378 none
  statics := none }

def pool20 : Array CpInfo := pool [(1, u "java/lang/Cloneable"), (0, .class_ 1), (0, u "java/lang/Object"), (0, .class_ 3)] 3

/-- java/lang/Cloneable -/
def k20 : Class := { plain "java/lang/Cloneable" (some 0) with
  accessFlags := 1537
  interfaces := #[]
  cf := some (fileOf pool20 2 #[] #[] 1537 4 #[] #[])
  fields := #[]
  methods := #[]
  instanceTypes := #[]
  staticTypes := #[]
  resolved := Array.replicate 8 none
  statics := none }

/-- the primitive byte -/
def k21 : Class := { plain "byte" none with kind := .primitive 'B', accessFlags := 0x411 }
/-- [B -/
def k22 : Class := { plain "[B" (some 0) with kind := .array 21 .byte, interfaces := #[20, 2], accessFlags := 1041 }

/-- the primitive char -/
def k23 : Class := { plain "char" none with kind := .primitive 'C', accessFlags := 0x411 }
/-- [C -/
def k24 : Class := { plain "[C" (some 0) with kind := .array 23 .char, interfaces := #[20, 2], accessFlags := 1041 }

/-- the primitive int -/
def k25 : Class := { plain "int" none with kind := .primitive 'I', accessFlags := 0x411 }
/-- [I -/
def k26 : Class := { plain "[I" (some 0) with kind := .array 25 .int, interfaces := #[20, 2], accessFlags := 1041 }

def heap : Heap := #[{ cls := 7, slots := #[.long 0, .int 1, .null, .int 0, .null, .int 0, .int 0], vm := .statics 7 },
  { cls := 18, slots := #[.null, .null, .null], vm := .statics 18 }]
def classes : Array Class := #[k0, k1, k2, k3, k4, k5, k6, k7, k8, k9, k10, k11, k12, k13, k14, k15, k16, k17, k18, k19, k20, k21, k22, k23, k24, k25, k26]
def interned : List (Array UInt16 × Addr) := []
def slotsUsed : Nat := 10
def theMethod : MethodId := ⟨1, 2⟩
def args0 : Array Value := #[.int 97, .int 98, .int 99, .int 100, .int 101, .int 5]
def aboutOver (below : List Frame) : State where
  vm := { classes := classes, interned := interned.toArray }
  heap := heap
  slotsUsed := slotsUsed
  threads := #[{ frames := .invoking theMethod args0 :: below }]
def below0 : List Frame := [.native { method := ⟨0, 0⟩, args := #[] }]
def about1 : State := aboutOver below0
def p0 : Program := .bare "" "" ""
def e0 : Env := launch0.env 0 0 0
theorem w_frames : about1.frames = Frame.invoking theMethod args0 :: below0 := rfl
set_option maxRecDepth 65536 in
theorem w_args : argsFit about1.vm theMethod args0 = true := by decide +kernel
set_option maxRecDepth 65536 in
theorem w_heap : heapFits about1 = true := by decide +kernel
set_option maxRecDepth 65536 in
theorem w_runnable : about1.curStatus? = some .runnable := by decide +kernel
set_option maxRecDepth 65536 in
theorem w_alone : about1.alone = true := by decide +kernel
set_option maxRecDepth 65536 in
theorem w_named : about1.methodNamed? x = some theMethod := by decide +kernel
set_option maxRecDepth 65536 in
theorem w_hears : about1.hears theMethod below0 = true := by decide +kernel
set_option maxRecDepth 65536 in
theorem w_ripe : about1.ripe theMethod args0 below0 = true := by decide +kernel
theorem w_running : about1.status = .running := rfl
set_option maxRecDepth 65536 in
theorem w_room : about1.hasRoom e0.platform room_1 = true :=
  launch0.hasRoom_least _ room_1 (by decide +kernel) (by decide +kernel) (by decide +kernel) (by decide +kernel) (by decide +kernel) (by decide +kernel)
theorem allAtoms_all (ts : List Jvm.Cond) (a : Array Jvm.Value) (st : Jvm.State) : (allAtoms ts).before a st = ts.all (fun c => c.before a st) := by
  induction ts with
  | nil => rfl
  | cons c t ih =>
    show (Jvm.Cond.and c (allAtoms t)).before a st = _
    rw [Jvm.Cond.before_and, ih, List.all_cons]
def words1 : List Jvm.Cond := Jvm.Cond.code x code maxLocals ret :: tables_1
/-- a 'code' word, met by the world's own term for the bytes: nothing is compared byte by byte -/
theorem code_word {y : MethodName} {bytes : ByteArray} {mx : Nat} {rt : Option FieldType} {a : Array Value} {s : State} {m : MethodId} {meth : Method} {c : Code} (h1 : s.methodNamed? y = some m) (h2 : s.vm.method? m = some meth) (h3 : meth.code = some c) (h4 : c.code = bytes)
    (h5 : (c.maxLocals == mx && c.exceptionTable.isEmpty && decide (c.maxStack ≤ mostOperands) && decide (meth.sig.returnType = rt) && !meth.locks && decide (parseMethodDescriptor y.desc = some meth.sig)) = true) : (Jvm.Cond.code y bytes mx rt).before a s = true := by
  simp only [Bool.and_eq_true, beq_iff_eq, Bool.not_eq_true', decide_eq_true_eq] at h5
  obtain ⟨⟨⟨⟨⟨g1, g2⟩, g3⟩, g4⟩, g5⟩, g6⟩ := h5
  simp [Cond.before, Cond.holds, Cond.value, h1, h2, h3, h4, g1, g2, g3, g4, g5, g6]
def isCode : Jvm.Cond → Bool
  | .code _ _ _ _ => true
  | _ => false
theorem all_split {L : List Jvm.Cond} {P : Jvm.Cond → Bool} (h1 : L.all (fun c => isCode c || P c) = true) (h2 : ∀ c ∈ L.filter isCode, P c = true) : L.all P = true := by
  refine List.all_eq_true.mpr fun c hc => ?_
  have h := List.all_eq_true.mp h1 c hc
  rcases Bool.eq_false_or_eq_true (isCode c) with hi | hi
  · exact h2 c (List.mem_filter.mpr ⟨hc, hi⟩)
  · simpa [hi] using h
set_option maxRecDepth 65536 in
theorem w_c0 : (Jvm.Cond.code x code maxLocals ret).before args0 about1 = true := code_word (m := ⟨1, 2⟩) (meth := k1m2) (c := k1c2) (by decide +kernel) rfl rfl rfl (by decide +kernel)
set_option maxRecDepth 65536 in
theorem w_c1 : (Jvm.Cond.code ({ cls := "com/example/isomorph/isomorph/MethodNameToStringPinLaw", name := "str", desc := "(ICCC)Ljava/lang/String;" } : Jvm.MethodName) method_2_code (4 : Nat) (Option.some (Jvm.ClassFile.FieldType.object "java/lang/String"))).before args0 about1 = true := code_word (m := ⟨1, 1⟩) (meth := k1m1) (c := k1c1) (by decide +kernel) rfl rfl rfl (by decide +kernel)
set_option maxRecDepth 65536 in
theorem w_c2 : (Jvm.Cond.code ({ cls := "java/lang/String", name := "<init>", desc := "([C)V" } : Jvm.MethodName) jdk_42_method_3_code (2 : Nat) (Option.none : Option Jvm.ClassFile.FieldType)).before args0 about1 = true := code_word (m := ⟨7, 1⟩) (meth := k7m1) (c := k7c1) (by decide +kernel) rfl rfl rfl (by decide +kernel)
set_option maxRecDepth 65536 in
theorem w_c3 : (Jvm.Cond.code ({ cls := "java/lang/String", name := "<init>", desc := "([CIILjava/lang/Void;)V" } : Jvm.MethodName) jdk_42_method_149_code (6 : Nat) (Option.none : Option Jvm.ClassFile.FieldType)).before args0 about1 = true := code_word (m := ⟨7, 6⟩) (meth := k7m6) (c := k7c6) (by decide +kernel) rfl rfl rfl (by decide +kernel)
set_option maxRecDepth 65536 in
theorem w_c4 : (Jvm.Cond.code ({ cls := "java/lang/Object", name := "<init>", desc := "()V" } : Jvm.MethodName) object_method_1_code (1 : Nat) (Option.none : Option Jvm.ClassFile.FieldType)).before args0 about1 = true := code_word (m := ⟨0, 0⟩) (meth := k0m0) (c := k0c0) (by decide +kernel) rfl rfl rfl (by decide +kernel)
set_option maxRecDepth 65536 in
theorem w_c5 : (Jvm.Cond.code ({ cls := "java/lang/StringUTF16", name := "compress", desc := "([CII)[B" } : Jvm.MethodName) jdk_52_method_16_code (6 : Nat) (Option.some (Jvm.ClassFile.FieldType.array Jvm.ClassFile.FieldType.byte))).before args0 about1 = true := code_word (m := ⟨8, 2⟩) (meth := k8m2) (c := k8c2) (by decide +kernel) rfl rfl rfl (by decide +kernel)
set_option maxRecDepth 65536 in
theorem w_c6 : (Jvm.Cond.code ({ cls := "java/lang/StringUTF16", name := "compress", desc := "([CI[BII)I" } : Jvm.MethodName) jdk_52_method_21_code (7 : Nat) (Option.some Jvm.ClassFile.FieldType.int)).before args0 about1 = true := code_word (m := ⟨8, 3⟩) (meth := k8m3) (c := k8c3) (by decide +kernel) rfl rfl rfl (by decide +kernel)
set_option maxRecDepth 65536 in
theorem w_c7 : (Jvm.Cond.code ({ cls := "java/lang/StringUTF16", name := "coderFromArrayLen", desc := "([BI)B" } : Jvm.MethodName) jdk_52_method_15_code (2 : Nat) (Option.some Jvm.ClassFile.FieldType.byte)).before args0 about1 = true := code_word (m := ⟨8, 1⟩) (meth := k8m1) (c := k8c1) (by decide +kernel) rfl rfl rfl (by decide +kernel)
set_option maxRecDepth 65536 in
theorem w_c8 : (Jvm.Cond.code ({ cls := "com/example/isomorph/isomorph/MethodName", name := "<init>", desc := "(Ljava/lang/String;Ljava/lang/String;)V" } : Jvm.MethodName) prog_2_method_1_code (3 : Nat) (Option.none : Option Jvm.ClassFile.FieldType)).before args0 about1 = true := code_word (m := ⟨10, 0⟩) (meth := k10m0) (c := k10c0) (by decide +kernel) rfl rfl rfl (by decide +kernel)
set_option maxRecDepth 65536 in
theorem w_c9 : (Jvm.Cond.code ({ cls := "java/lang/Record", name := "<init>", desc := "()V" } : Jvm.MethodName) jdk_30_method_1_code (1 : Nat) (Option.none : Option Jvm.ClassFile.FieldType)).before args0 about1 = true := code_word (m := ⟨9, 0⟩) (meth := k9m0) (c := k9c0) (by decide +kernel) rfl rfl rfl (by decide +kernel)
set_option maxRecDepth 65536 in
theorem w_c10 : (Jvm.Cond.code ({ cls := "com/example/isomorph/isomorph/MethodName", name := "toString", desc := "()Ljava/lang/String;" } : Jvm.MethodName) prog_2_method_5_code (1 : Nat) (Option.some (Jvm.ClassFile.FieldType.object "java/lang/String"))).before args0 about1 = true := code_word (m := ⟨10, 1⟩) (meth := k10m1) (c := k10c1) (by decide +kernel) rfl rfl rfl (by decide +kernel)
set_option maxRecDepth 65536 in
theorem w_c11 : (Jvm.Cond.code ({ cls := "java/lang/StringBuilder", name := "<init>", desc := "()V" } : Jvm.MethodName) jdk_67_method_1_code (1 : Nat) (Option.none : Option Jvm.ClassFile.FieldType)).before args0 about1 = true := code_word (m := ⟨13, 0⟩) (meth := k13m0) (c := k13c0) (by decide +kernel) rfl rfl rfl (by decide +kernel)
set_option maxRecDepth 65536 in
theorem w_c12 : (Jvm.Cond.code ({ cls := "java/lang/AbstractStringBuilder", name := "<init>", desc := "(I)V" } : Jvm.MethodName) jdk_68_method_2_code (2 : Nat) (Option.none : Option Jvm.ClassFile.FieldType)).before args0 about1 = true := code_word (m := ⟨12, 1⟩) (meth := k12m1) (c := k12c1) (by decide +kernel) rfl rfl rfl (by decide +kernel)
set_option maxRecDepth 65536 in
theorem w_c13 : (Jvm.Cond.code ({ cls := "java/lang/StringBuilder", name := "append", desc := "(Ljava/lang/String;)Ljava/lang/StringBuilder;" } : Jvm.MethodName) jdk_67_method_7_code (2 : Nat) (Option.some (Jvm.ClassFile.FieldType.object "java/lang/StringBuilder"))).before args0 about1 = true := code_word (m := ⟨13, 1⟩) (meth := k13m1) (c := k13c1) (by decide +kernel) rfl rfl rfl (by decide +kernel)
set_option maxRecDepth 65536 in
theorem w_c14 : (Jvm.Cond.code ({ cls := "java/lang/AbstractStringBuilder", name := "append", desc := "(Ljava/lang/String;)Ljava/lang/AbstractStringBuilder;" } : Jvm.MethodName) jdk_68_method_22_code (3 : Nat) (Option.some (Jvm.ClassFile.FieldType.object "java/lang/AbstractStringBuilder"))).before args0 about1 = true := code_word (m := ⟨12, 4⟩) (meth := k12m4) (c := k12c4) (by decide +kernel) rfl rfl rfl (by decide +kernel)
set_option maxRecDepth 65536 in
theorem w_c15 : (Jvm.Cond.code ({ cls := "java/lang/String", name := "length", desc := "()I" } : Jvm.MethodName) jdk_42_method_54_code (1 : Nat) (Option.some Jvm.ClassFile.FieldType.int)).before args0 about1 = true := code_word (m := ⟨7, 3⟩) (meth := k7m3) (c := k7c3) (by decide +kernel) rfl rfl rfl (by decide +kernel)
set_option maxRecDepth 65536 in
theorem w_c16 : (Jvm.Cond.code ({ cls := "java/lang/String", name := "coder", desc := "()B" } : Jvm.MethodName) jdk_42_method_152_code (1 : Nat) (Option.some Jvm.ClassFile.FieldType.byte)).before args0 about1 = true := code_word (m := ⟨7, 8⟩) (meth := k7m8) (c := k7c8) (by decide +kernel) rfl rfl rfl (by decide +kernel)
set_option maxRecDepth 65536 in
theorem w_c17 : (Jvm.Cond.code ({ cls := "java/lang/AbstractStringBuilder", name := "ensureCapacityInternal", desc := "(I)V" } : Jvm.MethodName) jdk_68_method_9_code (3 : Nat) (Option.none : Option Jvm.ClassFile.FieldType)).before args0 about1 = true := code_word (m := ⟨12, 3⟩) (meth := k12m3) (c := k12c3) (by decide +kernel) rfl rfl rfl (by decide +kernel)
set_option maxRecDepth 65536 in
theorem w_c18 : (Jvm.Cond.code ({ cls := "java/lang/AbstractStringBuilder", name := "putStringAt", desc := "(ILjava/lang/String;)V" } : Jvm.MethodName) jdk_68_method_73_code (3 : Nat) (Option.none : Option Jvm.ClassFile.FieldType)).before args0 about1 = true := code_word (m := ⟨12, 8⟩) (meth := k12m8) (c := k12c8) (by decide +kernel) rfl rfl rfl (by decide +kernel)
set_option maxRecDepth 65536 in
theorem w_c19 : (Jvm.Cond.code ({ cls := "java/lang/AbstractStringBuilder", name := "inflateIfNeededFor", desc := "(Ljava/lang/String;)V" } : Jvm.MethodName) jdk_68_method_71_code (2 : Nat) (Option.none : Option Jvm.ClassFile.FieldType)).before args0 about1 = true := code_word (m := ⟨12, 7⟩) (meth := k12m7) (c := k12c7) (by decide +kernel) rfl rfl rfl (by decide +kernel)
set_option maxRecDepth 65536 in
theorem w_c20 : (Jvm.Cond.code ({ cls := "java/lang/String", name := "getBytes", desc := "([BIB)V" } : Jvm.MethodName) jdk_42_method_147_code (4 : Nat) (Option.none : Option Jvm.ClassFile.FieldType)).before args0 about1 = true := code_word (m := ⟨7, 5⟩) (meth := k7m5) (c := k7c5) (by decide +kernel) rfl rfl rfl (by decide +kernel)
set_option maxRecDepth 65536 in
theorem w_c21 : (Jvm.Cond.code ({ cls := "java/lang/StringBuilder", name := "toString", desc := "()Ljava/lang/String;" } : Jvm.MethodName) jdk_67_method_42_code (1 : Nat) (Option.some (Jvm.ClassFile.FieldType.object "java/lang/String"))).before args0 about1 = true := code_word (m := ⟨13, 2⟩) (meth := k13m2) (c := k13c2) (by decide +kernel) rfl rfl rfl (by decide +kernel)
set_option maxRecDepth 65536 in
theorem w_c22 : (Jvm.Cond.code ({ cls := "java/lang/String", name := "<init>", desc := "(Ljava/lang/StringBuilder;)V" } : Jvm.MethodName) jdk_42_method_53_code (2 : Nat) (Option.none : Option Jvm.ClassFile.FieldType)).before args0 about1 = true := code_word (m := ⟨7, 2⟩) (meth := k7m2) (c := k7c2) (by decide +kernel) rfl rfl rfl (by decide +kernel)
set_option maxRecDepth 65536 in
theorem w_c23 : (Jvm.Cond.code ({ cls := "java/lang/String", name := "<init>", desc := "(Ljava/lang/AbstractStringBuilder;Ljava/lang/Void;)V" } : Jvm.MethodName) jdk_42_method_150_code (5 : Nat) (Option.none : Option Jvm.ClassFile.FieldType)).before args0 about1 = true := code_word (m := ⟨7, 7⟩) (meth := k7m7) (c := k7c7) (by decide +kernel) rfl rfl rfl (by decide +kernel)
set_option maxRecDepth 65536 in
theorem w_c24 : (Jvm.Cond.code ({ cls := "java/lang/AbstractStringBuilder", name := "getValue", desc := "()[B" } : Jvm.MethodName) jdk_68_method_64_code (1 : Nat) (Option.some (Jvm.ClassFile.FieldType.array Jvm.ClassFile.FieldType.byte))).before args0 about1 = true := code_word (m := ⟨12, 5⟩) (meth := k12m5) (c := k12c5) (by decide +kernel) rfl rfl rfl (by decide +kernel)
set_option maxRecDepth 65536 in
theorem w_c25 : (Jvm.Cond.code ({ cls := "java/lang/StringBuilder", name := "length", desc := "()I" } : Jvm.MethodName) jdk_67_method_93_code (1 : Nat) (Option.some Jvm.ClassFile.FieldType.int)).before args0 about1 = true := code_word (m := ⟨13, 3⟩) (meth := k13m3) (c := k13c3) (by decide +kernel) rfl rfl rfl (by decide +kernel)
set_option maxRecDepth 65536 in
theorem w_c26 : (Jvm.Cond.code ({ cls := "java/lang/AbstractStringBuilder", name := "length", desc := "()I" } : Jvm.MethodName) jdk_68_method_6_code (1 : Nat) (Option.some Jvm.ClassFile.FieldType.int)).before args0 about1 = true := code_word (m := ⟨12, 2⟩) (meth := k12m2) (c := k12c2) (by decide +kernel) rfl rfl rfl (by decide +kernel)
set_option maxRecDepth 65536 in
theorem w_c27 : (Jvm.Cond.code ({ cls := "java/lang/AbstractStringBuilder", name := "isLatin1", desc := "()Z" } : Jvm.MethodName) jdk_68_method_68_code (1 : Nat) (Option.some Jvm.ClassFile.FieldType.boolean)).before args0 about1 = true := code_word (m := ⟨12, 6⟩) (meth := k12m6) (c := k12c6) (by decide +kernel) rfl rfl rfl (by decide +kernel)
set_option maxRecDepth 65536 in
theorem w_c28 : (Jvm.Cond.code ({ cls := "java/util/Arrays", name := "copyOfRange", desc := "([BII)[B" } : Jvm.MethodName) jdk_65_method_132_code (3 : Nat) (Option.some (Jvm.ClassFile.FieldType.array Jvm.ClassFile.FieldType.byte))).before args0 about1 = true := code_word (m := ⟨15, 2⟩) (meth := k15m2) (c := k15c2) (by decide +kernel) rfl rfl rfl (by decide +kernel)
set_option maxRecDepth 65536 in
theorem w_c29 : (Jvm.Cond.code ({ cls := "java/util/Arrays", name := "copyOfRangeByte", desc := "([BII)[B" } : Jvm.MethodName) jdk_65_method_133_code (5 : Nat) (Option.some (Jvm.ClassFile.FieldType.array Jvm.ClassFile.FieldType.byte))).before args0 about1 = true := code_word (m := ⟨15, 3⟩) (meth := k15m3) (c := k15c3) (by decide +kernel) rfl rfl rfl (by decide +kernel)
set_option maxRecDepth 65536 in
theorem w_c30 : (Jvm.Cond.code ({ cls := "java/util/Arrays", name := "checkLength", desc := "(II)V" } : Jvm.MethodName) jdk_65_method_131_code (2 : Nat) (Option.none : Option Jvm.ClassFile.FieldType)).before args0 about1 = true := code_word (m := ⟨15, 1⟩) (meth := k15m1) (c := k15c1) (by decide +kernel) rfl rfl rfl (by decide +kernel)
set_option maxRecDepth 65536 in
theorem w_c31 : (Jvm.Cond.code ({ cls := "java/lang/Math", name := "min", desc := "(II)I" } : Jvm.MethodName) jdk_29_method_69_code (2 : Nat) (Option.some Jvm.ClassFile.FieldType.int)).before args0 about1 = true := code_word (m := ⟨16, 1⟩) (meth := k16m1) (c := k16c1) (by decide +kernel) rfl rfl rfl (by decide +kernel)
set_option maxRecDepth 65536 in
theorem w_c32 : (Jvm.Cond.code ({ cls := "java/lang/String", name := "equals", desc := "(Ljava/lang/Object;)Z" } : Jvm.MethodName) jdk_42_method_66_code (3 : Nat) (Option.some Jvm.ClassFile.FieldType.boolean)).before args0 about1 = true := code_word (m := ⟨7, 4⟩) (meth := k7m4) (c := k7c4) (by decide +kernel) rfl rfl rfl (by decide +kernel)
set_option maxRecDepth 65536 in
theorem w_c33 : (Jvm.Cond.code ({ cls := "java/lang/StringLatin1", name := "equals", desc := "([B[B)Z" } : Jvm.MethodName) jdk_43_method_13_code (3 : Nat) (Option.some Jvm.ClassFile.FieldType.boolean)).before args0 about1 = true := code_word (m := ⟨17, 1⟩) (meth := k17m1) (c := k17c1) (by decide +kernel) rfl rfl rfl (by decide +kernel)
def codes1 : List Jvm.Cond := [Jvm.Cond.code x code maxLocals ret, Jvm.Cond.code ({ cls := "com/example/isomorph/isomorph/MethodNameToStringPinLaw", name := "str", desc := "(ICCC)Ljava/lang/String;" } : Jvm.MethodName) method_2_code (4 : Nat) (Option.some (Jvm.ClassFile.FieldType.object "java/lang/String")), Jvm.Cond.code ({ cls := "java/lang/String", name := "<init>", desc := "([C)V" } : Jvm.MethodName) jdk_42_method_3_code (2 : Nat) (Option.none : Option Jvm.ClassFile.FieldType), Jvm.Cond.code ({ cls := "java/lang/String", name := "<init>", desc := "([CIILjava/lang/Void;)V" } : Jvm.MethodName) jdk_42_method_149_code (6 : Nat) (Option.none : Option Jvm.ClassFile.FieldType), Jvm.Cond.code ({ cls := "java/lang/Object", name := "<init>", desc := "()V" } : Jvm.MethodName) object_method_1_code (1 : Nat) (Option.none : Option Jvm.ClassFile.FieldType), Jvm.Cond.code ({ cls := "java/lang/StringUTF16", name := "compress", desc := "([CII)[B" } : Jvm.MethodName) jdk_52_method_16_code (6 : Nat) (Option.some (Jvm.ClassFile.FieldType.array Jvm.ClassFile.FieldType.byte)), Jvm.Cond.code ({ cls := "java/lang/StringUTF16", name := "compress", desc := "([CI[BII)I" } : Jvm.MethodName) jdk_52_method_21_code (7 : Nat) (Option.some Jvm.ClassFile.FieldType.int), Jvm.Cond.code ({ cls := "java/lang/StringUTF16", name := "coderFromArrayLen", desc := "([BI)B" } : Jvm.MethodName) jdk_52_method_15_code (2 : Nat) (Option.some Jvm.ClassFile.FieldType.byte), Jvm.Cond.code ({ cls := "com/example/isomorph/isomorph/MethodName", name := "<init>", desc := "(Ljava/lang/String;Ljava/lang/String;)V" } : Jvm.MethodName) prog_2_method_1_code (3 : Nat) (Option.none : Option Jvm.ClassFile.FieldType), Jvm.Cond.code ({ cls := "java/lang/Record", name := "<init>", desc := "()V" } : Jvm.MethodName) jdk_30_method_1_code (1 : Nat) (Option.none : Option Jvm.ClassFile.FieldType), Jvm.Cond.code ({ cls := "com/example/isomorph/isomorph/MethodName", name := "toString", desc := "()Ljava/lang/String;" } : Jvm.MethodName) prog_2_method_5_code (1 : Nat) (Option.some (Jvm.ClassFile.FieldType.object "java/lang/String")), Jvm.Cond.code ({ cls := "java/lang/StringBuilder", name := "<init>", desc := "()V" } : Jvm.MethodName) jdk_67_method_1_code (1 : Nat) (Option.none : Option Jvm.ClassFile.FieldType), Jvm.Cond.code ({ cls := "java/lang/AbstractStringBuilder", name := "<init>", desc := "(I)V" } : Jvm.MethodName) jdk_68_method_2_code (2 : Nat) (Option.none : Option Jvm.ClassFile.FieldType), Jvm.Cond.code ({ cls := "java/lang/StringBuilder", name := "append", desc := "(Ljava/lang/String;)Ljava/lang/StringBuilder;" } : Jvm.MethodName) jdk_67_method_7_code (2 : Nat) (Option.some (Jvm.ClassFile.FieldType.object "java/lang/StringBuilder")), Jvm.Cond.code ({ cls := "java/lang/AbstractStringBuilder", name := "append", desc := "(Ljava/lang/String;)Ljava/lang/AbstractStringBuilder;" } : Jvm.MethodName) jdk_68_method_22_code (3 : Nat) (Option.some (Jvm.ClassFile.FieldType.object "java/lang/AbstractStringBuilder")), Jvm.Cond.code ({ cls := "java/lang/String", name := "length", desc := "()I" } : Jvm.MethodName) jdk_42_method_54_code (1 : Nat) (Option.some Jvm.ClassFile.FieldType.int), Jvm.Cond.code ({ cls := "java/lang/String", name := "coder", desc := "()B" } : Jvm.MethodName) jdk_42_method_152_code (1 : Nat) (Option.some Jvm.ClassFile.FieldType.byte), Jvm.Cond.code ({ cls := "java/lang/AbstractStringBuilder", name := "ensureCapacityInternal", desc := "(I)V" } : Jvm.MethodName) jdk_68_method_9_code (3 : Nat) (Option.none : Option Jvm.ClassFile.FieldType), Jvm.Cond.code ({ cls := "java/lang/AbstractStringBuilder", name := "putStringAt", desc := "(ILjava/lang/String;)V" } : Jvm.MethodName) jdk_68_method_73_code (3 : Nat) (Option.none : Option Jvm.ClassFile.FieldType), Jvm.Cond.code ({ cls := "java/lang/AbstractStringBuilder", name := "inflateIfNeededFor", desc := "(Ljava/lang/String;)V" } : Jvm.MethodName) jdk_68_method_71_code (2 : Nat) (Option.none : Option Jvm.ClassFile.FieldType), Jvm.Cond.code ({ cls := "java/lang/String", name := "getBytes", desc := "([BIB)V" } : Jvm.MethodName) jdk_42_method_147_code (4 : Nat) (Option.none : Option Jvm.ClassFile.FieldType), Jvm.Cond.code ({ cls := "java/lang/StringBuilder", name := "toString", desc := "()Ljava/lang/String;" } : Jvm.MethodName) jdk_67_method_42_code (1 : Nat) (Option.some (Jvm.ClassFile.FieldType.object "java/lang/String")), Jvm.Cond.code ({ cls := "java/lang/String", name := "<init>", desc := "(Ljava/lang/StringBuilder;)V" } : Jvm.MethodName) jdk_42_method_53_code (2 : Nat) (Option.none : Option Jvm.ClassFile.FieldType), Jvm.Cond.code ({ cls := "java/lang/String", name := "<init>", desc := "(Ljava/lang/AbstractStringBuilder;Ljava/lang/Void;)V" } : Jvm.MethodName) jdk_42_method_150_code (5 : Nat) (Option.none : Option Jvm.ClassFile.FieldType), Jvm.Cond.code ({ cls := "java/lang/AbstractStringBuilder", name := "getValue", desc := "()[B" } : Jvm.MethodName) jdk_68_method_64_code (1 : Nat) (Option.some (Jvm.ClassFile.FieldType.array Jvm.ClassFile.FieldType.byte)), Jvm.Cond.code ({ cls := "java/lang/StringBuilder", name := "length", desc := "()I" } : Jvm.MethodName) jdk_67_method_93_code (1 : Nat) (Option.some Jvm.ClassFile.FieldType.int), Jvm.Cond.code ({ cls := "java/lang/AbstractStringBuilder", name := "length", desc := "()I" } : Jvm.MethodName) jdk_68_method_6_code (1 : Nat) (Option.some Jvm.ClassFile.FieldType.int), Jvm.Cond.code ({ cls := "java/lang/AbstractStringBuilder", name := "isLatin1", desc := "()Z" } : Jvm.MethodName) jdk_68_method_68_code (1 : Nat) (Option.some Jvm.ClassFile.FieldType.boolean), Jvm.Cond.code ({ cls := "java/util/Arrays", name := "copyOfRange", desc := "([BII)[B" } : Jvm.MethodName) jdk_65_method_132_code (3 : Nat) (Option.some (Jvm.ClassFile.FieldType.array Jvm.ClassFile.FieldType.byte)), Jvm.Cond.code ({ cls := "java/util/Arrays", name := "copyOfRangeByte", desc := "([BII)[B" } : Jvm.MethodName) jdk_65_method_133_code (5 : Nat) (Option.some (Jvm.ClassFile.FieldType.array Jvm.ClassFile.FieldType.byte)), Jvm.Cond.code ({ cls := "java/util/Arrays", name := "checkLength", desc := "(II)V" } : Jvm.MethodName) jdk_65_method_131_code (2 : Nat) (Option.none : Option Jvm.ClassFile.FieldType), Jvm.Cond.code ({ cls := "java/lang/Math", name := "min", desc := "(II)I" } : Jvm.MethodName) jdk_29_method_69_code (2 : Nat) (Option.some Jvm.ClassFile.FieldType.int), Jvm.Cond.code ({ cls := "java/lang/String", name := "equals", desc := "(Ljava/lang/Object;)Z" } : Jvm.MethodName) jdk_42_method_66_code (3 : Nat) (Option.some Jvm.ClassFile.FieldType.boolean), Jvm.Cond.code ({ cls := "java/lang/StringLatin1", name := "equals", desc := "([B[B)Z" } : Jvm.MethodName) jdk_43_method_13_code (3 : Nat) (Option.some Jvm.ClassFile.FieldType.boolean)]
set_option maxRecDepth 65536 in
theorem codes_eq : words1.filter isCode = codes1 := rfl
theorem w_codes : ∀ c ∈ words1.filter isCode, c.before args0 about1 = true := by
  rw [codes_eq]
  intro c hc
  simp only [codes1, List.mem_cons, List.not_mem_nil, or_false] at hc
  rcases hc with rfl | rfl | rfl | rfl | rfl | rfl | rfl | rfl | rfl | rfl | rfl | rfl | rfl | rfl | rfl | rfl | rfl | rfl | rfl | rfl | rfl | rfl | rfl | rfl | rfl | rfl | rfl | rfl | rfl | rfl | rfl | rfl | rfl | rfl
  · exact w_c0
  · exact w_c1
  · exact w_c2
  · exact w_c3
  · exact w_c4
  · exact w_c5
  · exact w_c6
  · exact w_c7
  · exact w_c8
  · exact w_c9
  · exact w_c10
  · exact w_c11
  · exact w_c12
  · exact w_c13
  · exact w_c14
  · exact w_c15
  · exact w_c16
  · exact w_c17
  · exact w_c18
  · exact w_c19
  · exact w_c20
  · exact w_c21
  · exact w_c22
  · exact w_c23
  · exact w_c24
  · exact w_c25
  · exact w_c26
  · exact w_c27
  · exact w_c28
  · exact w_c29
  · exact w_c30
  · exact w_c31
  · exact w_c32
  · exact w_c33
set_option maxRecDepth 65536 in
theorem w_t1 : (words1.take 24).all (fun c => isCode c || c.before args0 about1) = true := by decide +kernel
set_option maxRecDepth 65536 in
theorem w_t2 : ((words1.drop 24).take 24).all (fun c => isCode c || c.before args0 about1) = true := by decide +kernel
set_option maxRecDepth 65536 in
theorem w_t3 : (((words1.drop 24).drop 24).take 24).all (fun c => isCode c || c.before args0 about1) = true := by decide +kernel
set_option maxRecDepth 65536 in
theorem w_t4 : ((((words1.drop 24).drop 24).drop 24).take 24).all (fun c => isCode c || c.before args0 about1) = true := by decide +kernel
set_option maxRecDepth 65536 in
theorem w_t5 : (((((words1.drop 24).drop 24).drop 24).drop 24).take 24).all (fun c => isCode c || c.before args0 about1) = true := by decide +kernel
set_option maxRecDepth 65536 in
theorem w_t6 : ((((((words1.drop 24).drop 24).drop 24).drop 24).drop 24).take 24).all (fun c => isCode c || c.before args0 about1) = true := by decide +kernel
set_option maxRecDepth 65536 in
theorem w_t7 : (((((((words1.drop 24).drop 24).drop 24).drop 24).drop 24).drop 24).take 24).all (fun c => isCode c || c.before args0 about1) = true := by decide +kernel
set_option maxRecDepth 65536 in
theorem w_t8 : (((((((words1.drop 24).drop 24).drop 24).drop 24).drop 24).drop 24).drop 24).all (fun c => isCode c || c.before args0 about1) = true := by decide +kernel
theorem w_tables : (allAtoms (Jvm.Cond.code x code maxLocals ret :: tables_1)).before args0 about1 = true := by
  rw [allAtoms_all]
  show words1.all (fun c => c.before args0 about1) = true
  refine all_split ?_ w_codes
  rw [← List.take_append_drop 24 words1, List.all_append, w_t1, ← List.take_append_drop 24 (words1.drop 24), List.all_append, w_t2, ← List.take_append_drop 24 ((words1.drop 24).drop 24), List.all_append, w_t3, ← List.take_append_drop 24 (((words1.drop 24).drop 24).drop 24), List.all_append, w_t4, ← List.take_append_drop 24 ((((words1.drop 24).drop 24).drop 24).drop 24), List.all_append, w_t5, ← List.take_append_drop 24 (((((words1.drop 24).drop 24).drop 24).drop 24).drop 24), List.all_append, w_t6, ← List.take_append_drop 24 ((((((words1.drop 24).drop 24).drop 24).drop 24).drop 24).drop 24), List.all_append, w_t7, w_t8]
  rfl
set_option maxRecDepth 65536 in
theorem w_rest : rest_1_c.before args0 about1 = true := by decide +kernel
set_option maxRecDepth 65536 in
theorem w_case : (Jvm.Cond.and given_1 narrow_1).before args0 about1 = true := by decide +kernel
set_option maxRecDepth 65536 in
theorem w_consts : constsHeld consts_1 about1 := Jvm.Lit.constsHeldB_iff.mp (by decide +kernel)
theorem w_applies : (headSpec (Jvm.Cond.code x code maxLocals ret :: tables_1) room_1).applies x e0.platform about1 = true :=
  (Spec.applies_iff w_frames).mpr ⟨w_running, w_runnable, w_alone, w_named, w_hears, w_ripe, w_room, w_tables⟩
theorem atStart : AtStart classFile x code maxLocals ret World_1 tables_1 room_1 Calls_1 rest_1 Pre_1 launch0 p0 e0 about1 theMethod args0 below0 :=
  ⟨lists_1, trivial, launch0.admits_env _ _ _, launch0.least_env, fairChoices_fair.cas, fairChoices_fair.clock, w_frames, w_args, w_heap, w_applies, ⟨w_consts, trivial⟩, w_rest, w_case⟩
end start1
theorem witness_1 : WitnessClaimed_1 := ⟨start1.p0, start1.e0, start1.about1, start1.theMethod, start1.args0, start1.below0, start1.atStart⟩
end Jvm.Pilot.@@N@@
