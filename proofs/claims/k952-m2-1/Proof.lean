import JvmDerived
import JvmDerived.Pilot.@@N@@Statement
import JvmDerived.Pilot.@@N@@Code
set_option linter.unusedVariables false
set_option linter.unusedSimpArgs false
/- laws to paste: Road.backV (cut by pick.py; bodies as the Statement names them) -/
namespace Jvm.Pilot.@@N@@
namespace StrChars
open Jvm Sem ClassFile Op Lib Jvm.Stand Jvm.Free.XT Jvm.Free.ALB Jvm.Free.JM Jvm.Free
open Jvm.Lib.Cold (StaticIs)
/-- a char array whose places are chars -/
def Ch (a : Addr) (A : Cell) (U : State) : Prop := Arr .char a A U ∧ Typed .char A
theorem Ch.mv {a : Addr} {A : Cell} {U U' : State} (h : Ch a A U) (hal : U.vm.Alike U'.vm) (hh : U'.heap = U.heap) : Ch a A U' := ⟨h.1.mv hal hh, h.2⟩
theorem Ch.keep {a : Addr} {A : Cell} {U U' : State} (h : Ch a A U) (hal : U.vm.Alike U'.vm) (hk : U'.heap[a]? = some A) : Ch a A U' := ⟨h.1.keep hal hk, h.2⟩
/-- what place i of a char[]'s cell holds -/
def cv (A : Cell) (i : Nat) : Int32 := match A.slots[i]? with | some (.int x) => x | _ => 0
theorem Ch.get {a : Addr} {A : Cell} {U : State} (h : Ch a A U) {i : Nat} (hi : i < A.slots.size) : A.slots[i]? = some (.int (cv A i)) := by
  have e := Array.getElem?_eq_getElem hi
  have f := h.2 i _ e
  unfold cv; rw [e]
  generalize A.slots[i] = v at f
  cases v <;> simp [fits] at f ⊢
/-- the byte that i2b leaves of a char -/
def lo8 (x : Int32) : Int32 := x.toInt8.toInt32
theorem fits_lo8 (y : Int32) : fits .byte (.int (lo8 y)) = true := by
  have h1 := y.toInt8.le_toInt
  have h2 := y.toInt8.toInt_lt
  simp only [lo8, fits, Bool.and_eq_true, decide_eq_true_eq, Int32.le_iff_toInt_le, Int8.toInt_toInt32, show (-128 : Int32).toInt = -128 from by decide, show (127 : Int32).toInt = 127 from by decide]
  omega
/-- A' is A but that each place j of lo .. hi - 1 holds f j -/
def Laid (A A' : Cell) (lo hi : Nat) (f : Nat → Value) : Prop := A'.cls = A.cls ∧ A'.vm = A.vm ∧ A'.slots.size = A.slots.size ∧ ∀ i, A'.slots[i]? = if lo ≤ i ∧ i < hi then some (f i) else A.slots[i]?
theorem Laid.zero (A : Cell) (lo : Nat) (f : Nat → Value) : Laid A A lo (lo + 0) f := ⟨rfl, rfl, rfl, fun i => by rw [if_neg (by omega)]⟩
theorem Laid.step {A Ak : Cell} {lo k : Nat} {f : Nat → Value} {v : Value} (h : Laid A Ak lo k f) (hlo : lo ≤ k) (hk : k < Ak.slots.size) (hv : v = f k) : Laid A (Ak.setSlot k v) lo (k + 1) f := by
  refine ⟨h.1, h.2.1, by simpa [Cell.setSlot] using h.2.2.1, fun i => ?_⟩
  by_cases e : k = i
  · subst e; rw [Cell.slots_setSlot_self v hk, if_pos (by omega), hv]
  · rw [Cell.slots_setSlot_ne v e, h.2.2.2 i]
    by_cases q : lo ≤ i ∧ i < k
    · rw [if_pos q, if_pos (by omega)]
    · rw [if_neg q, if_neg (by omega)]
def U16 : String := "java/lang/StringUTF16"
namespace Cmp5
def yN : MethodName := ⟨"java/lang/StringUTF16", "compress", "([CI[BII)I"⟩
abbrev yB : ByteArray := jdk_52_method_21_code
theorem d0 : decode yB 0 = .ok (.iconst 0, 1) := by decide +kernel
theorem d1 : decode yB 1 = .ok (.istore 5, 2) := by decide +kernel
theorem d3 : decode yB 3 = .ok (.iload 5, 2) := by decide +kernel
theorem d5 : decode yB 5 = .ok (.iload 4, 2) := by decide +kernel
theorem d7 : decode yB 7 = .ok (.if_icmp (.ge) 37, 3) := by decide +kernel
theorem d10 : decode yB 10 = .ok (.aload_n 0, 1) := by decide +kernel
theorem d11 : decode yB 11 = .ok (.iload_n 1, 1) := by decide +kernel
theorem d12 : decode yB 12 = .ok (.caload, 1) := by decide +kernel
theorem d13 : decode yB 13 = .ok (.istore 6, 2) := by decide +kernel
theorem d15 : decode yB 15 = .ok (.iload 6, 2) := by decide +kernel
theorem d17 : decode yB 17 = .ok (.sipush 255, 3) := by decide +kernel
theorem d20 : decode yB 20 = .ok (.if_icmp (.le) 6, 3) := by decide +kernel
theorem d26 : decode yB 26 = .ok (.aload_n 2, 1) := by decide +kernel
theorem d27 : decode yB 27 = .ok (.iload_n 3, 1) := by decide +kernel
theorem d28 : decode yB 28 = .ok (.iload 6, 2) := by decide +kernel
theorem d30 : decode yB 30 = .ok (.i2b, 1) := by decide +kernel
theorem d31 : decode yB 31 = .ok (.bastore, 1) := by decide +kernel
theorem d32 : decode yB 32 = .ok (.iinc 1 1, 3) := by decide +kernel
theorem d35 : decode yB 35 = .ok (.iinc 3 1, 3) := by decide +kernel
theorem d38 : decode yB 38 = .ok (.iinc 5 1, 3) := by decide +kernel
theorem d41 : decode yB 41 = .ok (.goto (-38), 3) := by decide +kernel
theorem d44 : decode yB 44 = .ok (.iload 4, 2) := by decide +kernel
theorem d46 : decode yB 46 = .ok (.ireturn, 1) := by decide +kernel
def site : List Cond := []
def tab : Cond := tabOf yN yB 7 (some .int) site
def P (b : Addr) (A : Cell) (d : Addr) (B : Cell) (o q len : Nat) (args : Array Value) (s : State) : Prop := args = #[.ref b, .int (Int32.ofNat o), .ref d, .int (Int32.ofNat q), .int (Int32.ofNat len)] ∧ Ch b A s ∧ Arr .byte d B s ∧ b ≠ d ∧ o + len ≤ A.slots.size ∧ q + len ≤ B.slots.size ∧ ∀ i, i < len → ¬ 255 < cv A (o + i)
def E (b : Addr) (A : Cell) (d : Addr) (B : Cell) (o q len : Nat) (r : Option Value) (s u : State) : Prop := r = some (.int (Int32.ofNat len)) ∧ ∃ B', Put d B' s u ∧ Laid B B' q (q + len) (fun j => Value.int (lo8 (cv A (o + (j - q)))))
/-- no char of the range above 255: len; the places written hold each char's low byte -/
theorem law (l : Launch) (b : Addr) (A : Cell) (d : Addr) (B : Cell) (o q len : Nat) : Law l yN 5 5 0 0 yB 7 (some .int) site (P b A d B o q len) (E b A d B o q len) (copyLocs d q len) 0 0 := by
  refine Law.of_walk (plainFor_of_name (by decide +kernel)) (by decide +kernel) (by decide +kernel) (by decide) (fun _ _ h => by rw [h.1]; rfl) (fun _ U U' hal hh h => ⟨h.1, h.2.1.mv hal hh, h.2.2.1.mv hal hh, h.2.2.2⟩) (fun r U U' V V' h1 hal h2 h => ⟨h.1, h.2.elim fun B' q => ⟨B', q.1.mv h1 h2, q.2⟩⟩) ?_
  intro p e s m args below meth c s₁ X0 hexec hbytes hml hret hlk hnm hown hh0 W hP
  obtain ⟨rfl, hA, hB, hne, l1, l2, hp⟩ := hP
  have c1 : Steps p.tables e below (s₁.setTop (entryFrame m #[.ref b, .int (Int32.ofNat o), .ref d, .int (Int32.ofNat q), .int (Int32.ofNat len)] 7)) (s₁.setTop (mkF m 0 #[.val (.ref b), .val (.int (Int32.ofNat o)), .val (.ref d), .val (.int (Int32.ofNat q)), .val (.int (Int32.ofNat len)), .unset, .unset] [])) := entry rfl
  have hA0 := hA.1.mv X0.warmed.alike hh0
  have hB0 := hB.mv X0.warmed.alike hh0
  have a31 := hA.1.2.2.2
  have c2 : Steps p.tables e below (s₁.setTop (entryFrame m #[.ref b, .int (Int32.ofNat o), .ref d, .int (Int32.ofNat q), .int (Int32.ofNat len)] 7)) (s₁.setTop (mkF m 3 #[.val (.ref b), .val (.int (Int32.ofNat o)), .val (.ref d), .val (.int (Int32.ofNat q)), .val (.int (Int32.ofNat len)), .val (.int 0), .unset] [])) := c1.trans (by
    refine iconstV X0.here hexec rfl 0 (hb hbytes d0) (by decide) ?_
    refine XS.istore X0.here hexec rfl (hb hbytes d1) rfl rfl ?_
    exact Steps.refl _)
  have loop : ∀ (r i : Nat), i + r = len → ∀ (z : Slot), (z = .unset ∨ ∃ w, z = .val w ∧ w.category = 1) → ∀ (Tl : State) (Bk : Cell), Stand p l e { frames := 0, locals := 0, cells := 0, slots := 0 } s m #[.ref b, .int (Int32.ofNat o), .ref d, .int (Int32.ofNat q), .int (Int32.ofNat len)] below meth c Tl ([] ++ copyLocs d q i) 0 0 → Put d Bk s₁ Tl → Laid B Bk q (q + i) (fun j => Value.int (lo8 (cv A (o + (j - q))))) →
      Steps p.tables e below (s₁.setTop (entryFrame m #[.ref b, .int (Int32.ofNat o), .ref d, .int (Int32.ofNat q), .int (Int32.ofNat len)] 7)) (Tl.setTop (mkF m 3 #[.val (.ref b), .val (.int (Int32.ofNat (o + i))), .val (.ref d), .val (.int (Int32.ofNat (q + i))), .val (.int (Int32.ofNat len)), .val (.int (Int32.ofNat i)), z] [])) → ∃ (T' : State) (B' : Cell) (z' : Slot), Stand p l e { frames := 0, locals := 0, cells := 0, slots := 0 } s m #[.ref b, .int (Int32.ofNat o), .ref d, .int (Int32.ofNat q), .int (Int32.ofNat len)] below meth c T' ([] ++ copyLocs d q len) 0 0 ∧ Put d B' s₁ T' ∧ Laid B B' q (q + len) (fun j => Value.int (lo8 (cv A (o + (j - q))))) ∧
      Steps p.tables e below (s₁.setTop (entryFrame m #[.ref b, .int (Int32.ofNat o), .ref d, .int (Int32.ofNat q), .int (Int32.ofNat len)] 7)) (T'.setTop (mkF m 3 #[.val (.ref b), .val (.int (Int32.ofNat (o + len))), .val (.ref d), .val (.int (Int32.ofNat (q + len))), .val (.int (Int32.ofNat len)), .val (.int (Int32.ofNat len)), z'] [])) := by
    intro r
    induction r with
    | zero =>
      intro i hi z hz Tl Bk Xl pl fl cl
      have hil : i = len := by omega
      rw [hil] at Xl fl cl
      exact ⟨Tl, Bk, z, Xl, pl, fl, cl⟩
    | succ r ih =>
      intro i hi z hz Tl Bk Xl pl fl cl
      have all := X0.warmed.alike.symm.trans Xl.warmed.alike
      have hAl := hA0.keep all (pl.other hne hA0.1)
      have hBk := hB0.like all pl.1 fl.1 fl.2.1 fl.2.2.1
      have hlt : q + i < Bk.slots.size := by rw [fl.2.2.1]; omega
      have c3 : Steps p.tables e below (s₁.setTop (entryFrame m #[.ref b, .int (Int32.ofNat o), .ref d, .int (Int32.ofNat q), .int (Int32.ofNat len)] 7)) (Tl.setTop (mkF m 12 #[.val (.ref b), .val (.int (Int32.ofNat (o + i))), .val (.ref d), .val (.int (Int32.ofNat (q + i))), .val (.int (Int32.ofNat len)), .val (.int (Int32.ofNat i)), z] [.int (Int32.ofNat (o + i)), .ref b])) := cl.trans (by
        refine XS.iload Xl.here hexec rfl (hb hbytes d3) rfl ?_
        refine XS.iload Xl.here hexec rfl (hb hbytes d5) rfl ?_
        refine XS.icmpNo Xl.here hexec rfl (hb hbytes d7) rfl (ii_ge_f (lt32 (by omega) (by omega))) ?_
        refine XS.aloadN Xl.here hexec rfl (hb hbytes d10) rfl rfl ?_
        refine XS.iloadN Xl.here hexec rfl (hb hbytes d11) rfl ?_
        exact Steps.refl _)
      have c4 : Steps p.tables e below (s₁.setTop (entryFrame m #[.ref b, .int (Int32.ofNat o), .ref d, .int (Int32.ofNat q), .int (Int32.ofNat len)] 7)) (Tl.setTop (mkF m 13 #[.val (.ref b), .val (.int (Int32.ofNat (o + i))), .val (.ref d), .val (.int (Int32.ofNat (q + i))), .val (.int (Int32.ofNat len)), .val (.int (Int32.ofNat i)), z] [.int (cv A (o + i))])) := c3.trans (by
        refine Xl.aget hexec hAl rfl (hA.get (i := o + i) (by omega)) rfl rfl (hb hbytes d12) ?_
        exact Steps.refl _)
      have c5 : Steps p.tables e below (s₁.setTop (entryFrame m #[.ref b, .int (Int32.ofNat o), .ref d, .int (Int32.ofNat q), .int (Int32.ofNat len)] 7)) (Tl.setTop (mkF m 15 #[.val (.ref b), .val (.int (Int32.ofNat (o + i))), .val (.ref d), .val (.int (Int32.ofNat (q + i))), .val (.int (Int32.ofNat len)), .val (.int (Int32.ofNat i)), .val (.int (cv A (o + i)))] [])) := c4.trans (by
        refine XS.istoreS Xl.here hexec rfl (hb hbytes d13) rfl rfl hz ?_
        exact Steps.refl _)
      have c6 : Steps p.tables e below (s₁.setTop (entryFrame m #[.ref b, .int (Int32.ofNat o), .ref d, .int (Int32.ofNat q), .int (Int32.ofNat len)] 7)) (Tl.setTop (mkF m 31 #[.val (.ref b), .val (.int (Int32.ofNat (o + i))), .val (.ref d), .val (.int (Int32.ofNat (q + i))), .val (.int (Int32.ofNat len)), .val (.int (Int32.ofNat i)), .val (.int (cv A (o + i)))] [.int (lo8 (cv A (o + i))), .int (Int32.ofNat (q + i)), .ref d])) := c5.trans (by
        refine XS.iload Xl.here hexec rfl (hb hbytes d15) rfl ?_
        refine sipushV Xl.here hexec rfl 255 (hb hbytes d17) (by decide) ?_
        refine XS.icmpYes Xl.here hexec rfl (pc0 := 20) rfl (hb hbytes d20) rfl (ii_le_t (hp i (by omega))) (by decide) rfl ?_
        refine XS.aloadN Xl.here hexec rfl (hb hbytes d26) rfl rfl ?_
        refine XS.iloadN Xl.here hexec rfl (hb hbytes d27) rfl ?_
        refine XS.iload Xl.here hexec rfl (hb hbytes d28) rfl ?_
        refine i2b Xl.here hexec rfl (hb hbytes d30) rfl ?_
        exact Steps.refl _)
      obtain ⟨T7, X7, p7, st7⟩ := Xl.aput hexec hBk rfl hlt rfl (fits_lo8 (cv A (o + i))) (g := (mkF m 31 #[.val (.ref b), .val (.int (Int32.ofNat (o + i))), .val (.ref d), .val (.int (Int32.ofNat (q + i))), .val (.int (Int32.ofNat len)), .val (.int (Int32.ofNat i)), .val (.int (cv A (o + i)))] [.int (lo8 (cv A (o + i))), .int (Int32.ofNat (q + i)), .ref d])) rfl (rest := []) rfl (hb hbytes d31)
      have c8 : Steps p.tables e below (s₁.setTop (entryFrame m #[.ref b, .int (Int32.ofNat o), .ref d, .int (Int32.ofNat q), .int (Int32.ofNat len)] 7)) (T7.setTop (mkF m 32 #[.val (.ref b), .val (.int (Int32.ofNat (o + i))), .val (.ref d), .val (.int (Int32.ofNat (q + i))), .val (.int (Int32.ofNat len)), .val (.int (Int32.ofNat i)), .val (.int (cv A (o + i)))] [])) := c6.trans (st7 _ (Steps.refl _))
      have c9 : Steps p.tables e below (s₁.setTop (entryFrame m #[.ref b, .int (Int32.ofNat o), .ref d, .int (Int32.ofNat q), .int (Int32.ofNat len)] 7)) (T7.setTop (mkF m 3 #[.val (.ref b), .val (.int (Int32.ofNat (o + i) + 1)), .val (.ref d), .val (.int (Int32.ofNat (q + i) + 1)), .val (.int (Int32.ofNat len)), .val (.int (Int32.ofNat i + 1)), .val (.int (cv A (o + i)))] [])) := c8.trans (by
        refine iincV X7.here hexec rfl 1 (hb hbytes d32) (by decide) rfl rfl ?_
        refine iincV X7.here hexec rfl 1 (hb hbytes d35) (by decide) rfl rfl ?_
        refine iincV X7.here hexec rfl 1 (hb hbytes d38) (by decide) rfl rfl ?_
        refine XS.goto X7.here hexec rfl (pc0 := 41) rfl (hb hbytes d41) (by decide) rfl ?_
        exact Steps.refl _)
      have c10 : Steps p.tables e below (s₁.setTop (entryFrame m #[.ref b, .int (Int32.ofNat o), .ref d, .int (Int32.ofNat q), .int (Int32.ofNat len)] 7)) (T7.setTop (mkF m 3 #[.val (.ref b), .val (.int (Int32.ofNat (o + (i + 1)))), .val (.ref d), .val (.int (Int32.ofNat (q + (i + 1)))), .val (.int (Int32.ofNat len)), .val (.int (Int32.ofNat (i + 1))), .val (.int (cv A (o + i)))] [])) := by
        have := c9
        rw [succ32, succ32, succ32] at this
        exact this
      exact ih (i + 1) (by omega) _ (Or.inr ⟨_, rfl, rfl⟩) T7 _ (by rw [copyLocs_step, ← List.append_assoc]; exact X7) (pl.trans p7) (fl.step (by omega) hlt (by simp)) c10
  obtain ⟨T9, B9, z9, X9, p9, f9, g9⟩ := loop len 0 (by omega) .unset (Or.inl rfl) s₁ B (by simpa [copyLocs] using X0) ⟨hB0.1, fun _ _ => rfl, rfl⟩ (Laid.zero _ _ _) c2
  have c11 : Steps p.tables e below (s₁.setTop (entryFrame m #[.ref b, .int (Int32.ofNat o), .ref d, .int (Int32.ofNat q), .int (Int32.ofNat len)] 7)) (T9.setTop (mkF m 46 #[.val (.ref b), .val (.int (Int32.ofNat (o + len))), .val (.ref d), .val (.int (Int32.ofNat (q + len))), .val (.int (Int32.ofNat len)), .val (.int (Int32.ofNat len)), z9] [.int (Int32.ofNat len)])) := g9.trans (by
    refine XS.iload X9.here hexec rfl (hb hbytes d3) rfl ?_
    refine XS.iload X9.here hexec rfl (hb hbytes d5) rfl ?_
    refine XS.icmpYes X9.here hexec rfl (pc0 := 7) rfl (hb hbytes d7) rfl (ii_ge_t (nlt32 (by omega) (Nat.le_refl _))) (by decide) rfl ?_
    refine XS.iload X9.here hexec rfl (hb hbytes d44) rfl ?_
    exact Steps.refl _)
  exact ⟨T9, some (.int (Int32.ofNat len)), _, _, _, X9, by simp, rfl, rfl, (fun h => by cases h), ⟨rfl, B9, p9.from hh0, f9⟩, fun fs hl => c11.trans (X9.ireturnOut hexec hret rfl (Or.inl rfl) (hb hbytes d46) hl)⟩
end Cmp5
namespace Cmp3
def yN : MethodName := ⟨"java/lang/StringUTF16", "compress", "([CII)[B"⟩
abbrev yB : ByteArray := jdk_52_method_16_code
theorem d0 : decode yB 0 = .ok (.iload_n 2, 1) := by decide +kernel
theorem d1 : decode yB 1 = .ok (.newarray .byte, 2) := by decide +kernel
theorem d3 : decode yB 3 = .ok (.astore_n 3, 1) := by decide +kernel
theorem d4 : decode yB 4 = .ok (.aload_n 0, 1) := by decide +kernel
theorem d5 : decode yB 5 = .ok (.iload_n 1, 1) := by decide +kernel
theorem d6 : decode yB 6 = .ok (.aload_n 3, 1) := by decide +kernel
theorem d7 : decode yB 7 = .ok (.iconst 0, 1) := by decide +kernel
theorem d8 : decode yB 8 = .ok (.iload_n 2, 1) := by decide +kernel
theorem d9 : decode yB 9 = .ok (.invokestatic 115, 3) := by decide +kernel
theorem d12 : decode yB 12 = .ok (.istore 4, 2) := by decide +kernel
theorem d14 : decode yB 14 = .ok (.iload 4, 2) := by decide +kernel
theorem d16 : decode yB 16 = .ok (.iload_n 2, 1) := by decide +kernel
theorem d17 : decode yB 17 = .ok (.if_icmp (.eq) 40, 3) := by decide +kernel
theorem d57 : decode yB 57 = .ok (.aload_n 3, 1) := by decide +kernel
theorem d58 : decode yB 58 = .ok (.areturn, 1) := by decide +kernel
def site : List Cond := [.arrayClass .byte, Cmp5.tab] ++ staticW U16 115 Cmp5.yN
def tab : Cond := tabOf yN yB 6 (some (.array .byte)) site
def P (b : Addr) (A : Cell) (o len : Nat) (args : Array Value) (s : State) : Prop := args = #[.ref b, .int (Int32.ofNat o), .int (Int32.ofNat len)] ∧ Ch b A s ∧ o + len ≤ A.slots.size ∧ len ≤ 536870912 ∧ ∀ i, i < len → ¬ 255 < cv A (o + i)
def E (b : Addr) (A : Cell) (o len : Nat) (r : Option Value) (s u : State) : Prop := NewArr .byte "[B" len (fun j => .int (lo8 (cv A (o + j)))) r s u ∧ u.heap.size = s.heap.size + 1
/-- no char of the range above 255: a new byte[] of their low bytes -/
theorem law (l : Launch) (b : Addr) (A : Cell) (o len : Nat) : Law l yN 3 3 1 18 yB 6 (some (.array .byte)) site (P b A o len) (E b A o len) [] 1 len := by
  refine Law.of_walk (plainFor_of_name (by decide +kernel)) (by decide +kernel) (by decide +kernel) (by decide) (fun _ _ h => by rw [h.1]; rfl) (fun _ U U' hal hh h => ⟨h.1, h.2.1.mv hal hh, h.2.2⟩) (fun r U U' V V' h1 hal h2 h => ⟨NewArr.mv r U U' V V' h1 hal h2 h.1, by rw [h1, h2]; exact h.2⟩) ?_
  intro p e s m args below meth c s₁ X0 hexec hbytes hml hret hlk hnm hown hh0 W hP
  obtain ⟨rfl, hA, l1, l2, hp⟩ := hP
  have a31 := hA.1.2.2.2
  have c1 : Steps p.tables e below (s₁.setTop (entryFrame m #[.ref b, .int (Int32.ofNat o), .int (Int32.ofNat len)] 6)) (s₁.setTop (mkF m 0 #[.val (.ref b), .val (.int (Int32.ofNat o)), .val (.int (Int32.ofNat len)), .unset, .unset, .unset] [])) := entry rfl
  have c2 : Steps p.tables e below (s₁.setTop (entryFrame m #[.ref b, .int (Int32.ofNat o), .int (Int32.ofNat len)] 6)) (s₁.setTop (mkF m 1 #[.val (.ref b), .val (.int (Int32.ofNat o)), .val (.int (Int32.ofNat len)), .unset, .unset, .unset] [.int (Int32.ofNat len)])) := c1.trans (by
    refine XS.iloadN X0.here hexec rfl (hb hbytes d0) rfl ?_
    exact Steps.refl _)
  obtain ⟨T3, B3, X3, ba3, bs3, bv3, bh3, bf3, st3⟩ := X0.anew hexec (atype := .byte) (wk W (.arrayClass .byte)) rfl (by show len * 1 ≤ _; omega) (by omega) (g := (mkF m 1 #[.val (.ref b), .val (.int (Int32.ofNat o)), .val (.int (Int32.ofNat len)), .unset, .unset, .unset] [.int (Int32.ofNat len)])) rfl (hb hbytes d1) (rest := []) rfl (Nat.le_refl _) (by show 0 + len ≤ len; omega)
  rw [hh0] at ba3 st3
  have kp3 : XT.Kept s T3 := (XT.Kept.of_eq hh0).push bh3
  have hA3 := hA.keep X3.warmed.alike (kp3 _ _ hA.1.1)
  have hne : b ≠ s.heap.size := hA.1.ne
  have c4 : Steps p.tables e below (s₁.setTop (entryFrame m #[.ref b, .int (Int32.ofNat o), .int (Int32.ofNat len)] 6)) (T3.setTop (mkF m 3 #[.val (.ref b), .val (.int (Int32.ofNat o)), .val (.int (Int32.ofNat len)), .unset, .unset, .unset] [.ref s.heap.size])) := c2.trans (st3 _ (Steps.refl _))
  have c5 : Steps p.tables e below (s₁.setTop (entryFrame m #[.ref b, .int (Int32.ofNat o), .int (Int32.ofNat len)] 6)) (T3.setTop (mkF m 9 #[.val (.ref b), .val (.int (Int32.ofNat o)), .val (.int (Int32.ofNat len)), .val (.ref s.heap.size), .unset, .unset] [.int (Int32.ofNat len), .int 0, .ref s.heap.size, .int (Int32.ofNat o), .ref b])) := c4.trans (by
    refine XS.astoreN X3.here hexec rfl (hb hbytes d3) rfl rfl rfl ?_
    refine XS.aloadN X3.here hexec rfl (hb hbytes d4) rfl rfl ?_
    refine XS.iloadN X3.here hexec rfl (hb hbytes d5) rfl ?_
    refine XS.aloadN X3.here hexec rfl (hb hbytes d6) rfl rfl ?_
    refine iconstV X3.here hexec rfl 0 (hb hbytes d7) (by decide) ?_
    refine XS.iloadN X3.here hexec rfl (hb hbytes d8) rfl ?_
    exact Steps.refl _)
  obtain ⟨v6, T6, X6, E6, g6⟩ := X3.callS hexec (Cmp5.law l b A s.heap.size B3 o 0 len) hown (wks W (staticW U16 115 Cmp5.yN)) (wk W Cmp5.tab) (W := 0) (Nat.le_of_ble_eq_true rfl) (Nat.le_of_ble_eq_true rfl) (Nat.le_refl _) (by show 0 + len + 0 ≤ len; omega) (g := (mkF m 9 #[.val (.ref b), .val (.int (Int32.ofNat o)), .val (.int (Int32.ofNat len)), .val (.ref s.heap.size), .unset, .unset] [.int (Int32.ofNat len), .int (Int32.ofNat 0), .ref s.heap.size, .int (Int32.ofNat o), .ref b])) rfl (by rw [hml]; rfl) c5 (argsL := [.ref b, .int (Int32.ofNat o), .ref s.heap.size, .int (Int32.ofNat 0), .int (Int32.ofNat len)]) (rest := []) rfl rfl (by show 2 * 0 + 0 ≤ _; decide) (hb hbytes d9) (⟨rfl, hA3, ba3, hne, l1, by rw [bs3]; simp, hp⟩)
  obtain ⟨rfl, B6, p6, f6⟩ := E6
  have c7 : Steps p.tables e below (s₁.setTop (entryFrame m #[.ref b, .int (Int32.ofNat o), .int (Int32.ofNat len)] 6)) (T6.setTop (mkF m 12 #[.val (.ref b), .val (.int (Int32.ofNat o)), .val (.int (Int32.ofNat len)), .val (.ref s.heap.size), .unset, .unset] [.int (Int32.ofNat len)])) := g6
  have c8 : Steps p.tables e below (s₁.setTop (entryFrame m #[.ref b, .int (Int32.ofNat o), .int (Int32.ofNat len)] 6)) (T6.setTop (mkF m 58 #[.val (.ref b), .val (.int (Int32.ofNat o)), .val (.int (Int32.ofNat len)), .val (.ref s.heap.size), .val (.int (Int32.ofNat len)), .unset] [.ref s.heap.size])) := c7.trans (by
    refine XS.istore X6.here hexec rfl (hb hbytes d12) rfl rfl ?_
    refine XS.iload X6.here hexec rfl (hb hbytes d14) rfl ?_
    refine XS.iloadN X6.here hexec rfl (hb hbytes d16) rfl ?_
    refine XS.icmpYes X6.here hexec rfl (pc0 := 17) rfl (hb hbytes d17) rfl (ii_eq_t rfl) (by decide) rfl ?_
    refine XS.aloadN X6.here hexec rfl (hb hbytes d57) rfl rfl ?_
    exact Steps.refl _)
  have X8 := X6.wide (L' := []) (cells' := 1) (slots' := len) (fun x hx hlt => by
    simp only [List.nil_append, copyLocs, List.mem_map, List.mem_range] at hx
    obtain ⟨i, -, rfl⟩ := hx
    exact absurd hlt (Nat.lt_irrefl _)) (Nat.le_refl _) (by omega)
  exact ⟨T6, some (.ref s.heap.size), _, _, _, X8, rfl, rfl, rfl, (fun h => by cases h), ⟨⟨rfl, B6, ba3.like (X3.warmed.alike.symm.trans X6.warmed.alike) p6.1 f6.1 f6.2.1 f6.2.2.1, f6.2.1.trans bv3, by rw [X6.warmed.alike.findClass, f6.1]; exact bf3, by rw [f6.2.2.1, bs3]; simp, fun j hj => by rw [f6.2.2.2 j, if_pos (by omega)]; rfl, kp3.put p6 (Nat.le_refl _)⟩, by rw [p6.2.2, bh3, hh0]; simp⟩, fun fs hl => c8.trans (X8.areturnOut hexec rfl hret rfl (hb hbytes d58) hl)⟩
end Cmp3
namespace CodL
def yN : MethodName := ⟨"java/lang/StringUTF16", "coderFromArrayLen", "([BI)B"⟩
abbrev yB : ByteArray := jdk_52_method_15_code
theorem d0 : decode yB 0 = .ok (.iload_n 1, 1) := by decide +kernel
theorem d1 : decode yB 1 = .ok (.aload_n 0, 1) := by decide +kernel
theorem d2 : decode yB 2 = .ok (.arraylength, 1) := by decide +kernel
theorem d3 : decode yB 3 = .ok (.isub, 1) := by decide +kernel
theorem d4 : decode yB 4 = .ok (.bipush 31, 2) := by decide +kernel
theorem d6 : decode yB 6 = .ok (.iushr, 1) := by decide +kernel
theorem d7 : decode yB 7 = .ok (.i2b, 1) := by decide +kernel
theorem d8 : decode yB 8 = .ok (.ireturn, 1) := by decide +kernel
def site : List Cond := []
def tab : Cond := tabOf yN yB 2 (some .byte) site
def P (d : Addr) (B : Cell) (args : Array Value) (s : State) : Prop := args = #[.ref d, .int (Int32.ofNat B.slots.size)] ∧ Arr .byte d B s
def E (r : Option Value) (s u : State) : Prop := XT.PureE (some (.int 0)) r s u
/-- an array as long as the number of chars: LATIN1 -/
theorem law (l : Launch) (d : Addr) (B : Cell) : Law l yN 2 2 0 0 yB 2 (some .byte) site (P d B) E [] 0 0 := by
  refine Law.of_walk (plainFor_of_name (by decide +kernel)) (by decide +kernel) (by decide +kernel) (by decide) (fun _ _ h => by rw [h.1]; rfl) (fun _ U U' hal hh h => ⟨h.1, h.2.mv hal hh⟩) (fun r U U' V V' h1 hal h2 h => XT.PureE.mv r U U' V V' h1 hal h2 h) ?_
  intro p e s m args below meth c s₁ X0 hexec hbytes hml hret hlk hnm hown hh0 W hP
  obtain ⟨rfl, hB⟩ := hP
  have hB0 := hB.mv X0.warmed.alike hh0
  have c1 : Steps p.tables e below (s₁.setTop (entryFrame m #[.ref d, .int (Int32.ofNat B.slots.size)] 2)) (s₁.setTop (mkF m 0 #[.val (.ref d), .val (.int (Int32.ofNat B.slots.size))] [])) := entry rfl
  have c2 : Steps p.tables e below (s₁.setTop (entryFrame m #[.ref d, .int (Int32.ofNat B.slots.size)] 2)) (s₁.setTop (mkF m 2 #[.val (.ref d), .val (.int (Int32.ofNat B.slots.size))] [.ref d, .int (Int32.ofNat B.slots.size)])) := c1.trans (by
    refine XS.iloadN X0.here hexec rfl (hb hbytes d0) rfl ?_
    refine XS.aloadN X0.here hexec rfl (hb hbytes d1) rfl rfl ?_
    exact Steps.refl _)
  have c3 : Steps p.tables e below (s₁.setTop (entryFrame m #[.ref d, .int (Int32.ofNat B.slots.size)] 2)) (s₁.setTop (mkF m 8 #[.val (.ref d), .val (.int (Int32.ofNat B.slots.size))] [.int (lo8 (ushr (Int32.ofNat B.slots.size - Int32.ofNat B.slots.size) 31))])) := c2.trans (by
    refine X0.alen hexec hB0 rfl rfl (hb hbytes d2) ?_
    refine XS.isub X0.here hexec rfl (hb hbytes d3) rfl ?_
    refine bipushV X0.here hexec rfl 31 (hb hbytes d4) (by decide) ?_
    refine iushr X0.here hexec rfl (hb hbytes d6) rfl ?_
    refine i2b X0.here hexec rfl (hb hbytes d7) rfl ?_
    exact Steps.refl _)
  have e0 : lo8 (ushr (Int32.ofNat B.slots.size - Int32.ofNat B.slots.size) 31) = 0 := by rw [Int32.sub_self]; decide
  rw [e0] at c3
  exact ⟨s₁, some (.int 0), _, _, _, X0, rfl, rfl, rfl, (fun h => by cases h), ⟨rfl, hh0⟩, fun fs hl => c3.trans (X0.ireturnOut hexec hret rfl (Or.inr (Or.inr (Or.inl rfl))) (hb hbytes d8) hl)⟩
end CodL
/-- the String at a is Latin-1 over a new byte[] (the heap's one new cell): the low bytes of the len chars of A from o on; every cell but a is kept -/
def Got (a : Addr) (D : Cell) (fV fC : Field) (A : Cell) (o len : Nat) (r : Option Value) (s u : State) : Prop := r = none ∧ ∃ D' V : Cell, Blank "java/lang/String" a D' u ∧ Same D D' [fV.slot, fC.slot] ∧ D'.slots[fV.slot]? = some (.ref s.heap.size) ∧ D'.slots[fC.slot]? = some (.int 0) ∧ Arr .byte s.heap.size V u ∧ V.vm = .none ∧ u.vm.findClass "[B" = some V.cls ∧ V.slots.size = len ∧ (∀ j, j < len → V.slots[j]? = some (.int (lo8 (cv A (o + j))))) ∧ (∀ (y : Addr) (c : Cell), y ≠ a → s.heap[y]? = some c → u.heap[y]? = some c) ∧ u.heap.size = s.heap.size + 1
theorem Got.mv {a : Addr} {D A : Cell} {fV fC : Field} {o len : Nat} : ∀ r (U U' V V' : State), U'.heap = U.heap → V.vm.Alike V'.vm → V'.heap = V.heap → Got a D fV fC A o len r U V → Got a D fV fC A o len r U' V' :=
  fun r U U' V V' h1 hal h2 ⟨e0, D', X, a1, a2, a3, a4, a5, a6, a7, a8, a9, a10, a11⟩ => ⟨e0, D', X, a1.mv hal h2, a2, by rw [h1]; exact a3, a4, by rw [h1]; exact a5.mv hal h2, a6, by rw [hal.findClass]; exact a7, a8, a9, by rw [h1, h2]; exact a10, by rw [h1, h2]; exact a11⟩
namespace New4
def yN : MethodName := ⟨"java/lang/String", "<init>", "([CIILjava/lang/Void;)V"⟩
abbrev yB : ByteArray := jdk_42_method_149_code
theorem d0 : decode yB 0 = .ok (.aload_n 0, 1) := by decide +kernel
theorem d1 : decode yB 1 = .ok (.invokespecial 1, 3) := by decide +kernel
theorem d4 : decode yB 4 = .ok (.iload_n 3, 1) := by decide +kernel
theorem d5 : decode yB 5 = .ok (.ifCond (.ne) 22, 3) := by decide +kernel
theorem d27 : decode yB 27 = .ok (.getstatic 38, 3) := by decide +kernel
theorem d30 : decode yB 30 = .ok (.ifCond (.eq) 28, 3) := by decide +kernel
theorem d33 : decode yB 33 = .ok (.aload_n 1, 1) := by decide +kernel
theorem d34 : decode yB 34 = .ok (.iload_n 2, 1) := by decide +kernel
theorem d35 : decode yB 35 = .ok (.iload_n 3, 1) := by decide +kernel
theorem d36 : decode yB 36 = .ok (.invokestatic 177, 3) := by decide +kernel
theorem d39 : decode yB 39 = .ok (.astore 5, 2) := by decide +kernel
theorem d41 : decode yB 41 = .ok (.aload_n 0, 1) := by decide +kernel
theorem d42 : decode yB 42 = .ok (.aload 5, 2) := by decide +kernel
theorem d44 : decode yB 44 = .ok (.iload_n 3, 1) := by decide +kernel
theorem d45 : decode yB 45 = .ok (.invokestatic 47, 3) := by decide +kernel
theorem d48 : decode yB 48 = .ok (.putfield 15, 3) := by decide +kernel
theorem d51 : decode yB 51 = .ok (.aload_n 0, 1) := by decide +kernel
theorem d52 : decode yB 52 = .ok (.aload 5, 2) := by decide +kernel
theorem d54 : decode yB 54 = .ok (.putfield 9, 3) := by decide +kernel
theorem d57 : decode yB 57 = .ok (.return_, 1) := by decide +kernel
def site : List Cond := [.fieldLink "java/lang/String" 38 "java/lang/String" "COMPACT_STRINGS" "Z", Cmp3.tab, CodL.tab, .laysFinal "java/lang/String" "java/lang/String" "value" "[B", .fieldLink "java/lang/String" 9 "java/lang/String" "value" "[B", .laysFinal "java/lang/String" "java/lang/String" "coder" "B", .fieldLink "java/lang/String" 15 "java/lang/String" "coder" "B"] ++ objW "java/lang/String" 1 ++ staticW "java/lang/String" 177 Cmp3.yN ++ staticW "java/lang/String" 47 CodL.yN
def tab : Cond := tabOf yN yB 6 none site
def P (a : Addr) (D : Cell) (fV fC : Field) (b : Addr) (A : Cell) (z : Int32) (o len : Nat) (args : Array Value) (s : State) : Prop := args = #[.ref a, .ref b, .int (Int32.ofNat o), .int (Int32.ofNat len), .null] ∧ Blank "java/lang/String" a D s ∧ Found "java/lang/String" "value" "[B" fV s ∧ Found "java/lang/String" "coder" "B" fC s ∧ Ch b A s ∧ StaticIs s "java/lang/String" "COMPACT_STRINGS" "Z" (.int z) ∧ ¬ z = 0 ∧ 0 < len ∧ o + len ≤ A.slots.size ∧ len ≤ 536870912 ∧ ∀ i, i < len → ¬ 255 < cv A (o + i)
def E (a : Addr) (D : Cell) (fV fC : Field) (A : Cell) (o len : Nat) (r : Option Value) (s u : State) : Prop := Got a D fV fC A o len r s u
/-- len > 0, no char of the range above 255: a Latin-1 String of their low bytes -/
theorem law (l : Launch) (a : Addr) (D : Cell) (fV fC : Field) (b : Addr) (A : Cell) (z : Int32) (o len : Nat) : Law l yN 5 4 2 35 yB 6 none site (P a D fV fC b A z o len) (E a D fV fC A o len) [⟨a, fC.slot⟩, ⟨a, fV.slot⟩] 1 len := by
  refine Law.of_walk (plainFor_of_name (by decide +kernel)) (by decide +kernel) (by decide +kernel) (by decide) (fun _ _ h => by rw [h.1]; rfl) (fun _ U U' hal hh h => ⟨h.1, h.2.1.mv hal hh, h.2.2.1.al hal, h.2.2.2.1.al hal, h.2.2.2.2.1.mv hal hh, h.2.2.2.2.2.1.there hal hh, h.2.2.2.2.2.2⟩) (fun r U U' V V' h1 hal h2 h => Got.mv r U U' V V' h1 hal h2 h) ?_
  intro p e s m args below meth c s₁ X0 hexec hbytes hml hret hlk hnm hown hh0 W hP
  obtain ⟨rfl, hB, f1, f2, hA, s1, hz, l0, l1, l2, hp⟩ := hP
  have a31 := hA.1.2.2.2
  have c1 : Steps p.tables e below (s₁.setTop (entryFrame m #[.ref a, .ref b, .int (Int32.ofNat o), .int (Int32.ofNat len), .null] 6)) (s₁.setTop (mkF m 0 #[.val (.ref a), .val (.ref b), .val (.int (Int32.ofNat o)), .val (.int (Int32.ofNat len)), .val .null, .unset] [])) := entry rfl
  have c2 : Steps p.tables e below (s₁.setTop (entryFrame m #[.ref a, .ref b, .int (Int32.ofNat o), .int (Int32.ofNat len), .null] 6)) (s₁.setTop (mkF m 1 #[.val (.ref a), .val (.ref b), .val (.int (Int32.ofNat o)), .val (.int (Int32.ofNat len)), .val .null, .unset] [.ref a])) := c1.trans (by
    refine XS.aloadN X0.here hexec rfl (hb hbytes d0) rfl rfl ?_
    exact Steps.refl _)
  obtain ⟨T3, X3, q3, st3⟩ := X0.oinit hexec hown (wks W (objW "java/lang/String" 1)) (g := (mkF m 1 #[.val (.ref a), .val (.ref b), .val (.int (Int32.ofNat o)), .val (.int (Int32.ofNat len)), .val .null, .unset] [.ref a])) rfl (by rw [hml]; rfl) (rest := []) rfl (hb hbytes d1) (W := 0) (by show 2 * 0 + 0 ≤ _; decide) (Nat.le_of_ble_eq_true rfl) (Nat.le_of_ble_eq_true rfl)
  have hh3 := q3.trans hh0
  have c4 : Steps p.tables e below (s₁.setTop (entryFrame m #[.ref a, .ref b, .int (Int32.ofNat o), .int (Int32.ofNat len), .null] 6)) (T3.setTop (mkF m 27 #[.val (.ref a), .val (.ref b), .val (.int (Int32.ofNat o)), .val (.int (Int32.ofNat len)), .val .null, .unset] [])) := (c2.trans (st3 _ (Steps.refl _))).trans (by
    refine XS.iloadN X3.here hexec rfl (hb hbytes d4) rfl ?_
    refine XS.ifYes X3.here hexec rfl (pc0 := 5) rfl (hb hbytes d5) rfl (i0_ne_t (nz32 (by omega) l0)) (by decide) rfl ?_
    exact Steps.refl _)
  obtain ⟨T5, X5, q5, st5⟩ := X3.sget hexec hown (wk W (.fieldLink "java/lang/String" 38 "java/lang/String" "COMPACT_STRINGS" "Z")) s1 (fun _ _ h => by rw [hh3]; exact h) (g := (mkF m 27 #[.val (.ref a), .val (.ref b), .val (.int (Int32.ofNat o)), .val (.int (Int32.ofNat len)), .val .null, .unset] [])) rfl (hb hbytes d27)
  have hh5 := q5.trans hh3
  have c6 : Steps p.tables e below (s₁.setTop (entryFrame m #[.ref a, .ref b, .int (Int32.ofNat o), .int (Int32.ofNat len), .null] 6)) (T5.setTop (mkF m 30 #[.val (.ref a), .val (.ref b), .val (.int (Int32.ofNat o)), .val (.int (Int32.ofNat len)), .val .null, .unset] [.int z])) := c4.trans (st5 _ (Steps.refl _))
  have c7 : Steps p.tables e below (s₁.setTop (entryFrame m #[.ref a, .ref b, .int (Int32.ofNat o), .int (Int32.ofNat len), .null] 6)) (T5.setTop (mkF m 36 #[.val (.ref a), .val (.ref b), .val (.int (Int32.ofNat o)), .val (.int (Int32.ofNat len)), .val .null, .unset] [.int (Int32.ofNat len), .int (Int32.ofNat o), .ref b])) := c6.trans (by
    refine XS.ifNo X5.here hexec rfl (hb hbytes d30) rfl (i0_eq_f hz) ?_
    refine XS.aloadN X5.here hexec rfl (hb hbytes d33) rfl rfl ?_
    refine XS.iloadN X5.here hexec rfl (hb hbytes d34) rfl ?_
    refine XS.iloadN X5.here hexec rfl (hb hbytes d35) rfl ?_
    exact Steps.refl _)
  obtain ⟨v8, T8, X8, E8, g8⟩ := X5.callS hexec (Cmp3.law l b A o len) hown (wks W (staticW "java/lang/String" 177 Cmp3.yN)) (wk W Cmp3.tab) (W := 0) (Nat.le_of_ble_eq_true rfl) (Nat.le_of_ble_eq_true rfl) (Nat.le_refl _) (by show 0 + len ≤ len; omega) (g := (mkF m 36 #[.val (.ref a), .val (.ref b), .val (.int (Int32.ofNat o)), .val (.int (Int32.ofNat len)), .val .null, .unset] [.int (Int32.ofNat len), .int (Int32.ofNat o), .ref b])) rfl (by rw [hml]; rfl) c7 (argsL := [.ref b, .int (Int32.ofNat o), .int (Int32.ofNat len)]) (rest := []) rfl rfl (by show 2 * 0 + 0 ≤ _; decide) (hb hbytes d36) (⟨rfl, hA.mv X5.warmed.alike hh5, l1, l2, hp⟩)
  obtain ⟨e8, z8⟩ := E8
  obtain ⟨rfl, N, n1, n2, n3, n4, n5, n6⟩ := NewArr.mv _ T5 s _ _ hh5.symm (Vm.Alike.refl _) rfl e8
  rw [hh5] at z8
  have hB1 := hB.keep X8.warmed.alike (n6 _ _ hB.1)
  have hne : s.heap.size ≠ a := (Nat.ne_of_lt (Array.getElem?_eq_some_iff.mp hB.1).1).symm
  have c9 : Steps p.tables e below (s₁.setTop (entryFrame m #[.ref a, .ref b, .int (Int32.ofNat o), .int (Int32.ofNat len), .null] 6)) (T8.setTop (mkF m 39 #[.val (.ref a), .val (.ref b), .val (.int (Int32.ofNat o)), .val (.int (Int32.ofNat len)), .val .null, .unset] [.ref s.heap.size])) := g8
  have c10 : Steps p.tables e below (s₁.setTop (entryFrame m #[.ref a, .ref b, .int (Int32.ofNat o), .int (Int32.ofNat len), .null] 6)) (T8.setTop (mkF m 45 #[.val (.ref a), .val (.ref b), .val (.int (Int32.ofNat o)), .val (.int (Int32.ofNat len)), .val .null, .val (.ref s.heap.size)] [.int (Int32.ofNat N.slots.size), .ref s.heap.size, .ref a])) := by
    have hc : Steps p.tables e below (s₁.setTop (entryFrame m #[.ref a, .ref b, .int (Int32.ofNat o), .int (Int32.ofNat len), .null] 6)) (T8.setTop (mkF m 45 #[.val (.ref a), .val (.ref b), .val (.int (Int32.ofNat o)), .val (.int (Int32.ofNat len)), .val .null, .val (.ref s.heap.size)] [.int (Int32.ofNat len), .ref s.heap.size, .ref a])) := c9.trans (by
      refine XS.astore X8.here hexec rfl (hb hbytes d39) rfl rfl rfl ?_
      refine XS.aloadN X8.here hexec rfl (hb hbytes d41) rfl rfl ?_
      refine XS.aload X8.here hexec rfl (hb hbytes d42) rfl rfl ?_
      refine XS.iloadN X8.here hexec rfl (hb hbytes d44) rfl ?_
      exact Steps.refl _)
    rw [n4]; exact hc
  obtain ⟨v11, T11, X11, E11, g11⟩ := X8.callS hexec (CodL.law l s.heap.size N) hown (wks W (staticW "java/lang/String" 47 CodL.yN)) (wk W CodL.tab) (W := 1) (Nat.le_of_ble_eq_true rfl) (Nat.le_of_ble_eq_true rfl) (Nat.le_refl _) (by show 0 + len + 0 ≤ len; omega) (g := (mkF m 45 #[.val (.ref a), .val (.ref b), .val (.int (Int32.ofNat o)), .val (.int (Int32.ofNat len)), .val .null, .val (.ref s.heap.size)] [.int (Int32.ofNat N.slots.size), .ref s.heap.size, .ref a])) rfl (by rw [hml]; rfl) c10 (argsL := [.ref s.heap.size, .int (Int32.ofNat N.slots.size)]) (rest := [.ref a]) rfl rfl (by show 2 * 0 + (1 + 0) ≤ _; decide) (hb hbytes d45) (⟨rfl, n1⟩)
  obtain ⟨rfl, q11⟩ := E11
  have hB11 := hB1.mv (X8.warmed.alike.symm.trans X11.warmed.alike) q11
  have c12 : Steps p.tables e below (s₁.setTop (entryFrame m #[.ref a, .ref b, .int (Int32.ofNat o), .int (Int32.ofNat len), .null] 6)) (T11.setTop (mkF m 48 #[.val (.ref a), .val (.ref b), .val (.int (Int32.ofNat o)), .val (.int (Int32.ofNat len)), .val .null, .val (.ref s.heap.size)] [.int 0, .ref a])) := g11
  obtain ⟨T13, X13, p13, bl13, sl13, st13⟩ := X11.finit hexec hown (wk W (.fieldLink "java/lang/String" 15 "java/lang/String" "coder" "B")) (Or.inr ⟨_, (wk W (.laysFinal "java/lang/String" "java/lang/String" "coder" "B"))⟩) (Or.inl ⟨rfl, hnm⟩) f2 (Or.inl rfl) hB11 (t := .byte) (by decide +kernel) rfl (g := (mkF m 48 #[.val (.ref a), .val (.ref b), .val (.int (Int32.ofNat o)), .val (.int (Int32.ofNat len)), .val .null, .val (.ref s.heap.size)] [.int 0, .ref a])) rfl (rest := []) rfl (hb hbytes d48)
  have c14 : Steps p.tables e below (s₁.setTop (entryFrame m #[.ref a, .ref b, .int (Int32.ofNat o), .int (Int32.ofNat len), .null] 6)) (T13.setTop (mkF m 54 #[.val (.ref a), .val (.ref b), .val (.int (Int32.ofNat o)), .val (.int (Int32.ofNat len)), .val .null, .val (.ref s.heap.size)] [.ref s.heap.size, .ref a])) := (c12.trans (st13 _ (Steps.refl _))).trans (by
    refine XS.aloadN X13.here hexec rfl (hb hbytes d51) rfl rfl ?_
    refine XS.aload X13.here hexec rfl (hb hbytes d52) rfl rfl ?_
    exact Steps.refl _)
  obtain ⟨T15, X15, p15, bl15, sl15, st15⟩ := X13.finit hexec hown (wk W (.fieldLink "java/lang/String" 9 "java/lang/String" "value" "[B")) (Or.inr ⟨_, (wk W (.laysFinal "java/lang/String" "java/lang/String" "value" "[B"))⟩) (Or.inl ⟨rfl, hnm⟩) f1 (Or.inl rfl) bl13 (t := (.array .byte)) (by decide +kernel) rfl (g := (mkF m 54 #[.val (.ref a), .val (.ref b), .val (.int (Int32.ofNat o)), .val (.int (Int32.ofNat len)), .val .null, .val (.ref s.heap.size)] [.ref s.heap.size, .ref a])) rfl (rest := []) rfl (hb hbytes d54)
  have c16 : Steps p.tables e below (s₁.setTop (entryFrame m #[.ref a, .ref b, .int (Int32.ofNat o), .int (Int32.ofNat len), .null] 6)) (T15.setTop (mkF m 57 #[.val (.ref a), .val (.ref b), .val (.int (Int32.ofNat o)), .val (.int (Int32.ofNat len)), .val .null, .val (.ref s.heap.size)] [])) := c14.trans (st15 _ (Steps.refl _))
  have ap := apart (Or.inr ⟨_, (wk W (.laysFinal "java/lang/String" "java/lang/String" "value" "[B"))⟩) (Or.inr ⟨_, (wk W (.laysFinal "java/lang/String" "java/lang/String" "coder" "B"))⟩) f1 f2 (t₁ := .array .byte) (t₂ := .byte) (by decide +kernel) (by decide +kernel) (by decide)
  have al := X8.warmed.alike.symm.trans X15.warmed.alike
  have n7 : T11.heap[s.heap.size]? = some N := by rw [q11]; exact n1.1
  exact ⟨T15, none, _, _, _, X15, by simp, rfl, by omega, (fun _ => rfl), ⟨rfl, _, N, bl15, ((Same.refl D _).set _ (by simp)).set _ (by simp), sl15, (Cell.slots_setSlot_ne _ ap).trans sl13, n1.keep al (p15.other hne (p13.other hne n7)), n2, by rw [al.findClass]; exact n3, n4, n5, fun y c h1 h2 => p15.other h1 (p13.other h1 (by rw [q11]; exact n6 y c h2)), by rw [p15.2.2, p13.2.2, q11]; exact z8⟩, fun fs hl => c16.trans (X15.returnOut hexec hret (hb hbytes d57) hl)⟩
end New4
namespace New1
def yN : MethodName := ⟨"java/lang/String", "<init>", "([C)V"⟩
abbrev yB : ByteArray := jdk_42_method_3_code
theorem d0 : decode yB 0 = .ok (.aload_n 0, 1) := by decide +kernel
theorem d1 : decode yB 1 = .ok (.aload_n 1, 1) := by decide +kernel
theorem d2 : decode yB 2 = .ok (.iconst 0, 1) := by decide +kernel
theorem d3 : decode yB 3 = .ok (.aload_n 1, 1) := by decide +kernel
theorem d4 : decode yB 4 = .ok (.arraylength, 1) := by decide +kernel
theorem d5 : decode yB 5 = .ok (.aconst_null, 1) := by decide +kernel
theorem d6 : decode yB 6 = .ok (.invokespecial 27, 3) := by decide +kernel
theorem d9 : decode yB 9 = .ok (.return_, 1) := by decide +kernel
def site : List Cond := [New4.tab] ++ initW "java/lang/String" 27 New4.yN
def tab : Cond := tabOf yN yB 2 none site
def P (a : Addr) (D : Cell) (fV fC : Field) (b : Addr) (A : Cell) (z : Int32) (args : Array Value) (s : State) : Prop := args = #[.ref a, .ref b] ∧ Blank "java/lang/String" a D s ∧ Found "java/lang/String" "value" "[B" fV s ∧ Found "java/lang/String" "coder" "B" fC s ∧ Ch b A s ∧ StaticIs s "java/lang/String" "COMPACT_STRINGS" "Z" (.int z) ∧ ¬ z = 0 ∧ 0 < A.slots.size ∧ A.slots.size ≤ 536870912 ∧ ∀ i, i < A.slots.size → ¬ 255 < cv A i
def E (a : Addr) (D : Cell) (fV fC : Field) (A : Cell) (r : Option Value) (s u : State) : Prop := Got a D fV fC A 0 A.slots.size r s u
/-- new String(chars), not empty, no char above 255: a Latin-1 String of their low bytes -/
theorem law (l : Launch) (a : Addr) (D : Cell) (fV fC : Field) (b : Addr) (A : Cell) (z : Int32) : Law l yN 2 1 3 52 yB 2 none site (P a D fV fC b A z) (E a D fV fC A) [⟨a, fC.slot⟩, ⟨a, fV.slot⟩] 1 A.slots.size := by
  refine Law.of_walk (plainFor_of_name (by decide +kernel)) (by decide +kernel) (by decide +kernel) (by decide) (fun _ _ h => by rw [h.1]; rfl) (fun _ U U' hal hh h => ⟨h.1, h.2.1.mv hal hh, h.2.2.1.al hal, h.2.2.2.1.al hal, h.2.2.2.2.1.mv hal hh, h.2.2.2.2.2.1.there hal hh, h.2.2.2.2.2.2⟩) (fun r U U' V V' h1 hal h2 h => Got.mv r U U' V V' h1 hal h2 h) ?_
  intro p e s m args below meth c s₁ X0 hexec hbytes hml hret hlk hnm hown hh0 W hP
  obtain ⟨rfl, hB, f1, f2, hA, s1, hz, l0, l2, hp⟩ := hP
  have c1 : Steps p.tables e below (s₁.setTop (entryFrame m #[.ref a, .ref b] 2)) (s₁.setTop (mkF m 0 #[.val (.ref a), .val (.ref b)] [])) := entry rfl
  have c2 : Steps p.tables e below (s₁.setTop (entryFrame m #[.ref a, .ref b] 2)) (s₁.setTop (mkF m 6 #[.val (.ref a), .val (.ref b)] [.null, .int (Int32.ofNat A.slots.size), .int 0, .ref b, .ref a])) := c1.trans (by
    refine XS.aloadN X0.here hexec rfl (hb hbytes d0) rfl rfl ?_
    refine XS.aloadN X0.here hexec rfl (hb hbytes d1) rfl rfl ?_
    refine iconstV X0.here hexec rfl 0 (hb hbytes d2) (by decide) ?_
    refine XS.aloadN X0.here hexec rfl (hb hbytes d3) rfl rfl ?_
    refine X0.alen hexec (hA.1.mv X0.warmed.alike hh0) rfl rfl (hb hbytes d4) ?_
    refine XS.aconstNull X0.here hexec rfl (hb hbytes d5) ?_
    exact Steps.refl _)
  obtain ⟨v3, T3, X3, E3, g3⟩ := X0.callN hexec (New4.law l a D fV fC b A z 0 A.slots.size) rfl hown (wks W (initW "java/lang/String" 27 New4.yN)) (W New4.tab (by simp only [site, List.mem_cons, List.mem_append, true_or, or_true])) (W := 0) (Nat.le_of_ble_eq_true rfl) (Nat.le_of_ble_eq_true rfl) (Nat.le_refl _) (by show 0 + A.slots.size ≤ A.slots.size; omega) (g := (mkF m 6 #[.val (.ref a), .val (.ref b)] [.null, .int (Int32.ofNat A.slots.size), .int (Int32.ofNat 0), .ref b, .ref a])) rfl (by rw [hml]; rfl) c2 (argsL := [.ref b, .int (Int32.ofNat 0), .int (Int32.ofNat A.slots.size), .null]) (rest := []) rfl rfl (by show 2 * 0 + 0 ≤ _; decide) (hb hbytes d6) (⟨rfl, hB.mv X0.warmed.alike hh0, f1.al X0.warmed.alike, f2.al X0.warmed.alike, hA.mv X0.warmed.alike hh0, s1.there X0.warmed.alike hh0, hz, l0, by omega, l2, fun i hi => by rw [Nat.zero_add]; exact hp i hi⟩)
  have e0 := Got.mv _ s₁ s _ _ hh0.symm (Vm.Alike.refl _) rfl E3
  obtain rfl := e0.1
  have c4 : Steps p.tables e below (s₁.setTop (entryFrame m #[.ref a, .ref b] 2)) (T3.setTop (mkF m 9 #[.val (.ref a), .val (.ref b)] [])) := g3
  exact ⟨T3, none, _, _, _, X3, by simp, rfl, by omega, (fun _ => rfl), e0, fun fs hl => c4.trans (X3.returnOut hexec hret (hb hbytes d9) hl)⟩
theorem pays {l : Launch} {R : Room} {p : Program} {e : Env} {below : List Frame} {s : State} {sargs : Array Value} {len W : Nat} (a : Addr) (D : Cell) (fV fC : Field) (b : Addr) (A : Cell) (z : Int32) (htab : tab.before sargs s = true) (hfr : 4 ≤ R.frames) (hlo : W + 65 ≤ R.locals) :
    Back l R p e below s sargs yN len W (fun A₁ a₁ => A₁.cells + 1 ≤ R.cells ∧ A₁.slots + A.slots.size ≤ R.slots ∧ P a D fV fC b A z a₁ A₁.U) (fun A₁ _ v₁ B₁ => E a D fV fC A v₁ A₁.U B₁.U ∧ B₁.locs = A₁.locs ++ [⟨a, fC.slot⟩, ⟨a, fV.slot⟩] ∧ B₁.cells = A₁.cells + 1 ∧ B₁.slots = A₁.slots + A.slots.size) :=
  (law l a D fV fC b A z).pays htab hfr (by omega)
end New1
end StrChars
namespace StrChars.Road
open Jvm Sem ClassFile Op Lib Jvm.Stand Jvm.Free Jvm.Free.XT
open Jvm.Lib.Cold (StaticIs)
abbrev ST : String := "java/lang/String"
/-- every table word that New1's law asks, flat -/
abbrev words : List Jvm.Cond := [.code New1.yN New1.yB 2 none, .initialized ST, .methodLink ST 27 New4.yN, .instanceMethod New4.yN,
  .code New4.yN New4.yB 6 none, .fieldLink ST 38 ST "COMPACT_STRINGS" "Z", .laysFinal ST ST "value" "[B", .fieldLink ST 9 ST "value" "[B", .laysFinal ST ST "coder" "B", .fieldLink ST 15 ST "coder" "B",
  .methodLink ST 1 Lib.objectInit, .instanceMethod Lib.objectInit, .code Lib.objectInit ⟨#[0xb1]⟩ 1 none, .methodLink ST 177 Cmp3.yN, .static Cmp3.yN, .methodLink ST 47 CodL.yN, .static CodL.yN,
  .code Cmp3.yN Cmp3.yB 6 (some (.array .byte)), .initialized U16, .arrayClass .byte, .methodLink U16 115 Cmp5.yN, .static Cmp5.yN, .code Cmp5.yN Cmp5.yB 7 (some .int), .code CodL.yN CodL.yB 2 (some .byte)]
theorem tab_of {a : Array Value} {s : State} (h : ∀ w ∈ words, w.before a s = true) : New1.tab.before a s = true := by
  have h5 : Cmp5.tab.before a s = true := unparts (wk h (.code Cmp5.yN Cmp5.yB 7 (some .int))) (wks h (.initialized Cmp5.yN.cls :: Cmp5.site))
  have hc : CodL.tab.before a s = true := unparts (wk h (.code CodL.yN CodL.yB 2 (some .byte))) (wks h (.initialized CodL.yN.cls :: CodL.site))
  have q5 : ∀ w ∈ Cmp5.tab :: words, w.before a s = true := fun w hw => (List.mem_cons.mp hw).elim (fun e => e ▸ h5) (h w)
  have h3 : Cmp3.tab.before a s = true := unparts (wk q5 (.code Cmp3.yN Cmp3.yB 6 (some (.array .byte)))) (wks q5 (.initialized Cmp3.yN.cls :: Cmp3.site))
  have q3 : ∀ w ∈ Cmp3.tab :: CodL.tab :: words, w.before a s = true := fun w hw => (List.mem_cons.mp hw).elim (fun e => e ▸ h3) fun hw => (List.mem_cons.mp hw).elim (fun e => e ▸ hc) (h w)
  have h4 : New4.tab.before a s = true := unparts (wk q3 (.code New4.yN New4.yB 6 none)) (wks q3 (.initialized New4.yN.cls :: New4.site))
  have q4 : ∀ w ∈ New4.tab :: words, w.before a s = true := fun w hw => (List.mem_cons.mp hw).elim (fun e => e ▸ h4) (h w)
  exact unparts (wk q4 (.code New1.yN New1.yB 2 none)) (wks q4 (.initialized New1.yN.cls :: New1.site))
/-- the words ride from the start Z to the walk's own state -/
theorem moved {Z s : State} {a0 args : Array Value} (hZ : Z.Warmed39 s.vm) (hw : ∀ d ∈ words, d.before a0 Z = true) : ∀ d ∈ words, d.before args s = true := fun d hd => by
  have q := hw d hd
  have t : ∀ d ∈ words, d = .arrayClass .byte ∨ (d.onTables && d.keepsFace) = true := by decide +kernel
  rcases t d hd with rfl | t
  · exact RoadKit.mvA hZ q
  · exact RoadKit.mv hZ q t
/-- WHAT COMES BACK, over the tables of the start Z: h the heap at the call, h' behind it -/
def Q (Z : State) (x : Addr) (A : Cell) (h : Heap) (v : Option Value) (h' : Heap) (L : List Loc) : Prop := v = none ∧ (∀ y ∈ L, y.base = x) ∧ RoadKit.Keep h h' [x] ∧ h'.size = h.size + 1 ∧ RoadKit.Exa Z h' x ST ∧ RoadKit.Fld Z h' x ST "value" "[B" (.ref h.size) ∧ RoadKit.Fld Z h' x ST "coder" "B" (.int 0) ∧
  (∃ V : Cell, RoadKit.Arr Z h' h.size V .byte ∧ V.vm = .none ∧ Z.vm.findClass "[B" = some V.cls ∧ V.slots.size = A.slots.size ∧ ∀ j, j < A.slots.size → V.slots[j]? = some (.int (lo8 (cv A j)))) ∧
  ∀ (O n d : String) (w : Value), RoadKit.Fld Z h x O n d w → RoadKit.slotOf Z O n d ≠ RoadKit.slotOf Z ST "value" "[B" → RoadKit.slotOf Z O n d ≠ RoadKit.slotOf Z ST "coder" "B" → RoadKit.Fld Z h' x O n d w
/-- **new String(chars) AT A CALL, IN THE ROAD'S FORM**: for specialBack behind newO: x the fresh String, b the char[] with the cell A -/
theorem back {p : Program} {l : Launch} {e : Env} {R : Room} {s : State} {args : Array Value} {below : List Frame} {len W : Nat} {Z : State} {a0 : Array Value} {h : Heap} (hZ : Z.Warmed39 s.vm) (hw : ∀ d ∈ words, d.before a0 Z = true) {kI : Nat} (wi : (Jvm.Cond.instantiable ST kI).before a0 Z = true)
    {x b : Addr} {A : Cell} {z : Int32} {v0 c0 : Value} (E : RoadKit.Exa Z h x ST) (V : RoadKit.Fld Z h x ST "value" "[B" v0) (C : RoadKit.Fld Z h x ST "coder" "B" c0) (K : RoadKit.Arr Z h b A .char) (hty : Typed .char A) (S : RoadKit.Sta Z h ST "COMPACT_STRINGS" "Z" (.int z)) (hz : ¬ z = 0)
    (l0 : 0 < A.slots.size) (l2 : A.slots.size ≤ 536870912) (hp : ∀ i, i < A.slots.size → ¬ 255 < cv A i) (hfr : 4 ≤ R.frames) (hlo : W + 65 ≤ R.locals) :
    Back l R p e below s args New1.yN len W (fun P a => a = #[.ref x, .ref b] ∧ P.U.heap = h ∧ P.cells + 1 ≤ R.cells ∧ P.slots + A.slots.size ≤ R.slots)
      (fun P _ v B => ∃ L, Q Z x A h v B.U.heap L ∧ B.locs = P.locs ++ L ∧ B.cells = P.cells + 1 ∧ B.slots = P.slots + A.slots.size) := by
  intro m meth c P g ig mk a X hg hsize hdg hW hn hp'
  obtain ⟨rfl, rfl, r1, r2⟩ := hp'
  have al : Z.vm.Alike P.U.vm := hZ.alike.trans X.warmed.alike
  obtain ⟨D, cfV, kV, iV, fV, hD, gV, stV, knV, obV, asV, slV⟩ := id V
  obtain ⟨D', cfC, kC, iC, fC, hD', gC, stC, -, -, asC, slC⟩ := id C
  cases hD.symm.trans hD'
  obtain ⟨D2, kD, e1, e2, e3, e4, e5⟩ := id E
  cases hD.symm.trans e1
  obtain ⟨c2, k2, i1, i2, i3, -⟩ := Cond.instantiable_spec wi
  cases e2.symm.trans i1
  cases e3.symm.trans i2
  obtain ⟨kU, u1, u2⟩ := al.2.2 _ _ e3
  have hB : Blank ST x D P.U := ⟨hD, ⟨knV, fun q hq => by rw [hq] at obV; cases obV⟩, by rw [al.findClass]; exact e2, kU, u1, by rw [u2]; exact i3, by rw [u2]; exact e5 i3⟩
  have F1 : Found ST "value" "[B" fV P.U := ⟨SBG.found_only al ⟨cfV, kV, iV, gV⟩, stV⟩
  have F2 : Found ST "coder" "B" fC P.U := ⟨SBG.found_only al ⟨cfC, kC, iC, gC⟩, stC⟩
  have hA : Ch b A P.U := ⟨⟨K.1, State.isArrayOf_alike al K.2.1, K.2.2, by omega⟩, hty⟩
  have hS : StaticIs P.U ST "COMPACT_STRINGS" "Z" (.int z) := by
    obtain ⟨cfS, iS, kS, fS, st, cS, t1, t2, t3, t4, t5, t6, t7⟩ := S
    exact StaticIs.there (s := { Z with heap := P.U.heap }) ⟨cfS, iS, kS, fS, st, cS, t1, t2, t3, t4, t5, (fun q => by rw [q] at t6; cases t6), t7⟩ al rfl
  obtain ⟨v, B, X', ⟨⟨hv, E', V', q1, q2, q3, q4, q5, q6, q7, q8, q9, q10, q11⟩, hl, hc, hs⟩, st⟩ := New1.pays x D fV fC b A z (tab_of (moved hZ hw)) hfr hlo m meth c P g ig mk _ X hg hsize hdg hW hn ⟨r1, r2, rfl, hB, F1, F2, hA, hS, hz, l0, l2, hp⟩
  have al' : Z.vm.Alike B.U.vm := hZ.alike.trans X'.warmed.alike
  have hsz : E'.slots.size = D.slots.size := by
    obtain ⟨-, -, -, kB, w1, w2, w3⟩ := q1
    obtain ⟨kB', y1, y2⟩ := al'.2.2 _ _ e3
    rw [q2.2.1] at w1
    cases w1.symm.trans y1
    rw [w3, e5 i3, y2]
  refine ⟨v, B, X', ⟨_, ⟨hv, ?_, ⟨by omega, fun y cy hy hn' => q10 y cy (by simpa using hn') hy, fun y cy hy => ?_⟩, q11, ⟨E', _, q1.1, by rw [q2.2.1]; exact e2, by rw [q2.2.1]; exact e3, by rw [q2.1]; exact obV, fun _ => by rw [hsz]; exact e5 i3⟩,
    ⟨E', cfV, kV, iV, fV, q1.1, gV, stV, by rw [q2.1]; exact knV, by rw [q2.1]; exact obV, by rw [q2.2.1]; exact asV, q3⟩, ⟨E', cfC, kC, iC, fC, q1.1, gC, stC, by rw [q2.1]; exact knV, by rw [q2.1]; exact obV, by rw [q2.2.1]; exact asC, q4⟩,
    ⟨V', ⟨q5.1, State.isArrayOf_alike al'.symm q5.2.1, q5.2.2.1⟩, q6, by rw [← al'.findClass]; exact q7, q8, fun j hj => by have := q9 j hj; rwa [Nat.zero_add] at this⟩, fun O n d w F n1 n2 => ?_⟩, hl, hc, hs⟩, st⟩
  · intro y hy
    simp only [List.mem_cons, List.not_mem_nil, or_false] at hy
    rcases hy with rfl | rfl <;> rfl
  · by_cases q : y = x
    · subst q
      cases hD.symm.trans hy
      exact ⟨E', q1.1, q2.2.1, q2.1, hsz⟩
    · exact ⟨cy, q10 y cy q hy, rfl, rfl, rfl⟩
  · obtain ⟨D3, cf, k, i, f, g1, g2, g3, g4, g5, g6, g7⟩ := F
    cases hD.symm.trans g1
    simp only [RoadKit.slotOf, g2, gV, gC, Option.map_some, Option.getD_some] at n1 n2
    exact ⟨E', cf, k, i, f, q1.1, g2, g3, by rw [q2.1]; exact g4, by rw [q2.1]; exact g5, by rw [q2.2.1]; exact g6, by rw [q2.2.2 f.slot (by simp [n1, n2])]; exact g7⟩
end StrChars.Road
namespace StrChars.Road
open Jvm Sem ClassFile Op Lib Jvm.Stand Jvm.Free Jvm.Free.XT
/-- WHAT COMES BACK, the byte[] as a list of values -/
def QA (Z : State) (x : Addr) (zn : Int32) (cs : List Int32) (h : Heap) (v : Option Value) (h' : Heap) (L : List Loc) : Prop := v = none ∧ (∀ y ∈ L, y.base = x) ∧ RoadKit.Keep h h' [x] ∧ h'.size = h.size + 1 ∧ RoadKit.Exa Z h' x ST ∧ RoadKit.Fld Z h' x ST "value" "[B" (.ref h.size) ∧ RoadKit.Fld Z h' x ST "coder" "B" (.int 0) ∧
  (∃ kb, Z.vm.findClass "[B" = some kb ∧ RoadKit.Arv Z h' h.size kb .byte zn (cs.map fun c => .int (lo8 c)) (.int 0)) ∧
  ∀ (O n d : String) (w : Value), RoadKit.Fld Z h x O n d w → RoadKit.slotOf Z O n d ≠ RoadKit.slotOf Z ST "value" "[B" → RoadKit.slotOf Z O n d ≠ RoadKit.slotOf Z ST "coder" "B" → RoadKit.Fld Z h' x O n d w
/-- **new String(chars) AT A CALL, THE ARRAYS AS LISTS**: the char[] at b holds cs, not empty, no char above 255 -/
theorem backArv {p : Program} {l : Launch} {e : Env} {R : Room} {s : State} {args : Array Value} {below : List Frame} {len W : Nat} {Z : State} {a0 : Array Value} {h : Heap} (hZ : Z.Warmed39 s.vm) (hw : ∀ d ∈ words, d.before a0 Z = true) {kI : Nat} (wi : (Jvm.Cond.instantiable ST kI).before a0 Z = true)
    {x b : Addr} {k : ClassId} {zn z : Int32} {cs : List Int32} {dv v0 c0 : Value} (E : RoadKit.Exa Z h x ST) (V : RoadKit.Fld Z h x ST "value" "[B" v0) (C : RoadKit.Fld Z h x ST "coder" "B" c0) (K : RoadKit.Arv Z h b k .char zn (cs.map Value.int) dv) (S : RoadKit.Sta Z h ST "COMPACT_STRINGS" "Z" (.int z)) (hz : ¬ z = 0)
    (hlen : zn.toNatClampNeg = cs.length) (h0 : 0 < cs.length) (hbig : cs.length ≤ 536870912) (hall : ∀ c ∈ cs, ¬ 255 < c) (hfr : 4 ≤ R.frames) (hlo : W + 65 ≤ R.locals) :
    Back l R p e below s args New1.yN len W (fun P a => a = #[.ref x, .ref b] ∧ P.U.heap = h ∧ P.cells + 1 ≤ R.cells ∧ P.slots + cs.length ≤ R.slots)
      (fun P _ v B => ∃ L, QA Z x zn cs h v B.U.heap L ∧ B.locs = P.locs ++ L ∧ B.cells = P.cells + 1 ∧ B.slots = P.slots + cs.length) := by
  obtain ⟨A, K1, K2, K3, K4, K5, K6⟩ := K
  have e : A.slots.size = cs.length := K3.trans hlen
  have hat : ∀ (i : Nat) (hi : i < cs.length), A.slots[i]? = some (.int cs[i]) := fun i hi => by rw [K5 i (by omega)]; simp [List.getD_eq_getElem?_getD, hi]
  have hcv : ∀ (i : Nat) (hi : i < cs.length), cv A i = cs[i] := fun i hi => by unfold cv; rw [hat i hi]
  have hty : Typed .char A := fun i v hv => by
    have hi : i < A.slots.size := (Array.getElem?_eq_some_iff.mp hv).1
    have q := K5 i hi
    rw [hv] at q
    rw [Option.some.inj q]
    exact K6 i hi
  refine Back.mono (back hZ hw wi E V C K1 hty S hz (by omega) (by omega) (fun i hi => by rw [hcv i (by omega)]; exact hall _ (List.getElem_mem _)) hfr hlo) (fun P a hp => ⟨hp.1, hp.2.1, hp.2.2.1, by rw [e]; exact hp.2.2.2⟩) (fun P a v B hp hq => ?_)
  obtain ⟨L, ⟨q1, q2, q3, q4, q5, q6, q7, ⟨V', v1, v2, v3, v4, v5⟩, q9⟩, hl, hc, hs⟩ := hq
  refine ⟨L, ⟨q1, q2, q3, q4, q5, q6, q7, ⟨V'.cls, v3, V', v1, rfl, by rw [v4, e, hlen], K4, fun i hi => ?_, fun i hi => ?_⟩, q9⟩, hl, hc, by rw [hs, e]⟩
  · have hi' : i < cs.length := by omega
    rw [v5 i (by omega), hcv i hi']; simp [List.getD_eq_getElem?_getD, hi']
  · have hi' : i < cs.length := by omega
    simp only [List.getD_eq_getElem?_getD, List.getElem?_map, List.getElem?_eq_getElem hi', Option.map_some, Option.getD_some]
    exact fits_lo8 _
end StrChars.Road
namespace StrChars.Road
open Jvm Sem ClassFile Op Lib Jvm.Stand Jvm.Free Jvm.Free.XT
/-- WHAT COMES BACK, in the writer's own shape -/
def QV (Z : State) (x : Addr) (N : Int32) (bs : List Int32) (h : Heap) (n0 : Nat) (v : Option Value) (h' : Heap) (L : List Loc) : Prop := v = none ∧ RoadKit.Fr n0 L ∧ RoadKit.Keep h h' [x] ∧ RoadKit.Exa Z h' x ST ∧ RoadKit.Fld Z h' x ST "coder" "B" (.int 0) ∧
  ∃ (t : Addr) (kb : ClassId), n0 ≤ t ∧ h.size ≤ t ∧ ¬ t = x ∧ RoadKit.Fld Z h' x ST "value" "[B" (.ref t) ∧ RoadKit.Arv Z h' t kb .byte N (bs.map Value.int) (.int 0)
/-- **new String(chars) AT A CALL, FOR THE WRITER**: a char[] of n known ints, each 0 to 255 -/
theorem backV {p : Program} {l : Launch} {e : Env} {R : Room} {s : State} {args : Array Value} {below : List Frame} {len W : Nat} {Z : State} {a0 : Array Value} {h : Heap} (hZ : Z.Warmed39 s.vm) (hw : ∀ d ∈ words, d.before a0 Z = true) {kI : Nat} (wi : (Jvm.Cond.instantiable ST kI).before a0 Z = true)
    {x b : Addr} {kC : ClassId} {cs bs : List Int32} {d v0 c0 : Value} {z N : Int32} {n n0 : Nat} (hx0 : n0 ≤ x) (hh0 : n0 ≤ h.size) (E : RoadKit.Exa Z h x ST) (V : RoadKit.Fld Z h x ST "value" "[B" v0) (C : RoadKit.Fld Z h x ST "coder" "B" c0) (K : RoadKit.Arv Z h b kC .char N (cs.map Value.int) d) (S : RoadKit.Sta Z h ST "COMPACT_STRINGS" "Z" (.int z)) (hz : ¬ z = 0)
    (hn : cs.length = n) (hN : N = Int32.ofNat n) (l0 : 0 < n) (l2 : n ≤ 4000) (hp : ∀ c ∈ cs, ¬ c < 0 ∧ ¬ (255 : Int32) < c) (hb : bs = cs.map (fun c => c.toInt8.toInt32)) (hfr : 4 ≤ R.frames) (hlo : W + 65 ≤ R.locals) :
    Back l R p e below s args (⟨"java/lang/String", "<init>", "([C)V"⟩ : MethodName) len W (fun P a => a = #[.ref x, .ref b] ∧ P.U.heap = h ∧ P.cells + 1 ≤ R.cells ∧ P.slots + n ≤ R.slots)
      (fun P _ v B => ∃ L, QV Z x N bs h n0 v B.U.heap L ∧ B.locs = P.locs ++ L ∧ B.cells = P.cells + 1 ∧ B.slots = P.slots + n) := by
  subst hn hN hb
  refine Back.mono (backArv hZ hw wi E V C K S hz (n32 (by omega)) l0 (by omega) (fun c hc => (hp c hc).2) hfr hlo) (fun P a hp => hp) (fun P a v B hp hq => ?_)
  obtain ⟨L, ⟨q1, q2, q3, q4, q5, q6, q7, ⟨kb, v1, v2⟩, q9⟩, hl, hc, hs⟩ := hq
  exact ⟨L, ⟨q1, fun y hy => by rw [q2 y hy]; exact hx0, q3, q5, q7, h.size, kb, hh0, Nat.le_refl _, Nat.ne_of_gt E.lt, q6, by rw [List.map_map]; exact v2⟩, hl, hc, hs⟩
end StrChars.Road
end Jvm.Pilot.@@N@@
namespace Jvm.Pilot.@@N@@
open Jvm Jvm.ClassFile Sem Op Lib Jvm.Free Jvm.Stand Jvm.LawKit Jvm.RoadKit Bundle Jvm.Pilot.@@N@@.Jvm.D
section OwnKit
variable {p : Program} {l : Launch} {e : Env} {R : Room} {s : State} {m : MethodId} {args : Array Value} {below : List Frame} {meth : Method} {c : Code} {T T' : State} {locs : List Loc} {cells slots : Nat} {Z : State} {a0 : Array Value} {h : Heap}
def own_Fin (p : Program) (e : Env) (below : List Frame) (P : Outcome → State → Prop) (T : State) (g : JFrame) : Prop :=
  ∃ s₂ o, Steps p.tables e below (T.setTop g) s₂ ∧ s₂.status = .running ∧ Ended s₂ below o ∧ P o s₂
def own_P (s : State) (Q : Option Value → Heap → List Loc → Prop) (k n : Nat) (o : Outcome) (t : State) : Prop := ∃ v L, o = .returned v ∧ Q v t.heap L ∧ FrameEnd s o t L k n
theorem own_by {P : Outcome → State → Prop} {g g' : JFrame} (st : ∀ t, Steps p.tables e below (T'.setTop g') t → Steps p.tables e below (T.setTop g) t) (k : own_Fin p e below P T' g') : own_Fin p e below P T g := by
  obtain ⟨s₂, o, h1, h2⟩ := k
  exact ⟨s₂, o, st _ h1, h2⟩
theorem own_start {s₁ : State} {Q : Option Value → Heap → List Loc → Prop} {k n : Nat} {ml : Nat} {g : JFrame} (hef : entryFrame m args ml = g) (hk : own_Fin p e below (own_P s Q k n) s₁ g) :
    ∃ s₂ o, Steps p.tables e below (s₁.setTop (entryFrame m args ml)) s₂ ∧ s₂.status = .running ∧ Ended s₂ below o ∧ ∃ v L, o = .returned v ∧ Q v s₂.heap L ∧ FrameEnd s o s₂ L k n := by
  rw [hef]; exact hk
theorem own_end (X : Stand p l e R s m args below meth c T locs cells slots) {v : Option Value} (hv : meth.sig.returnType = none → v = none) (hlocks : meth.locks = false) {g : JFrame}
    (hret : ∀ {fs : List Frame}, (∀ (f : JFrame) (acts : List Action), f.method = m → f.locked = none → f.entered = [] → (doReturn e (T.setTop f) acts v).1 = T.setFrames fs) → Steps p.tables e below (T.setTop g) (T.setFrames fs))
    {Q : Option Value → Heap → List Loc → Prop} {k n : Nat} (hQ : Q v T.heap locs) (hk : cells ≤ k) (hn : slots ≤ n) : own_Fin p e below (own_P s Q k n) T g := by
  obtain ⟨fs, hr, hrun, hended, hW, hsame⟩ := X.leave hv hlocks
  exact ⟨_, _, hret hr, hrun, hended, _, _, rfl, hQ, ⟨_, rfl⟩, hW, hsame.mono hk hn⟩
theorem own_nf {C : String} {y : MethodName} (w : (Jvm.Cond.selects C y y).before a0 Z = true) : ∀ {s : State}, Z.Warmed39 s.vm → NotFace s y := fun hZ => notFace_of_selects (args := #[]) (mvT hZ w)
theorem own_callSB (X : Stand p l e R s m args below meth c T locs cells slots) (hx : p.tables.exec = Jvm.exec) (hZ : Z.Warmed39 s.vm) {own : String} {index : Nat} {y : MethodName} {bytes : ByteArray} {maxL W : Nat} {ret : Option FieldType} {kc ks : Nat} {as' : Array Value} {Q : Option Value → Heap → List Loc → Prop}
    (hown : s.vm.findClass own = some m.cls) (w1 : (Jvm.Cond.methodLink own index y).before a0 Z = true) (w2 : (Jvm.Cond.static y).before a0 Z = true) (w3 : (Jvm.Cond.initialized y.cls).before a0 Z = true) (w4 : (Jvm.Cond.code y bytes maxL ret).before a0 Z = true) (hy : y.cls ≠ "java/lang/invoke/MethodHandle" ∧ y.cls ≠ "java/lang/invoke/VarHandle")
    (hK : Back l R p e below s args y 3 W (fun A a => a = as' ∧ A.U.heap = h ∧ A.cells + kc ≤ R.cells ∧ A.slots + ks ≤ R.slots) (fun A _ v B => ∃ L, Q v B.U.heap L ∧ B.locs = A.locs ++ L ∧ B.cells = A.cells + kc ∧ B.slots = A.slots + ks))
    (eT : T.heap = h) {g : JFrame} (hg : g.method = m) (hsize : g.locals.size = c.maxLocals) {argsL rest : List Value} (hlen : ∀ sig, parseMethodDescriptor y.desc = some sig → argsL.length = sig.parameters.length)
    (hstack : g.stack = argsL.reverse ++ rest) (hW : 2 * g.monitorRoom + (rest.map fun v => v.category).sum ≤ W) (hdg : decode c.code g.pc = .ok (.invokestatic index, 3)) (has : argsL.toArray = as') (hc : cells + kc ≤ R.cells) (hs : slots + ks ≤ R.slots) {P : Outcome → State → Prop}
    (k : ∀ (v : Option Value) (T' : State) (L : List Loc), Stand p l e R s m args below meth c T' (locs ++ L) (cells + kc) (slots + ks) → Q v T'.heap L → own_Fin p e below P T' { g with pc := g.pc + 3, stack := v.toList ++ rest }) : own_Fin p e below P T g := by
  obtain ⟨v, _, ⟨U', L', k', n'⟩, -, X', ⟨Lc, hQ, l1, l2, l3⟩, st⟩ := Jvm.LawKit.callS X hx (y := y) hown (mvT hZ w1) (mvT hZ w2) (mvT hZ w3) (mvT hZ w4) hy hK hg hsize hlen hstack hW hdg (fun _ _ => ⟨has, eT, hc, hs⟩)
  dsimp only [Pt.U, Pt.locs, Pt.cells, Pt.slots] at X' l1 l2 l3 st hQ
  subst l1 l2 l3
  exact own_by st (k v U' Lc X' hQ)
theorem own_callS (X : Stand p l e R s m args below meth c T locs cells slots) (hx : p.tables.exec = Jvm.exec) (hZ : Z.Warmed39 s.vm) {own : String} {index : Nat} {y : MethodName} {bytes : ByteArray} {maxL W : Nat} {ret : Option FieldType} {rm : Room} {as' : Array Value} {Q : Option Value → Heap → List Loc → Prop}
    (hown : s.vm.findClass own = some m.cls) (w1 : (Jvm.Cond.methodLink own index y).before a0 Z = true) (w2 : (Jvm.Cond.static y).before a0 Z = true) (w3 : (Jvm.Cond.initialized y.cls).before a0 Z = true) (w4 : (Jvm.Cond.code y bytes maxL ret).before a0 Z = true) (hy : y.cls ≠ "java/lang/invoke/MethodHandle" ∧ y.cls ≠ "java/lang/invoke/VarHandle")
    (hM : MetFree l y (head1 [Jvm.Cond.code y bytes maxL ret] rm) (fun a U => a = as' ∧ Z.Warmed39 U.vm ∧ U.heap = h) (fun _ _ _ _ _ => True) (fun _ U o U' => ∃ v L, o = .returned v ∧ Q v U'.heap L ∧ FrameEnd U o U' L rm.cells rm.slots))
    (hf : rm.frames + 1 ≤ R.frames) (hl : W + (maxL + 11) + rm.locals ≤ R.locals) (eT : T.heap = h) {g : JFrame} (hg : g.method = m) (hsize : g.locals.size = c.maxLocals) {argsL rest : List Value} (hlen : ∀ sig, parseMethodDescriptor y.desc = some sig → argsL.length = sig.parameters.length)
    (hstack : g.stack = argsL.reverse ++ rest) (hW : 2 * g.monitorRoom + (rest.map fun v => v.category).sum ≤ W) (hdg : decode c.code g.pc = .ok (.invokestatic index, 3)) (has : argsL.toArray = as') (hc : cells + rm.cells ≤ R.cells) (hs : slots + rm.slots ≤ R.slots) {P : Outcome → State → Prop}
    (k : ∀ (v : Option Value) (T' : State) (L : List Loc), Stand p l e R s m args below meth c T' (locs ++ L) (cells + rm.cells) (slots + rm.slots) → Q v T'.heap L → own_Fin p e below P T' { g with pc := g.pc + 3, stack := v.toList ++ rest }) : own_Fin p e below P T g :=
  own_callSB X hx hZ hown w1 w2 w3 w4 hy (backOf (W := W) hM hZ w4 w3 hf hl) eT hg hsize hlen hstack hW hdg has hc hs k
theorem own_callIB (X : Stand p l e R s m args below meth c T locs cells slots) (hx : p.tables.exec = Jvm.exec) (hZ : Z.Warmed39 s.vm) {own : String} {index : Nat} {y : MethodName} {bytes : ByteArray} {maxL W : Nat} {kc ks : Nat} {as' : Array Value} {Q : Option Value → Heap → List Loc → Prop} (hin : y.name = "<init>")
    (hown : s.vm.findClass own = some m.cls) (w1 : (Jvm.Cond.methodLink own index y).before a0 Z = true) (w2 : (Jvm.Cond.instanceMethod y).before a0 Z = true) (w4 : (Jvm.Cond.code y bytes maxL none).before a0 Z = true) (hy : y.cls ≠ "java/lang/invoke/MethodHandle" ∧ y.cls ≠ "java/lang/invoke/VarHandle")
    (hK : Back l R p e below s args y 3 W (fun A a => a = as' ∧ A.U.heap = h ∧ A.cells + kc ≤ R.cells ∧ A.slots + ks ≤ R.slots) (fun A _ v B => ∃ L, Q v B.U.heap L ∧ B.locs = A.locs ++ L ∧ B.cells = A.cells + kc ∧ B.slots = A.slots + ks))
    (eT : T.heap = h) {g : JFrame} (hg : g.method = m) (hsize : g.locals.size = c.maxLocals) {a : Addr} {argsL rest : List Value} (hlen : ∀ sig, parseMethodDescriptor y.desc = some sig → argsL.length = sig.parameters.length)
    (hstack : g.stack = argsL.reverse ++ .ref a :: rest) (hW : 2 * g.monitorRoom + (rest.map fun v => v.category).sum ≤ W) (hdg : decode c.code g.pc = .ok (.invokespecial index, 3)) (has : (.ref a :: argsL).toArray = as') (hc : cells + kc ≤ R.cells) (hs : slots + ks ≤ R.slots) {P : Outcome → State → Prop}
    (k : ∀ (v : Option Value) (T' : State) (L : List Loc), Stand p l e R s m args below meth c T' (locs ++ L) (cells + kc) (slots + ks) → Q v T'.heap L → own_Fin p e below P T' { g with pc := g.pc + 3, stack := v.toList ++ rest }) : own_Fin p e below P T g := by
  obtain ⟨v, _, ⟨U', L', k', n'⟩, -, X', ⟨Lc, hQ, l1, l2, l3⟩, st⟩ := X.specialBack hx (y := y) hin hown (mvT hZ w1) (mvT hZ w2) (mvT hZ w4) hy hK hg hsize (Steps.refl _) (a := a) hlen hstack hW hdg (fun _ _ => ⟨has, eT, hc, hs⟩)
  dsimp only [Pt.U, Pt.locs, Pt.cells, Pt.slots] at X' l1 l2 l3 st hQ
  subst l1 l2 l3
  exact own_by (fun _ q => st.trans q) (k v U' Lc X' hQ)
theorem own_callI (X : Stand p l e R s m args below meth c T locs cells slots) (hx : p.tables.exec = Jvm.exec) (hZ : Z.Warmed39 s.vm) {own : String} {index : Nat} {y : MethodName} {bytes : ByteArray} {maxL W : Nat} {rm : Room} {as' : Array Value} {Q : Option Value → Heap → List Loc → Prop} (hin : y.name = "<init>")
    (hown : s.vm.findClass own = some m.cls) (w1 : (Jvm.Cond.methodLink own index y).before a0 Z = true) (w2 : (Jvm.Cond.instanceMethod y).before a0 Z = true) (w4 : (Jvm.Cond.code y bytes maxL none).before a0 Z = true) (w3 : (Jvm.Cond.initialized y.cls).before a0 Z = true) (hy : y.cls ≠ "java/lang/invoke/MethodHandle" ∧ y.cls ≠ "java/lang/invoke/VarHandle")
    (hM : MetFree l y (head1 [Jvm.Cond.code y bytes maxL none] rm) (fun a U => a = as' ∧ Z.Warmed39 U.vm ∧ U.heap = h) (fun _ _ _ _ _ => True) (fun _ U o U' => ∃ v L, o = .returned v ∧ Q v U'.heap L ∧ FrameEnd U o U' L rm.cells rm.slots))
    (hf : rm.frames + 1 ≤ R.frames) (hl : W + (maxL + 11) + rm.locals ≤ R.locals) (eT : T.heap = h) {g : JFrame} (hg : g.method = m) (hsize : g.locals.size = c.maxLocals) {a : Addr} {argsL rest : List Value} (hlen : ∀ sig, parseMethodDescriptor y.desc = some sig → argsL.length = sig.parameters.length)
    (hstack : g.stack = argsL.reverse ++ .ref a :: rest) (hW : 2 * g.monitorRoom + (rest.map fun v => v.category).sum ≤ W) (hdg : decode c.code g.pc = .ok (.invokespecial index, 3)) (has : (.ref a :: argsL).toArray = as') (hc : cells + rm.cells ≤ R.cells) (hs : slots + rm.slots ≤ R.slots) {P : Outcome → State → Prop}
    (k : ∀ (v : Option Value) (T' : State) (L : List Loc), Stand p l e R s m args below meth c T' (locs ++ L) (cells + rm.cells) (slots + rm.slots) → Q v T'.heap L → own_Fin p e below P T' { g with pc := g.pc + 3, stack := v.toList ++ rest }) : own_Fin p e below P T g :=
  own_callIB X hx hZ hin hown w1 w2 w4 hy (backOf (W := W) hM hZ w4 w3 hf hl) eT hg hsize hlen hstack hW hdg has hc hs k
theorem own_callVB (X : Stand p l e R s m args below meth c T locs cells slots) (hx : p.tables.exec = Jvm.exec) (hZ : Z.Warmed39 s.vm) {own C : String} {index : Nat} {y z : MethodName} {W : Nat} {kc ks : Nat} {as' : Array Value} {Q : Option Value → Heap → List Loc → Prop}
    (hown : s.vm.findClass own = some m.cls) (w1 : (Jvm.Cond.methodLink own index y).before a0 Z = true) (w2 : (Jvm.Cond.declares y).before a0 Z = true) (nf : ∀ {s : State}, Z.Warmed39 s.vm → NotFace s y) (w5 : (Jvm.Cond.selects C y z).before a0 Z = true) (w6 : (Jvm.Cond.instanceMethod z).before a0 Z = true) (hy : y.cls ≠ "java/lang/invoke/MethodHandle" ∧ y.cls ≠ "java/lang/invoke/VarHandle")
    {b : Addr} (E : Exa Z h b C)
    (hK : Back l R p e below s args z 3 W (fun A a => a = as' ∧ A.U.heap = h ∧ A.cells + kc ≤ R.cells ∧ A.slots + ks ≤ R.slots) (fun A _ v B => ∃ L, Q v B.U.heap L ∧ B.locs = A.locs ++ L ∧ B.cells = A.cells + kc ∧ B.slots = A.slots + ks))
    (eT : T.heap = h) {g : JFrame} (hg : g.method = m) (hsize : g.locals.size = c.maxLocals) {argsL rest : List Value} (hlen : ∀ sig, parseMethodDescriptor y.desc = some sig → argsL.length = sig.parameters.length)
    (hstack : g.stack = argsL.reverse ++ .ref b :: rest) (hW : 2 * g.monitorRoom + (rest.map fun v => v.category).sum ≤ W) (hdg : decode c.code g.pc = .ok (.invokevirtual index, 3)) (has : (.ref b :: argsL).toArray = as') (hc : cells + kc ≤ R.cells) (hs : slots + ks ≤ R.slots) {P : Outcome → State → Prop}
    (k : ∀ (v : Option Value) (T' : State) (L : List Loc), Stand p l e R s m args below meth c T' (locs ++ L) (cells + kc) (slots + ks) → Q v T'.heap L → own_Fin p e below P T' { g with pc := g.pc + 3, stack := v.toList ++ rest }) : own_Fin p e below P T g := by
  obtain ⟨cq, kq, qa, qb, qc⟩ := isOf hZ eT E
  obtain ⟨v, _, ⟨U', L', k', n'⟩, -, X', ⟨Lc, hQ, l1, l2, l3⟩, st⟩ := X.virtualBack hx (y := y) (z := z) hown (mvT hZ w1) (mvT hZ w2) (nf hZ) (mvT hZ w5) (mvT hZ w6) hy hK qa qc hg hsize (Steps.refl _) hlen hstack hW hdg (fun _ _ => ⟨has, eT, hc, hs⟩)
  dsimp only [Pt.U, Pt.locs, Pt.cells, Pt.slots] at X' l1 l2 l3 st hQ
  subst l1 l2 l3
  exact own_by (fun _ q => st.trans q) (k v U' Lc X' hQ)
theorem own_callV (X : Stand p l e R s m args below meth c T locs cells slots) (hx : p.tables.exec = Jvm.exec) (hZ : Z.Warmed39 s.vm) {own C : String} {index : Nat} {y z : MethodName} {bytes : ByteArray} {maxL W : Nat} {ret : Option FieldType} {rm : Room} {as' : Array Value} {Q : Option Value → Heap → List Loc → Prop}
    (hown : s.vm.findClass own = some m.cls) (w1 : (Jvm.Cond.methodLink own index y).before a0 Z = true) (w2 : (Jvm.Cond.declares y).before a0 Z = true) (nf : ∀ {s : State}, Z.Warmed39 s.vm → NotFace s y) (w5 : (Jvm.Cond.selects C y z).before a0 Z = true) (w6 : (Jvm.Cond.instanceMethod z).before a0 Z = true) (w4 : (Jvm.Cond.code z bytes maxL ret).before a0 Z = true) (w3 : (Jvm.Cond.initialized z.cls).before a0 Z = true) (hy : y.cls ≠ "java/lang/invoke/MethodHandle" ∧ y.cls ≠ "java/lang/invoke/VarHandle")
    {b : Addr} (E : Exa Z h b C)
    (hM : MetFree l z (head1 [Jvm.Cond.code z bytes maxL ret] rm) (fun a U => a = as' ∧ Z.Warmed39 U.vm ∧ U.heap = h) (fun _ _ _ _ _ => True) (fun _ U o U' => ∃ v L, o = .returned v ∧ Q v U'.heap L ∧ FrameEnd U o U' L rm.cells rm.slots))
    (hf : rm.frames + 1 ≤ R.frames) (hl : W + (maxL + 11) + rm.locals ≤ R.locals) (eT : T.heap = h) {g : JFrame} (hg : g.method = m) (hsize : g.locals.size = c.maxLocals) {argsL rest : List Value} (hlen : ∀ sig, parseMethodDescriptor y.desc = some sig → argsL.length = sig.parameters.length)
    (hstack : g.stack = argsL.reverse ++ .ref b :: rest) (hW : 2 * g.monitorRoom + (rest.map fun v => v.category).sum ≤ W) (hdg : decode c.code g.pc = .ok (.invokevirtual index, 3)) (has : (.ref b :: argsL).toArray = as') (hc : cells + rm.cells ≤ R.cells) (hs : slots + rm.slots ≤ R.slots) {P : Outcome → State → Prop}
    (k : ∀ (v : Option Value) (T' : State) (L : List Loc), Stand p l e R s m args below meth c T' (locs ++ L) (cells + rm.cells) (slots + rm.slots) → Q v T'.heap L → own_Fin p e below P T' { g with pc := g.pc + 3, stack := v.toList ++ rest }) : own_Fin p e below P T g :=
  own_callVB X hx hZ hown w1 w2 nf w5 w6 hy E (backOf (W := W) hM hZ w4 w3 hf hl) eT hg hsize hlen hstack hW hdg has hc hs k
theorem own_narR {t : FieldType} {w : Value} (ht : t.isReference = true) : narrow t w = w := by cases t <;> first | rfl | (cases ht)
theorem own_fldI {t : Term} {C n d : String} {k : Int32} {a : Addr} (hv : (Jvm.Cond.eq (.field t C n d) (.int k)).value args s none s [] = some true) (ht : t.eval args s none [] s = some (.ref a)) : Fld s s.heap a C n d (.int k) := by
  obtain ⟨x, y, e1, e2, k1, k2⟩ := cmp_v (Or.inl hv)
  rw [Term.int_eval] at e2
  cases e2
  obtain ⟨z, rfl⟩ := k2
  have q : z = k := by simpa [Jvm.Cond.value, e1, Term.int_eval] using hv
  rw [fld_at ht] at e1
  exact Fld.start (q ▸ e1)
theorem own_clash {x y z : Int32} (h : x = y) (n : ¬ y = z) : ¬ x = z := fun q => n (h.symm.trans q)
theorem own_rem (x y : Int32) (n : Int) (hy : y.toInt = n) (hn : 0 < n) : 0 ≤ ((x &&& (2147483647 : Int32)) % y).toInt ∧ ((x &&& (2147483647 : Int32)) % y).toInt < n := by
  have h0 := c_and x 2147483647 (by decide)
  have h1 := (c_irem (x &&& 2147483647) y n hy).1 h0.1
  rw [h1]
  exact ⟨Int.emod_nonneg _ (by omega), Int.emod_lt_of_pos _ hn⟩
theorem own_eqI {x y : Int32} (h : x.toInt = y.toInt) : x = y := Int32.toInt_inj.mp h
theorem own_neI {x y : Int32} (h : ¬ x = y) : x.toInt ≠ y.toInt := fun q => h (Int32.toInt_inj.mp q)
theorem own_fitsR {t : FieldType} {v : Value} (ht : t.isReference = true) (hv : v.isRef = true) : fits t v = true := by
  rcases ref_cases hv with rfl | ⟨a, rfl⟩ <;> cases t <;> first | rfl | (cases ht)
theorem own_cat {v : Value} (hv : v.isRef = true) : v.category = 1 := by
  rcases ref_cases hv with rfl | ⟨a, rfl⟩ <;> rfl
theorem own_store1 {L : Array Slot} {i : Nat} {v : Value} {o : Slot} {L' : Array Slot} (hold : L[i]? = some o) (ho : One o) (hv : v.category = 1) (e : L.setIfInBounds i (.val v) = L') : storeLocals L i v = some L' := by
  rw [← e]; exact XS.store1 hold ho hv
end OwnKit
section OwnKitW
variable {p : Program} {l : Launch} {e : Env} {R : Room} {s : State} {m : MethodId} {args : Array Value} {below : List Frame} {meth : Method} {c : Code} {T T' : State} {locs : List Loc} {cells slots : Nat} {Z : State} {a0 : Array Value} {h : Heap} {vm0 : Vm} {EL : List (String × Nat)}
def own_PW (Z : State) (EL : List (String × Nat)) (s : State) (Q : Option Value → Heap → List Loc → Prop) (k n : Nat) (o : Outcome) (t : State) : Prop := ∃ v L, o = .returned v ∧ Q v t.heap L ∧ CHr Z EL s.vm s.heap t.vm t.heap ∧ ReturnedEndW s o t L k n
theorem own_startW {s₁ : State} {Q : Option Value → Heap → List Loc → Prop} {k n : Nat} {ml : Nat} {g : JFrame} (hef : entryFrame m args ml = g) (hk : own_Fin p e below (own_PW Z EL s Q k n) s₁ g) :
    ∃ s₂ o, Steps p.tables e below (s₁.setTop (entryFrame m args ml)) s₂ ∧ s₂.status = .running ∧ Ended s₂ below o ∧ ∃ v L, o = .returned v ∧ Q v s₂.heap L ∧ CHr Z EL s.vm s.heap s₂.vm s₂.heap ∧ ReturnedEndW s o s₂ L k n := by
  rw [hef]; exact hk
theorem own_endW (X : Stand p l e R (s.setVm vm0) m args below meth c T locs cells slots) {k0 : Nat} (hS : s.Since vm0 k0) (hk0 : k0 ≤ T.heap.size) (hZ : Z.Warmed39 vm0) (hEL : EW Z a0 EL) (C : CHr Z EL s.vm s.heap vm0 T.heap) {v : Option Value} (hv : meth.sig.returnType = none → v = none) (hlocks : meth.locks = false) {g : JFrame}
    (hret : ∀ {fs : List Frame}, (∀ (f : JFrame) (acts : List Action), f.method = m → f.locked = none → f.entered = [] → (doReturn e (T.setTop f) acts v).1 = T.setFrames fs) → Steps p.tables e below (T.setTop g) (T.setFrames fs))
    {Q : Option Value → Heap → List Loc → Prop} {k n : Nat} (hQ : Q v T.heap locs) (hk : cells ≤ k) (hn : slots ≤ n) : own_Fin p e below (own_PW Z EL s Q k n) T g := by
  obtain ⟨fs, hr, hrun, hended, hW⟩ := X.leaveW hS hk0 hv hlocks
  have C2 : CHr Z EL s.vm s.heap T.vm T.heap := C.trans (CHv.at X hZ hEL C.1)
  exact ⟨_, _, hret hr, hrun, hended, _, _, rfl, hQ, C2, hW.1, hW.2.1, hW.2.2.1, hW.2.2.2.mono hk hn⟩
theorem own_callSW (X : Stand p l e R (s.setVm vm0) m args below meth c T locs cells slots) (hx : p.tables.exec = Jvm.exec) (hZ : Z.Warmed39 vm0) {own : String} {index : Nat} {y : MethodName} {bytes : ByteArray} {maxL W : Nat} {ret : Option FieldType} {rm : Room} {as' : Array Value} {Q : Option Value → Heap → List Loc → Prop}
    (hown : vm0.findClass own = some m.cls) (w1 : (Jvm.Cond.methodLink own index y).before a0 Z = true) (w2 : (Jvm.Cond.static y).before a0 Z = true) (w3 : (Jvm.Cond.initialized y.cls).before a0 Z = true) (w4 : (Jvm.Cond.code y bytes maxL ret).before a0 Z = true) (hy : y.cls ≠ "java/lang/invoke/MethodHandle" ∧ y.cls ≠ "java/lang/invoke/VarHandle")
    {k0 : Nat} (hS : s.Since vm0 k0) (hk0 : k0 ≤ h.size) (hEL : EW Z a0 EL) (H : CHv Z EL vm0 h)
    (hM : MetFree l y (head1 [Jvm.Cond.code y bytes maxL ret] rm) (fun a U => a = as' ∧ Z.Warmed39 U.vm ∧ U.heap = h ∧ CHv Z EL U.vm h) (fun _ _ _ _ _ => True) (fun _ U o U' => ∃ v L, o = .returned v ∧ Q v U'.heap L ∧ CHr Z EL U.vm U.heap U'.vm U'.heap ∧ ReturnedEndW U o U' L rm.cells rm.slots))
    (hf : rm.frames + 1 ≤ R.frames) (hl : W + (maxL + 11) + rm.locals ≤ R.locals) (eT : T.heap = h) {g : JFrame} (hg : g.method = m) (hsize : g.locals.size = c.maxLocals) {argsL rest : List Value} (hlen : ∀ sig, parseMethodDescriptor y.desc = some sig → argsL.length = sig.parameters.length)
    (hstack : g.stack = argsL.reverse ++ rest) (hW : 2 * g.monitorRoom + (rest.map fun v => v.category).sum ≤ W) (hdg : decode c.code g.pc = .ok (.invokestatic index, 3)) (has : argsL.toArray = as') (hc : cells + rm.cells ≤ R.cells) (hs : slots + rm.slots ≤ R.slots) {P : Outcome → State → Prop}
    (k : ∀ (v : Option Value) (T' : State) (L : List Loc), Stand p l e R (s.setVm T'.vm) m args below meth c T' (locs ++ L) (cells + rm.cells) (slots + rm.slots) → s.Since T'.vm T'.heap.size → Z.Warmed39 T'.vm → T'.vm.findClass own = some m.cls → CHr Z EL vm0 h T'.vm T'.heap → Q v T'.heap L → own_Fin p e below P T' { g with pc := g.pc + 3, stack := v.toList ++ rest }) : own_Fin p e below P T g := by
  obtain ⟨v, _, ⟨U', L', k', n'⟩, -, X', hS2, hgr, ⟨Lc, hQ, l1, l2, l3, hC⟩, st⟩ := callSS X hx (y := y) hown (mvT (s := s.setVm vm0) hZ w1) (mvT (s := s.setVm vm0) hZ w2) (mvT (s := s.setVm vm0) hZ w3) (mvT (s := s.setVm vm0) hZ w4) hy (backOfSH (W := W) hM hZ w4 w3 hf hl hEL H) hg hsize hlen hstack hW hdg (fun _ _ => ⟨has, eT, hc, hs⟩)
  dsimp only [Pt.U, Pt.locs, Pt.cells, Pt.slots] at X' l1 l2 l3 st hQ hC hS2 hgr
  subst l1 l2 l3
  exact own_by (fun _ q => st.trans q) (k v U' Lc X' (foldS hS (by rw [eT]; exact hk0) hS2 hgr) (State.Warmed39.trans (t := s.setVm vm0) hZ hS2.1) (by rw [hS2.1.alike.findClass]; exact hown) hC hQ)
theorem own_callIW (X : Stand p l e R (s.setVm vm0) m args below meth c T locs cells slots) (hx : p.tables.exec = Jvm.exec) (hZ : Z.Warmed39 vm0) {own : String} {index : Nat} {y : MethodName} {bytes : ByteArray} {maxL W : Nat} {rm : Room} {as' : Array Value} {Q : Option Value → Heap → List Loc → Prop} (hin : y.name = "<init>")
    (hown : vm0.findClass own = some m.cls) (w1 : (Jvm.Cond.methodLink own index y).before a0 Z = true) (w2 : (Jvm.Cond.instanceMethod y).before a0 Z = true) (w4 : (Jvm.Cond.code y bytes maxL none).before a0 Z = true) (w3 : (Jvm.Cond.initialized y.cls).before a0 Z = true) (hy : y.cls ≠ "java/lang/invoke/MethodHandle" ∧ y.cls ≠ "java/lang/invoke/VarHandle")
    {k0 : Nat} (hS : s.Since vm0 k0) (hk0 : k0 ≤ h.size) (hEL : EW Z a0 EL) (H : CHv Z EL vm0 h)
    (hM : MetFree l y (head1 [Jvm.Cond.code y bytes maxL none] rm) (fun a U => a = as' ∧ Z.Warmed39 U.vm ∧ U.heap = h ∧ CHv Z EL U.vm h) (fun _ _ _ _ _ => True) (fun _ U o U' => ∃ v L, o = .returned v ∧ Q v U'.heap L ∧ CHr Z EL U.vm U.heap U'.vm U'.heap ∧ ReturnedEndW U o U' L rm.cells rm.slots))
    (hf : rm.frames + 1 ≤ R.frames) (hl : W + (maxL + 11) + rm.locals ≤ R.locals) (eT : T.heap = h) {g : JFrame} (hg : g.method = m) (hsize : g.locals.size = c.maxLocals) {a : Addr} {argsL rest : List Value} (hlen : ∀ sig, parseMethodDescriptor y.desc = some sig → argsL.length = sig.parameters.length)
    (hstack : g.stack = argsL.reverse ++ .ref a :: rest) (hW : 2 * g.monitorRoom + (rest.map fun v => v.category).sum ≤ W) (hdg : decode c.code g.pc = .ok (.invokespecial index, 3)) (has : (.ref a :: argsL).toArray = as') (hc : cells + rm.cells ≤ R.cells) (hs : slots + rm.slots ≤ R.slots) {P : Outcome → State → Prop}
    (k : ∀ (v : Option Value) (T' : State) (L : List Loc), Stand p l e R (s.setVm T'.vm) m args below meth c T' (locs ++ L) (cells + rm.cells) (slots + rm.slots) → s.Since T'.vm T'.heap.size → Z.Warmed39 T'.vm → T'.vm.findClass own = some m.cls → CHr Z EL vm0 h T'.vm T'.heap → Q v T'.heap L → own_Fin p e below P T' { g with pc := g.pc + 3, stack := v.toList ++ rest }) : own_Fin p e below P T g := by
  obtain ⟨v, _, ⟨U', L', k', n'⟩, -, X', hS2, hgr, ⟨Lc, hQ, l1, l2, l3, hC⟩, st⟩ := X.specialBackS hx (y := y) hin hown (mvT (s := s.setVm vm0) hZ w1) (mvT (s := s.setVm vm0) hZ w2) (mvT (s := s.setVm vm0) hZ w4) hy (backOfSH (W := W) hM hZ w4 w3 hf hl hEL H) hg hsize (Steps.refl _) (a := a) hlen hstack hW hdg (fun _ _ => ⟨has, eT, hc, hs⟩)
  dsimp only [Pt.U, Pt.locs, Pt.cells, Pt.slots] at X' l1 l2 l3 st hQ hC hS2 hgr
  subst l1 l2 l3
  exact own_by (fun _ q => st.trans q) (k v U' Lc X' (foldS hS (by rw [eT]; exact hk0) hS2 hgr) (State.Warmed39.trans (t := s.setVm vm0) hZ hS2.1) (by rw [hS2.1.alike.findClass]; exact hown) hC hQ)
theorem own_callVW (X : Stand p l e R (s.setVm vm0) m args below meth c T locs cells slots) (hx : p.tables.exec = Jvm.exec) (hZ : Z.Warmed39 vm0) {own C : String} {index : Nat} {y z : MethodName} {bytes : ByteArray} {maxL W : Nat} {ret : Option FieldType} {rm : Room} {as' : Array Value} {Q : Option Value → Heap → List Loc → Prop}
    (hown : vm0.findClass own = some m.cls) (w1 : (Jvm.Cond.methodLink own index y).before a0 Z = true) (w2 : (Jvm.Cond.declares y).before a0 Z = true) (nf : ∀ {s : State}, Z.Warmed39 s.vm → NotFace s y) (w5 : (Jvm.Cond.selects C y z).before a0 Z = true) (w6 : (Jvm.Cond.instanceMethod z).before a0 Z = true) (w4 : (Jvm.Cond.code z bytes maxL ret).before a0 Z = true) (w3 : (Jvm.Cond.initialized z.cls).before a0 Z = true) (hy : y.cls ≠ "java/lang/invoke/MethodHandle" ∧ y.cls ≠ "java/lang/invoke/VarHandle")
    {b : Addr} (E : Exa Z h b C) {k0 : Nat} (hS : s.Since vm0 k0) (hk0 : k0 ≤ h.size) (hEL : EW Z a0 EL) (H : CHv Z EL vm0 h)
    (hM : MetFree l z (head1 [Jvm.Cond.code z bytes maxL ret] rm) (fun a U => a = as' ∧ Z.Warmed39 U.vm ∧ U.heap = h ∧ CHv Z EL U.vm h) (fun _ _ _ _ _ => True) (fun _ U o U' => ∃ v L, o = .returned v ∧ Q v U'.heap L ∧ CHr Z EL U.vm U.heap U'.vm U'.heap ∧ ReturnedEndW U o U' L rm.cells rm.slots))
    (hf : rm.frames + 1 ≤ R.frames) (hl : W + (maxL + 11) + rm.locals ≤ R.locals) (eT : T.heap = h) {g : JFrame} (hg : g.method = m) (hsize : g.locals.size = c.maxLocals) {argsL rest : List Value} (hlen : ∀ sig, parseMethodDescriptor y.desc = some sig → argsL.length = sig.parameters.length)
    (hstack : g.stack = argsL.reverse ++ .ref b :: rest) (hW : 2 * g.monitorRoom + (rest.map fun v => v.category).sum ≤ W) (hdg : decode c.code g.pc = .ok (.invokevirtual index, 3)) (has : (.ref b :: argsL).toArray = as') (hc : cells + rm.cells ≤ R.cells) (hs : slots + rm.slots ≤ R.slots) {P : Outcome → State → Prop}
    (k : ∀ (v : Option Value) (T' : State) (L : List Loc), Stand p l e R (s.setVm T'.vm) m args below meth c T' (locs ++ L) (cells + rm.cells) (slots + rm.slots) → s.Since T'.vm T'.heap.size → Z.Warmed39 T'.vm → T'.vm.findClass own = some m.cls → CHr Z EL vm0 h T'.vm T'.heap → Q v T'.heap L → own_Fin p e below P T' { g with pc := g.pc + 3, stack := v.toList ++ rest }) : own_Fin p e below P T g := by
  obtain ⟨cq, kq, qa, qb, qc⟩ := isOf (s := s.setVm vm0) hZ eT E
  obtain ⟨v, _, ⟨U', L', k', n'⟩, -, X', hS2, hgr, ⟨Lc, hQ, l1, l2, l3, hC⟩, st⟩ := X.virtualBackS hx (y := y) (z := z) hown (mvT (s := s.setVm vm0) hZ w1) (mvT (s := s.setVm vm0) hZ w2) (nf (s := s.setVm vm0) hZ) (mvT (s := s.setVm vm0) hZ w5) (mvT (s := s.setVm vm0) hZ w6) hy (backOfSH (W := W) hM hZ w4 w3 hf hl hEL H) qa qc hg hsize (Steps.refl _) hlen hstack hW hdg (fun _ _ => ⟨has, eT, hc, hs⟩)
  dsimp only [Pt.U, Pt.locs, Pt.cells, Pt.slots] at X' l1 l2 l3 st hQ hC hS2 hgr
  subst l1 l2 l3
  exact own_by (fun _ q => st.trans q) (k v U' Lc X' (foldS hS (by rw [eT]; exact hk0) hS2 hgr) (State.Warmed39.trans (t := s.setVm vm0) hZ hS2.1) (by rw [hS2.1.alike.findClass]; exact hown) hC hQ)
theorem own_safeNull {vm : Vm} {x : Addr} (hal : Z.vm.Alike vm) (E : Exa Z h x "java/lang/String") (F : Fld Z h x "java/lang/String" "value" "[B" .null) : Safe Z EL vm h x := fun B => by
  obtain ⟨p, -, u, a, -, q, -, G, rfl | rfl⟩ := B
  · obtain ⟨cell, cf, k, i, f, h1, h2, -, -, -, -, h7⟩ := F
    cases (show h[q.sa]? = some q.sC from G.ha).symm.trans h1
    obtain ⟨cS, ⟨⟨-, -, -, ⟨cv, kv, iv, s4, -⟩, -, -, -, s8, -⟩, -, -⟩, -⟩ := G
    obtain ⟨k', z4⟩ := ff_back (U := Wst Z vm h) hal s4
    cases h2.symm.trans z4
    rw [s8] at h7
    cases h7
  · obtain ⟨cell, k, e1, e2, e3, -, -⟩ := E
    cases (show h[q.sd]? = some q.SA from G.hd).symm.trans e1
    obtain ⟨cS, -, -, f, -⟩ := G
    have f' : vm.findClass "[B" = some q.SA.cls := f
    rw [hal.findClass] at f'
    obtain ⟨k1, q1, q2⟩ := Vm.findClass_spec f'
    obtain ⟨k2, q3, q4⟩ := Vm.findClass_spec e2
    cases q1.symm.trans q3
    exact absurd (q2.symm.trans q4) (by decide)
end OwnKitW

theorem own_hEL {Z : State} {a0 : Array Value} (hw : ∀ d ∈ tables_1, d.before a0 Z = true) : EW Z a0 consts_1 := (EW.cons (hw _ (List.mem_of_getElem? (i := 54) rfl)) (by decide) EW.nil)
theorem own_wSin : ∀ d ∈ Bundle.stringAtoms, d ∈ tables_1 := by decide +kernel
theorem own_wS {Z : State} {a0 : Array Value} (hw : ∀ d ∈ tables_1, d.before a0 Z = true) : ∀ d ∈ Bundle.stringAtoms, d.before a0 Z = true := fun d hd => hw d (own_wSin d hd)
theorem own_wVin : ∀ d ∈ StrChars.Road.words, d ∈ tables_1 := by decide +kernel
theorem own_wV {Z : State} {a0 : Array Value} (hw : ∀ d ∈ tables_1, d.before a0 Z = true) : ∀ d ∈ StrChars.Road.words, d.before a0 Z = true := fun d hd => hw d (own_wVin d hd)
theorem own_ch (y : Int32) : ¬ nar .char ((y &&& (255 : Int32)).toUInt32.toUInt16.toUInt32.toInt32) < 0 ∧ ¬ (255 : Int32) < nar .char ((y &&& (255 : Int32)).toUInt32.toUInt16.toUInt32.toInt32) := by
  have e : nar .char ((y &&& (255 : Int32)).toUInt32.toUInt16.toUInt32.toInt32) = y &&& 255 := by
    rw [i2c_mask]
    exact i2c_mask y
  rw [e]
  have h := c_and y 255 (by decide)
  have e0 : (0 : Int32).toInt = 0 := by decide
  have e1 : (255 : Int32).toInt = 255 := by decide
  constructor
  · intro q; have := Int32.lt_iff_toInt_lt.mp q; omega
  · intro q; have := Int32.lt_iff_toInt_lt.mp q; omega
theorem own_seven {k : Int32} (hr : 0 ≤ k.toInt ∧ k.toInt < 8) (h0 : ¬ k = (0 : Int32)) (h1 : ¬ k = (1 : Int32)) (h2 : ¬ k = (2 : Int32)) (h3 : ¬ k = (3 : Int32)) (h4 : ¬ k = (4 : Int32)) (h5 : ¬ k = (5 : Int32)) (h6 : ¬ k = (6 : Int32)) : k = (7 : Int32) := by
  have a0 := own_neI h0
  have a1 := own_neI h1
  have a2 := own_neI h2
  have a3 := own_neI h3
  have a4 := own_neI h4
  have a5 := own_neI h5
  have a6 := own_neI h6
  have e0 : (0 : Int32).toInt = 0 := by decide
  have e1 : (1 : Int32).toInt = 1 := by decide
  have e2 : (2 : Int32).toInt = 2 := by decide
  have e3 : (3 : Int32).toInt = 3 := by decide
  have e4 : (4 : Int32).toInt = 4 := by decide
  have e5 : (5 : Int32).toInt = 5 := by decide
  have e6 : (6 : Int32).toInt = 6 := by decide
  have e7 : (7 : Int32).toInt = 7 := by decide
  apply own_eqI
  omega
theorem own_d8_0 : decode jdk_42_method_149_code 0 = .ok (.aload_n 0, 1) := by decide +kernel
theorem own_d8_1 : decode jdk_42_method_149_code 1 = .ok (.invokespecial 1, 3) := by decide +kernel
theorem own_d8_4 : decode jdk_42_method_149_code 4 = .ok (.iload_n 3, 1) := by decide +kernel
theorem own_d8_5 : decode jdk_42_method_149_code 5 = .ok (.ifCond .ne 22, 3) := by decide +kernel
theorem own_d8_8 : decode jdk_42_method_149_code 8 = .ok (.aload_n 0, 1) := by decide +kernel
theorem own_d8_9 : decode jdk_42_method_149_code 9 = .ok (.ldc 7, 2) := by decide +kernel
theorem own_d8_11 : decode jdk_42_method_149_code 11 = .ok (.getfield 9, 3) := by decide +kernel
theorem own_d8_14 : decode jdk_42_method_149_code 14 = .ok (.putfield 9, 3) := by decide +kernel
theorem own_d8_17 : decode jdk_42_method_149_code 17 = .ok (.aload_n 0, 1) := by decide +kernel
theorem own_d8_18 : decode jdk_42_method_149_code 18 = .ok (.ldc 7, 2) := by decide +kernel
theorem own_d8_20 : decode jdk_42_method_149_code 20 = .ok (.getfield 15, 3) := by decide +kernel
theorem own_d8_23 : decode jdk_42_method_149_code 23 = .ok (.putfield 15, 3) := by decide +kernel
theorem own_d8_26 : decode jdk_42_method_149_code 26 = .ok (.return_, 1) := by decide +kernel
theorem own_rmE8_ef (m : MethodId) (x0 : Addr) (b : Addr) : entryFrame m #[(.ref x0), (.ref b), (.int (0 : Int32)), (.int (0 : Int32)), .null] 6 = mkF m 0 #[.val (.ref x0), .val (.ref b), .val (.int (0 : Int32)), .val (.int (0 : Int32)), .val .null, .unset] [] := by  first | (simp [entryFrame, mkF, argsToLocals, Value.category]; done) | rfl
def own_rmE8_Q (Z : State) (x0 : Addr) (b : Addr) (h0 : Heap) (n0 : Nat) (v : Option Value) (h : Heap) (L : List Loc) : Prop := v = none ∧ Fr n0 L ∧ Keep h0 h [x0] ∧ Exa Z h x0 "java/lang/String" ∧ Fld Z h x0 "java/lang/String" "coder" "B" (.int (0 : Int32)) ∧ ∃ (t : Addr) (kb : ClassId), x0 ≠ t ∧ Fld Z h x0 "java/lang/String" "value" "[B" (.ref t) ∧ Arv Z h t kb .byte (0 : Int32) [] (.int 0)
theorem own_pn_java_lang_String : plainName "java/lang/String" = true := by first | (simp [plainName, overriddenIn]; done) | decide +kernel
set_option maxRecDepth 65536 in
set_option maxHeartbeats 40000000 in
theorem own_rmE8 (l : Launch) (Z : State) (a0 : Array Value) (hw : ∀ d ∈ tables_1, d.before a0 Z = true) (ws : List Jvm.Cond) (x0 : Addr) (b : Addr) (h0 : Heap) (n0 : Nat) (Z0 : n0 ≤ h0.size) (E_x : Exa Z h0 x0 "java/lang/String") (V_x : Fld Z h0 x0 "java/lang/String" "value" "[B" .null) (C_x : Fld Z h0 x0 "java/lang/String" "coder" "B" (.int (0 : Int32))) (g_x : n0 ≤ x0) :
    MetFree l (⟨"java/lang/String", "<init>", "([CIILjava/lang/Void;)V"⟩ : MethodName) (head1 (Jvm.Cond.code (⟨"java/lang/String", "<init>", "([CIILjava/lang/Void;)V"⟩ : MethodName) jdk_42_method_149_code 6 none :: ws) ({ frames := 1, cells := 4, slots := 8, locals := 12 } : Room)) (fun aa U => aa = #[(.ref x0), (.ref b), (.int (0 : Int32)), (.int (0 : Int32)), .null] ∧ Z.Warmed39 U.vm ∧ U.heap = h0 ∧ CHv Z consts_1 U.vm h0) (fun _ _ _ _ _ => True) (fun _ U o U' => ∃ v L, o = .returned v ∧ own_rmE8_Q Z x0 b h0 n0 v U'.heap L ∧ CHr Z consts_1 U.vm U.heap U'.vm U'.heap ∧ ReturnedEndW U o U' L ({ frames := 1, cells := 4, slots := 8, locals := 12 } : Room).cells ({ frames := 1, cells := 4, slots := 8, locals := 12 } : Room).slots) := by
  refine MetFree.of_bodySF (plainFor_of_name own_pn_java_lang_String) hisR ?_
  intro p e s m args below meth c s₁ Bd hml0 hP hK
  obtain ⟨rfl, hZ, hh, CH0⟩ := hP
  have hx := Bd.exec
  have hby := Bd.bytes
  have hml : c.maxLocals = 6 := hml0
  have hown : s.vm.findClass "java/lang/String" = some m.cls := findClass_of_methodNamed Bd.named
  have hnm := (name_of_methodNamed Bd.named Bd.method).1
  have hlk := Bd.notSynchronized
  have X0 : Stand p l e ({ frames := 1, cells := 4, slots := 8, locals := 12 } : Room) (s.setVm s.vm) m #[(.ref x0), (.ref b), (.int (0 : Int32)), (.int (0 : Int32)), .null] below meth c s₁ [] 0 0 := Stand.of_body Bd
  have e0 : s₁.heap = h0 := by rw [← hh, Bd.state]; rfl
  have N0 := Fr.nil n0
  have hS : s.Since s.vm 0 := (State.WarmedH.refl s).since 0
  have hk0 : 0 ≤ h0.size := Nat.zero_le _
  have C0 : CHr Z consts_1 s.vm h0 s.vm h0 := CHr.refl CH0
  have hEL := own_hEL hw
  have wS := own_wS hw
  refine own_startW (EL := consts_1) (Q := own_rmE8_Q Z x0 b h0 n0) (own_rmE8_ef m x0 b) ?_
  have sf_x0 : Safe Z consts_1 s.vm h0 x0 := own_safeNull hZ.alike E_x V_x
  refine own_by (T' := s₁) (g' := (mkF m 1 #[.val (.ref x0), .val (.ref b), .val (.int (0 : Int32)), .val (.int (0 : Int32)), .val .null, .unset] [(.ref x0)])) (fun _ kq => XS.aloadN X0.here hx rfl (hb hby own_d8_0) rfl rfl kq) ?_
  obtain ⟨T1, X1, e1, st1⟩ := initO X0 hx hZ hown (hw _ (List.mem_of_getElem? (i := 53) rfl)) (hw _ (List.mem_of_getElem? (i := 23) rfl)) (hw _ (List.mem_of_getElem? (i := 24) rfl)) e0 (g := (mkF m 1 #[.val (.ref x0), .val (.ref b), .val (.int (0 : Int32)), .val (.int (0 : Int32)), .val .null, .unset] [(.ref x0)])) rfl (by rw [hml]; rfl) rfl (hb hby own_d8_1) (by decide) (W := 0) (by show 2 * 0 + _ ≤ _; exact Nat.le_of_eq rfl) (by decide)
  refine own_by (T' := T1) (g' := (mkF m 4 #[.val (.ref x0), .val (.ref b), .val (.int (0 : Int32)), .val (.int (0 : Int32)), .val .null, .unset] [])) st1 ?_
  refine own_by (T' := T1) (g' := (mkF m 5 #[.val (.ref x0), .val (.ref b), .val (.int (0 : Int32)), .val (.int (0 : Int32)), .val .null, .unset] [(.int (0 : Int32))])) (fun _ kq => XS.iloadN X1.here hx rfl (hb hby own_d8_4) rfl kq) ?_
  refine own_by (T' := T1) (g' := (mkF m 8 #[.val (.ref x0), .val (.ref b), .val (.int (0 : Int32)), .val (.int (0 : Int32)), .val .null, .unset] [])) (fun _ kq => XS.ifNo X1.here hx rfl (hb hby own_d8_5) rfl ((if0 _ _).trans (teq (by decide : (0 : Int32) = (0 : Int32))).2) kq) ?_
  refine own_by (T' := T1) (g' := (mkF m 9 #[.val (.ref x0), .val (.ref b), .val (.int (0 : Int32)), .val (.int (0 : Int32)), .val .null, .unset] [(.ref x0)])) (fun _ kq => XS.aloadN X1.here hx rfl (hb hby own_d8_8) rfl rfl kq) ?_
  obtain ⟨a2, T2, h2, j2, b2, k2, X2, e2, E2, hS, hk2, hZ, hown, Ea2, Fc2, Fv2, Av2, -, -, CH2, -, Sf2, st2⟩ := ldcCH X1 hx hZ hown (hw _ (List.mem_of_getElem? (i := 54) rfl)) wS e1 hS hk0 hEL (by decide) C0.1 (vs := []) (z := (0 : Int32)) ⟨by decide, by first | rfl | decide⟩ (by decide) (by decide) (g := (mkF m 9 #[.val (.ref x0), .val (.ref b), .val (.int (0 : Int32)), .val (.int (0 : Int32)), .val .null, .unset] [(.ref x0)])) rfl (hb hby own_d8_9) (n := 0) (by decide) (by decide) (by decide) (by decide)
  have sf4 := CH2.safe E_x.lt sf_x0
  have C3 := C0.trans CH2
  have nl2_x0 := Sf2 x0 sf4
  refine own_by (T' := T2) (g' := (mkF m 11 #[.val (.ref x0), .val (.ref b), .val (.int (0 : Int32)), .val (.int (0 : Int32)), .val .null, .unset] [(.ref a2), (.ref x0)])) st2 ?_
  obtain ⟨T5, X5, e5, st5⟩ := getF X2 hx hZ hown (host := "") (Or.inl (hw _ (List.mem_of_getElem? (i := 60) rfl))) Via.refl e2 Fv2 (g := (mkF m 11 #[.val (.ref x0), .val (.ref b), .val (.int (0 : Int32)), .val (.int (0 : Int32)), .val .null, .unset] [(.ref a2), (.ref x0)])) rfl rfl (hb hby own_d8_11)
  refine own_by (T' := T5) (g' := (mkF m 14 #[.val (.ref x0), .val (.ref b), .val (.int (0 : Int32)), .val (.int (0 : Int32)), .val .null, .unset] [(.ref b2), (.ref x0)])) st5 ?_
  have e6_x0 := (E_x.ext E2)
  have f7_x0 := (V_x.ext E2)
  obtain ⟨T8, h8, X8, e8, W8, st8⟩ := putF X5 hx hZ hown (host := "") (Or.inl (hw _ (List.mem_of_getElem? (i := 60) rfl))) Via.refl e5 f7_x0 e6_x0 (Or.inr ⟨(hw _ (List.mem_of_getElem? (i := 56) rfl)), rfl, hnm⟩) (hw _ (List.mem_of_getElem? (i := 43) rfl)) (ty := (.array .byte)) (by decide) (rfl) (rfl) (g := (mkF m 14 #[.val (.ref x0), .val (.ref b), .val (.int (0 : Int32)), .val (.int (0 : Int32)), .val .null, .unset] [(.ref b2), (.ref x0)])) rfl rfl (hb hby own_d8_14)
  have Fw8 := f7_x0.same W8
  have C9 := C3.trans (CHr.wr W8 sf4 C3.1)
  have N8 := Fr.snoc X8 N0 g_x
  refine own_by (T' := T8) (g' := (mkF m 17 #[.val (.ref x0), .val (.ref b), .val (.int (0 : Int32)), .val (.int (0 : Int32)), .val .null, .unset] [])) st8 ?_
  refine own_by (T' := T8) (g' := (mkF m 18 #[.val (.ref x0), .val (.ref b), .val (.int (0 : Int32)), .val (.int (0 : Int32)), .val .null, .unset] [(.ref x0)])) (fun _ kq => XS.aloadN X8.here hx rfl (hb hby own_d8_17) rfl rfl kq) ?_
  have hk10_ := (Nat.le_trans hk2 (Keep.of_wr W8).1)
  obtain ⟨a11, T11, h11, j11, b11, k11, X11, e11, E11, hS, hk11, hZ, hown, Ea11, Fc11, Fv11, Av11, -, -, CH11, -, Sf11, st11⟩ := ldcCH X8 hx hZ hown (hw _ (List.mem_of_getElem? (i := 54) rfl)) wS e8 hS hk10_ hEL (by decide) C9.1 (vs := []) (z := (0 : Int32)) ⟨by decide, by first | rfl | decide⟩ (by decide) (by decide) (g := (mkF m 18 #[.val (.ref x0), .val (.ref b), .val (.int (0 : Int32)), .val (.int (0 : Int32)), .val .null, .unset] [(.ref x0)])) rfl (hb hby own_d8_18) (n := 0) (by decide) (by decide) (by decide) (by decide)
  have sf13_x0 := (Safe.wr W8 sf4 C3.1 sf4)
  have e15_x0 := (e6_x0.wr W8)
  have sf14 := CH11.safe e15_x0.lt sf13_x0
  have C12 := C9.trans CH11
  have nl11_x0 := Sf11 x0 sf14
  refine own_by (T' := T11) (g' := (mkF m 20 #[.val (.ref x0), .val (.ref b), .val (.int (0 : Int32)), .val (.int (0 : Int32)), .val .null, .unset] [(.ref a11), (.ref x0)])) st11 ?_
  obtain ⟨T16, X16, e16, st16⟩ := getF X11 hx hZ hown (host := "") (Or.inl (hw _ (List.mem_of_getElem? (i := 61) rfl))) Via.refl e11 Fc11 (g := (mkF m 20 #[.val (.ref x0), .val (.ref b), .val (.int (0 : Int32)), .val (.int (0 : Int32)), .val .null, .unset] [(.ref a11), (.ref x0)])) rfl rfl (hb hby own_d8_20)
  refine own_by (T' := T16) (g' := (mkF m 23 #[.val (.ref x0), .val (.ref b), .val (.int (0 : Int32)), .val (.int (0 : Int32)), .val .null, .unset] [(.int (0 : Int32)), (.ref x0)])) st16 ?_
  have e17_x0 := (e15_x0.ext E11)
  have f18_x0 := (((C_x.ext E2).other W8 (Or.inr (slot_ne (Or.inr (hw _ (List.mem_of_getElem? (i := 57) rfl))) (Or.inr (hw _ (List.mem_of_getElem? (i := 56) rfl))) (by decide) (t := .byte) (t' := (.array .byte)) (by decide) (by decide)))).ext E11)
  obtain ⟨T19, h19, X19, e19, W19, st19⟩ := putFN X16 hx hZ hown (hw _ (List.mem_of_getElem? (i := 61) rfl)) Via.refl e16 f18_x0 e17_x0 (Or.inr ⟨(hw _ (List.mem_of_getElem? (i := 57) rfl)), rfl, hnm⟩) (hw _ (List.mem_of_getElem? (i := 43) rfl)) (ty := .byte) (v' := (.int (0 : Int32))) (by decide) rfl (by decide) (g := (mkF m 23 #[.val (.ref x0), .val (.ref b), .val (.int (0 : Int32)), .val (.int (0 : Int32)), .val .null, .unset] [(.int (0 : Int32)), (.ref x0)])) rfl rfl (hb hby own_d8_23)
  have Fw19 := f18_x0.same W19
  have C20 := C12.trans (CHr.wr W19 sf14 C12.1)
  have N19 := Fr.snoc X19 N8 g_x
  refine own_by (T' := T19) (g' := (mkF m 26 #[.val (.ref x0), .val (.ref b), .val (.int (0 : Int32)), .val (.int (0 : Int32)), .val .null, .unset] [])) st19 ?_
  have e21_x0 := (e17_x0.wr W19)
  have f22_x0 := ((Fw8.ext E11).other W19 (Or.inr (slot_ne (Or.inr (hw _ (List.mem_of_getElem? (i := 56) rfl))) (Or.inr (hw _ (List.mem_of_getElem? (i := 57) rfl))) (by decide) (t := (.array .byte)) (t' := .byte) (by decide) (by decide))))
  have a23_b2 := (((Av2.other W8 (Ne.symm nl2_x0.2)).ext E11).other W19 (Ne.symm nl2_x0.2))
  have k24_ := (((((Keep.refl h0 [x0]).ext E2).wr W8 (Or.inl (List.mem_of_getElem? (i := 0) rfl))).ext E11).wr W19 (Or.inl (List.mem_of_getElem? (i := 0) rfl)))
  have hk25_ := (Nat.le_trans hk11 (Keep.of_wr W19).1)
  exact own_endW X19 hS (by rw [e19]; exact hk25_) hZ hEL (by rw [hh]; rw [e19]; exact C20) (v := none) (fun _ => rfl) hlk (fun hr => X19.returnOut hx Bd.returns (hb hby own_d8_26) hr) (by rw [e19]; exact ⟨rfl, N19, k24_, e21_x0, Fw19, b2, k2, nl2_x0.2, f22_x0, a23_b2⟩) (by decide) (by decide)
theorem own_d7_0 : decode jdk_42_method_3_code 0 = .ok (.aload_n 0, 1) := by decide +kernel
theorem own_d7_1 : decode jdk_42_method_3_code 1 = .ok (.aload_n 1, 1) := by decide +kernel
theorem own_d7_2 : decode jdk_42_method_3_code 2 = .ok (.iconst 0, 1) := by decide +kernel
theorem own_d7_3 : decode jdk_42_method_3_code 3 = .ok (.aload_n 1, 1) := by decide +kernel
theorem own_d7_4 : decode jdk_42_method_3_code 4 = .ok (.arraylength, 1) := by decide +kernel
theorem own_d7_5 : decode jdk_42_method_3_code 5 = .ok (.aconst_null, 1) := by decide +kernel
theorem own_d7_6 : decode jdk_42_method_3_code 6 = .ok (.invokespecial 27, 3) := by decide +kernel
theorem own_pd__28_5bCIILjava_2flang_2fVoid_3b_29V : parseMethodDescriptor "([CIILjava/lang/Void;)V" = some ⟨[(.array .char), .int, .int, (.object "java/lang/Void")], none⟩ := by decide +kernel
theorem own_d7_9 : decode jdk_42_method_3_code 9 = .ok (.return_, 1) := by decide +kernel
theorem own_rmE7_ef (m : MethodId) (x0 : Addr) (b : Addr) : entryFrame m #[(.ref x0), (.ref b)] 2 = mkF m 0 #[.val (.ref x0), .val (.ref b)] [] := by  first | (simp [entryFrame, mkF, argsToLocals, Value.category]; done) | rfl
def own_rmE7_Q (Z : State) (x0 : Addr) (b : Addr) (kC : ClassId) (dC : Value) (h0 : Heap) (n0 : Nat) (v : Option Value) (h : Heap) (L : List Loc) : Prop := v = none ∧ Fr n0 L ∧ Keep h0 h [x0] ∧ Exa Z h x0 "java/lang/String" ∧ Fld Z h x0 "java/lang/String" "coder" "B" (.int (0 : Int32)) ∧ ∃ (t : Addr) (kb : ClassId), x0 ≠ t ∧ Fld Z h x0 "java/lang/String" "value" "[B" (.ref t) ∧ Arv Z h t kb .byte (0 : Int32) [] (.int 0)
set_option maxRecDepth 65536 in
set_option maxHeartbeats 40000000 in
theorem own_rmE7 (l : Launch) (Z : State) (a0 : Array Value) (hw : ∀ d ∈ tables_1, d.before a0 Z = true) (ws : List Jvm.Cond) (x0 : Addr) (b : Addr) (kC : ClassId) (dC : Value) (h0 : Heap) (n0 : Nat) (Z0 : n0 ≤ h0.size) (E_x : Exa Z h0 x0 "java/lang/String") (V_x : Fld Z h0 x0 "java/lang/String" "value" "[B" .null) (C_x : Fld Z h0 x0 "java/lang/String" "coder" "B" (.int (0 : Int32))) (g_x : n0 ≤ x0) (K_b : Arv Z h0 b kC .char (0 : Int32) [] dC) :
    MetFree l (⟨"java/lang/String", "<init>", "([C)V"⟩ : MethodName) (head1 (Jvm.Cond.code (⟨"java/lang/String", "<init>", "([C)V"⟩ : MethodName) jdk_42_method_3_code 2 none :: ws) ({ frames := 2, cells := 4, slots := 8, locals := 29 } : Room)) (fun aa U => aa = #[(.ref x0), (.ref b)] ∧ Z.Warmed39 U.vm ∧ U.heap = h0 ∧ CHv Z consts_1 U.vm h0) (fun _ _ _ _ _ => True) (fun _ U o U' => ∃ v L, o = .returned v ∧ own_rmE7_Q Z x0 b kC dC h0 n0 v U'.heap L ∧ CHr Z consts_1 U.vm U.heap U'.vm U'.heap ∧ ReturnedEndW U o U' L ({ frames := 2, cells := 4, slots := 8, locals := 29 } : Room).cells ({ frames := 2, cells := 4, slots := 8, locals := 29 } : Room).slots) := by
  refine MetFree.of_bodySF (plainFor_of_name own_pn_java_lang_String) hisR ?_
  intro p e s m args below meth c s₁ Bd hml0 hP hK
  obtain ⟨rfl, hZ, hh, CH0⟩ := hP
  have hx := Bd.exec
  have hby := Bd.bytes
  have hml : c.maxLocals = 2 := hml0
  have hown : s.vm.findClass "java/lang/String" = some m.cls := findClass_of_methodNamed Bd.named
  have hnm := (name_of_methodNamed Bd.named Bd.method).1
  have hlk := Bd.notSynchronized
  have X0 : Stand p l e ({ frames := 2, cells := 4, slots := 8, locals := 29 } : Room) (s.setVm s.vm) m #[(.ref x0), (.ref b)] below meth c s₁ [] 0 0 := Stand.of_body Bd
  have e0 : s₁.heap = h0 := by rw [← hh, Bd.state]; rfl
  have N0 := Fr.nil n0
  have hS : s.Since s.vm 0 := (State.WarmedH.refl s).since 0
  have hk0 : 0 ≤ h0.size := Nat.zero_le _
  have C0 : CHr Z consts_1 s.vm h0 s.vm h0 := CHr.refl CH0
  have hEL := own_hEL hw
  have wS := own_wS hw
  refine own_startW (EL := consts_1) (Q := own_rmE7_Q Z x0 b kC dC h0 n0) (own_rmE7_ef m x0 b) ?_
  have sf_x0 : Safe Z consts_1 s.vm h0 x0 := own_safeNull hZ.alike E_x V_x
  refine own_by (T' := s₁) (g' := (mkF m 1 #[.val (.ref x0), .val (.ref b)] [(.ref x0)])) (fun _ kq => XS.aloadN X0.here hx rfl (hb hby own_d7_0) rfl rfl kq) ?_
  refine own_by (T' := s₁) (g' := (mkF m 2 #[.val (.ref x0), .val (.ref b)] [(.ref b), (.ref x0)])) (fun _ kq => XS.aloadN X0.here hx rfl (hb hby own_d7_1) rfl rfl kq) ?_
  refine own_by (T' := s₁) (g' := (mkF m 3 #[.val (.ref x0), .val (.ref b)] [(.int (0 : Int32)), (.ref b), (.ref x0)])) (fun _ kq => XS.iconst X0.here hx rfl (hb hby own_d7_2) kq) ?_
  refine own_by (T' := s₁) (g' := (mkF m 4 #[.val (.ref x0), .val (.ref b)] [(.ref b), (.int (0 : Int32)), (.ref b), (.ref x0)])) (fun _ kq => XS.aloadN X0.here hx rfl (hb hby own_d7_3) rfl rfl kq) ?_
  obtain ⟨cl1, Ar1, q1, S1, P1, H1, G1⟩ := id K_b
  refine own_by (T' := s₁) (g' := (mkF m 5 #[.val (.ref x0), .val (.ref b)] [(.int (0 : Int32)), (.int (0 : Int32)), (.ref b), (.ref x0)])) (fun _ kq => X0.arraylength hx (by rw [e0]; exact Ar1.1) (State.isArrayOf_alike hZ.alike Ar1.2.1) (g := (mkF m 4 #[.val (.ref x0), .val (.ref b)] [(.ref b), (.int (0 : Int32)), (.ref b), (.ref x0)])) rfl rfl (hb hby own_d7_4) _ (by rw [len_of S1 P1]; exact kq)) ?_
  refine own_by (T' := s₁) (g' := (mkF m 6 #[.val (.ref x0), .val (.ref b)] [.null, (.int (0 : Int32)), (.int (0 : Int32)), (.ref b), (.ref x0)])) (fun _ kq => XS.aconstNull X0.here hx rfl (hb hby own_d7_5) kq) ?_
  refine own_callIW X0 hx hZ (y := (⟨"java/lang/String", "<init>", "([CIILjava/lang/Void;)V"⟩ : MethodName)) rfl hown (hw _ (List.mem_of_getElem? (i := 49) rfl)) (hw _ (List.mem_of_getElem? (i := 50) rfl)) (hw _ (List.mem_of_getElem? (i := 52) rfl)) (hw _ (List.mem_of_getElem? (i := 44) rfl)) (by decide) hS hk0 hEL C0.1 (own_rmE8 l Z a0 hw [] x0 b h0 n0 Z0 E_x V_x C_x g_x) (by decide) (by decide) e0 (g := (mkF m 6 #[.val (.ref x0), .val (.ref b)] [.null, (.int (0 : Int32)), (.int (0 : Int32)), (.ref b), (.ref x0)])) rfl (by rw [hml]; rfl) (argsL := [(.ref b), (.int (0 : Int32)), (.int (0 : Int32)), .null]) (rest := []) (lenOf own_pd__28_5bCIILjava_2flang_2fVoid_3b_29V rfl) rfl (W := 0) (by show 2 * 0 + _ ≤ _; exact Nat.le_of_eq rfl) (hb hby own_d7_6) rfl (by decide) (by decide) ?_
  rintro rv2 T2 L2 X2 hS hZ hown CH2 ⟨rfl, Nq2, Kq2, Eq2, Cq2, tq2, kq2, nq2, Vq2, Aq2⟩
  have N2 := Fr.app N0 Nq2
  show own_Fin p e below _ T2 (mkF m 9 #[.val (.ref x0), .val (.ref b)] [])
  have sf4 := CH2.safe E_x.lt sf_x0
  have C3 := C0.trans CH2
  have k5_ := ((Keep.refl h0 [x0]).trans Kq2 (allS (Or.inl (List.mem_of_getElem? (i := 0) rfl)) all0))
  exact own_endW X2 hS (by exact (Nat.le_refl _)) hZ hEL (by rw [hh]; exact C3) (v := none) (fun _ => rfl) hlk (fun hr => X2.returnOut hx Bd.returns (hb hby own_d7_9) hr) (by exact ⟨rfl, N2, k5_, Eq2, Cq2, tq2, kq2, nq2, Vq2, Aq2⟩) (by decide) (by decide)
theorem own_d1_0 : decode method_2_code 0 = .ok (.iload_n 0, 1) := by decide +kernel
theorem own_d1_1 : decode method_2_code 1 = .ok (.ifCond .ne 7, 3) := by decide +kernel
theorem own_d1_4 : decode method_2_code 4 = .ok (.getstatic 7, 3) := by decide +kernel
theorem own_d1_7 : decode method_2_code 7 = .ok (.areturn, 1) := by decide +kernel
theorem own_d1_8 : decode method_2_code 8 = .ok (.iload_n 0, 1) := by decide +kernel
theorem own_d1_9 : decode method_2_code 9 = .ok (.iconst 1, 1) := by decide +kernel
theorem own_d1_10 : decode method_2_code 10 = .ok (.if_icmp .ne 7, 3) := by decide +kernel
theorem own_d1_13 : decode method_2_code 13 = .ok (.getstatic 13, 3) := by decide +kernel
theorem own_d1_16 : decode method_2_code 16 = .ok (.areturn, 1) := by decide +kernel
theorem own_d1_17 : decode method_2_code 17 = .ok (.iload_n 0, 1) := by decide +kernel
theorem own_d1_18 : decode method_2_code 18 = .ok (.iconst 2, 1) := by decide +kernel
theorem own_d1_19 : decode method_2_code 19 = .ok (.if_icmp .ne 7, 3) := by decide +kernel
theorem own_d1_22 : decode method_2_code 22 = .ok (.getstatic 16, 3) := by decide +kernel
theorem own_d1_25 : decode method_2_code 25 = .ok (.areturn, 1) := by decide +kernel
theorem own_d1_26 : decode method_2_code 26 = .ok (.iload_n 0, 1) := by decide +kernel
theorem own_d1_27 : decode method_2_code 27 = .ok (.iconst 3, 1) := by decide +kernel
theorem own_d1_28 : decode method_2_code 28 = .ok (.if_icmp .ne 7, 3) := by decide +kernel
theorem own_d1_31 : decode method_2_code 31 = .ok (.getstatic 19, 3) := by decide +kernel
theorem own_d1_34 : decode method_2_code 34 = .ok (.areturn, 1) := by decide +kernel
theorem own_d1_35 : decode method_2_code 35 = .ok (.iload_n 0, 1) := by decide +kernel
theorem own_d1_36 : decode method_2_code 36 = .ok (.iconst 4, 1) := by decide +kernel
theorem own_d1_37 : decode method_2_code 37 = .ok (.if_icmp .ne 7, 3) := by decide +kernel
theorem own_d1_40 : decode method_2_code 40 = .ok (.getstatic 22, 3) := by decide +kernel
theorem own_d1_43 : decode method_2_code 43 = .ok (.areturn, 1) := by decide +kernel
theorem own_d1_44 : decode method_2_code 44 = .ok (.iload_n 0, 1) := by decide +kernel
theorem own_d1_45 : decode method_2_code 45 = .ok (.iconst 5, 1) := by decide +kernel
theorem own_d1_46 : decode method_2_code 46 = .ok (.if_icmp .ne 7, 3) := by decide +kernel
theorem own_d1_49 : decode method_2_code 49 = .ok (.getstatic 25, 3) := by decide +kernel
theorem own_d1_52 : decode method_2_code 52 = .ok (.areturn, 1) := by decide +kernel
theorem own_d1_53 : decode method_2_code 53 = .ok (.iload_n 0, 1) := by decide +kernel
theorem own_d1_54 : decode method_2_code 54 = .ok (.bipush 6, 2) := by decide +kernel
theorem own_d1_56 : decode method_2_code 56 = .ok (.if_icmp .ne 7, 3) := by decide +kernel
theorem own_d1_59 : decode method_2_code 59 = .ok (.getstatic 28, 3) := by decide +kernel
theorem own_d1_62 : decode method_2_code 62 = .ok (.areturn, 1) := by decide +kernel
theorem own_d1_63 : decode method_2_code 63 = .ok (.aconst_null, 1) := by decide +kernel
theorem own_d1_64 : decode method_2_code 64 = .ok (.areturn, 1) := by decide +kernel
theorem own_rm1_ef (m : MethodId) (k : Int32) : entryFrame m #[(.int k)] 1 = mkF m 0 #[.val (.int k)] [] := by  first | (simp [entryFrame, mkF, argsToLocals, Value.category]; done) | rfl
def own_rm1_Q (Z : State) (k : Int32) (aPERCENT_NOT_ALLOWED : Addr) (aTOO_LATE : Addr) (aIN_SERVICE_TOO_EARLY : Addr) (aINSTALLMENTS_NOT_ALLOWED : Addr) (aCHANGE_TOO_LATE : Addr) (aCHANGE_TOO_SHORT : Addr) (aCHANGE_NOT_ALLOWED : Addr) (h0 : Heap) (n0 : Nat) (v : Option Value) (h : Heap) (L : List Loc) : Prop := v = some (if k = (0 : Int32) then Value.ref aPERCENT_NOT_ALLOWED else if k = (1 : Int32) then Value.ref aTOO_LATE else if k = (2 : Int32) then Value.ref aIN_SERVICE_TOO_EARLY else if k = (3 : Int32) then Value.ref aINSTALLMENTS_NOT_ALLOWED else if k = (4 : Int32) then Value.ref aCHANGE_TOO_LATE else if k = (5 : Int32) then Value.ref aCHANGE_TOO_SHORT else if k = (6 : Int32) then Value.ref aCHANGE_NOT_ALLOWED else Value.null) ∧ Fr n0 L ∧ h = h0
theorem own_pn_com_example_abeyance_abeyance_records_VerdictAcceptedPinLaw : plainName "com/example/abeyance/abeyance/records/VerdictAcceptedPinLaw" = true := by first | (simp [plainName, overriddenIn]; done) | decide +kernel
set_option maxRecDepth 65536 in
set_option maxHeartbeats 40000000 in
theorem own_rm1 (l : Launch) (Z : State) (a0 : Array Value) (hw : ∀ d ∈ tables_1, d.before a0 Z = true) (ws : List Jvm.Cond) (k : Int32) (aPERCENT_NOT_ALLOWED : Addr) (aTOO_LATE : Addr) (aIN_SERVICE_TOO_EARLY : Addr) (aINSTALLMENTS_NOT_ALLOWED : Addr) (aCHANGE_TOO_LATE : Addr) (aCHANGE_TOO_SHORT : Addr) (aCHANGE_NOT_ALLOWED : Addr) (h0 : Heap) (n0 : Nat) (Z0 : n0 ≤ h0.size) (S_PERCENT_NOT_ALLOWED : Sta Z h0 "com/example/abeyance/abeyance/records/Refusal" "PERCENT_NOT_ALLOWED" "Lcom/example/abeyance/abeyance/records/Refusal;" (.ref aPERCENT_NOT_ALLOWED)) (S_TOO_LATE : Sta Z h0 "com/example/abeyance/abeyance/records/Refusal" "TOO_LATE" "Lcom/example/abeyance/abeyance/records/Refusal;" (.ref aTOO_LATE)) (S_IN_SERVICE_TOO_EARLY : Sta Z h0 "com/example/abeyance/abeyance/records/Refusal" "IN_SERVICE_TOO_EARLY" "Lcom/example/abeyance/abeyance/records/Refusal;" (.ref aIN_SERVICE_TOO_EARLY)) (S_INSTALLMENTS_NOT_ALLOWED : Sta Z h0 "com/example/abeyance/abeyance/records/Refusal" "INSTALLMENTS_NOT_ALLOWED" "Lcom/example/abeyance/abeyance/records/Refusal;" (.ref aINSTALLMENTS_NOT_ALLOWED)) (S_CHANGE_TOO_LATE : Sta Z h0 "com/example/abeyance/abeyance/records/Refusal" "CHANGE_TOO_LATE" "Lcom/example/abeyance/abeyance/records/Refusal;" (.ref aCHANGE_TOO_LATE)) (S_CHANGE_TOO_SHORT : Sta Z h0 "com/example/abeyance/abeyance/records/Refusal" "CHANGE_TOO_SHORT" "Lcom/example/abeyance/abeyance/records/Refusal;" (.ref aCHANGE_TOO_SHORT)) (S_CHANGE_NOT_ALLOWED : Sta Z h0 "com/example/abeyance/abeyance/records/Refusal" "CHANGE_NOT_ALLOWED" "Lcom/example/abeyance/abeyance/records/Refusal;" (.ref aCHANGE_NOT_ALLOWED)) :
    MetFree l (⟨"com/example/abeyance/abeyance/records/VerdictAcceptedPinLaw", "pick", "(I)Lcom/example/abeyance/abeyance/records/Refusal;"⟩ : MethodName) (head1 (Jvm.Cond.code (⟨"com/example/abeyance/abeyance/records/VerdictAcceptedPinLaw", "pick", "(I)Lcom/example/abeyance/abeyance/records/Refusal;"⟩ : MethodName) method_2_code 1 (some (.object "com/example/abeyance/abeyance/records/Refusal")) :: ws) ({ frames := 0, cells := 0, slots := 0, locals := 0 } : Room)) (fun aa U => aa = #[(.int k)] ∧ Z.Warmed39 U.vm ∧ U.heap = h0) (fun _ _ _ _ _ => True) (fun _ U o U' => ∃ v L, o = .returned v ∧ own_rm1_Q Z k aPERCENT_NOT_ALLOWED aTOO_LATE aIN_SERVICE_TOO_EARLY aINSTALLMENTS_NOT_ALLOWED aCHANGE_TOO_LATE aCHANGE_TOO_SHORT aCHANGE_NOT_ALLOWED h0 n0 v U'.heap L ∧ FrameEnd U o U' L ({ frames := 0, cells := 0, slots := 0, locals := 0 } : Room).cells ({ frames := 0, cells := 0, slots := 0, locals := 0 } : Room).slots) := by
  refine MetFree.of_bodySF (plainFor_of_name own_pn_com_example_abeyance_abeyance_records_VerdictAcceptedPinLaw) hisR ?_
  intro p e s m args below meth c s₁ Bd hml0 hP hK
  obtain ⟨rfl, hZ, hh⟩ := hP
  have hx := Bd.exec
  have hby := Bd.bytes
  have hml : c.maxLocals = 1 := hml0
  have hown : s.vm.findClass "com/example/abeyance/abeyance/records/VerdictAcceptedPinLaw" = some m.cls := findClass_of_methodNamed Bd.named
  have hnm := (name_of_methodNamed Bd.named Bd.method).1
  have hlk := Bd.notSynchronized
  have X0 : Stand p l e ({ frames := 0, cells := 0, slots := 0, locals := 0 } : Room) s m #[(.int k)] below meth c s₁ [] 0 0 := Stand.of_body Bd
  have e0 : s₁.heap = h0 := by rw [← hh, Bd.state]; rfl
  have N0 := Fr.nil n0
  refine own_start (Q := own_rm1_Q Z k aPERCENT_NOT_ALLOWED aTOO_LATE aIN_SERVICE_TOO_EARLY aINSTALLMENTS_NOT_ALLOWED aCHANGE_TOO_LATE aCHANGE_TOO_SHORT aCHANGE_NOT_ALLOWED h0 n0) (own_rm1_ef m k) ?_
  refine own_by (T' := s₁) (g' := (mkF m 1 #[.val (.int k)] [(.int k)])) (fun _ kq => XS.iloadN X0.here hx rfl (hb hby own_d1_0) rfl kq) ?_
  by_cases hc1 : k = (0 : Int32)
  · refine own_by (T' := s₁) (g' := (mkF m 4 #[.val (.int k)] [])) (fun _ kq => XS.ifNo X0.here hx rfl (hb hby own_d1_1) rfl ((if0 _ _).trans (teq hc1).2) kq) ?_
    obtain ⟨T2, X2, e2, st2⟩ := getS2 X0 hx hZ hown (host := "") (Or.inl (hw _ (List.mem_of_getElem? (i := 5) rfl))) Via.refl e0 S_PERCENT_NOT_ALLOWED (g := (mkF m 4 #[.val (.int k)] [])) rfl (hb hby own_d1_4)
    refine own_by (T' := T2) (g' := (mkF m 7 #[.val (.int k)] [(.ref aPERCENT_NOT_ALLOWED)])) st2 ?_
    exact own_end X2 (v := some (.ref aPERCENT_NOT_ALLOWED)) (fun h => by rw [Bd.returns] at h; cases h) hlk (fun hr => retOut X2 hx Bd.returns (own_narR rfl) (Or.inr (Or.inr (Or.inr (Or.inr ⟨rfl, rfl, rfl⟩)))) (hb hby own_d1_7) hr) (by rw [e2]; exact ⟨by rw [if_pos hc1], N0, rfl⟩) (by decide) (by decide)
  · refine own_by (T' := s₁) (g' := (mkF m 8 #[.val (.int k)] [])) (fun _ kq => XS.ifYes X0.here hx rfl (pc0 := 1) (pc' := 8) rfl (hb hby own_d1_1) rfl ((if0 _ _).trans (feq hc1).2) (by decide) (by decide) kq) ?_
    refine own_by (T' := s₁) (g' := (mkF m 9 #[.val (.int k)] [(.int k)])) (fun _ kq => XS.iloadN X0.here hx rfl (hb hby own_d1_8) rfl kq) ?_
    refine own_by (T' := s₁) (g' := (mkF m 10 #[.val (.int k)] [(.int (1 : Int32)), (.int k)])) (fun _ kq => XS.iconst X0.here hx rfl (hb hby own_d1_9) kq) ?_
    by_cases hc3 : k = (1 : Int32)
    · refine own_by (T' := s₁) (g' := (mkF m 13 #[.val (.int k)] [])) (fun _ kq => XS.icmpNo X0.here hx rfl (hb hby own_d1_10) rfl (teq hc3).2 kq) ?_
      obtain ⟨T4, X4, e4, st4⟩ := getS2 X0 hx hZ hown (host := "") (Or.inl (hw _ (List.mem_of_getElem? (i := 73) rfl))) Via.refl e0 S_TOO_LATE (g := (mkF m 13 #[.val (.int k)] [])) rfl (hb hby own_d1_13)
      refine own_by (T' := T4) (g' := (mkF m 16 #[.val (.int k)] [(.ref aTOO_LATE)])) st4 ?_
      exact own_end X4 (v := some (.ref aTOO_LATE)) (fun h => by rw [Bd.returns] at h; cases h) hlk (fun hr => retOut X4 hx Bd.returns (own_narR rfl) (Or.inr (Or.inr (Or.inr (Or.inr ⟨rfl, rfl, rfl⟩)))) (hb hby own_d1_16) hr) (by rw [e4]; exact ⟨by rw [if_neg hc1, if_pos hc3], N0, rfl⟩) (by decide) (by decide)
    · refine own_by (T' := s₁) (g' := (mkF m 17 #[.val (.int k)] [])) (fun _ kq => XS.icmpYes X0.here hx rfl (pc0 := 10) (pc' := 17) rfl (hb hby own_d1_10) rfl (feq hc3).2 (by decide) (by decide) kq) ?_
      refine own_by (T' := s₁) (g' := (mkF m 18 #[.val (.int k)] [(.int k)])) (fun _ kq => XS.iloadN X0.here hx rfl (hb hby own_d1_17) rfl kq) ?_
      refine own_by (T' := s₁) (g' := (mkF m 19 #[.val (.int k)] [(.int (2 : Int32)), (.int k)])) (fun _ kq => XS.iconst X0.here hx rfl (hb hby own_d1_18) kq) ?_
      by_cases hc5 : k = (2 : Int32)
      · refine own_by (T' := s₁) (g' := (mkF m 22 #[.val (.int k)] [])) (fun _ kq => XS.icmpNo X0.here hx rfl (hb hby own_d1_19) rfl (teq hc5).2 kq) ?_
        obtain ⟨T6, X6, e6, st6⟩ := getS2 X0 hx hZ hown (host := "") (Or.inl (hw _ (List.mem_of_getElem? (i := 40) rfl))) Via.refl e0 S_IN_SERVICE_TOO_EARLY (g := (mkF m 22 #[.val (.int k)] [])) rfl (hb hby own_d1_22)
        refine own_by (T' := T6) (g' := (mkF m 25 #[.val (.int k)] [(.ref aIN_SERVICE_TOO_EARLY)])) st6 ?_
        exact own_end X6 (v := some (.ref aIN_SERVICE_TOO_EARLY)) (fun h => by rw [Bd.returns] at h; cases h) hlk (fun hr => retOut X6 hx Bd.returns (own_narR rfl) (Or.inr (Or.inr (Or.inr (Or.inr ⟨rfl, rfl, rfl⟩)))) (hb hby own_d1_25) hr) (by rw [e6]; exact ⟨by rw [if_neg hc1, if_neg hc3, if_pos hc5], N0, rfl⟩) (by decide) (by decide)
      · refine own_by (T' := s₁) (g' := (mkF m 26 #[.val (.int k)] [])) (fun _ kq => XS.icmpYes X0.here hx rfl (pc0 := 19) (pc' := 26) rfl (hb hby own_d1_19) rfl (feq hc5).2 (by decide) (by decide) kq) ?_
        refine own_by (T' := s₁) (g' := (mkF m 27 #[.val (.int k)] [(.int k)])) (fun _ kq => XS.iloadN X0.here hx rfl (hb hby own_d1_26) rfl kq) ?_
        refine own_by (T' := s₁) (g' := (mkF m 28 #[.val (.int k)] [(.int (3 : Int32)), (.int k)])) (fun _ kq => XS.iconst X0.here hx rfl (hb hby own_d1_27) kq) ?_
        by_cases hc7 : k = (3 : Int32)
        · refine own_by (T' := s₁) (g' := (mkF m 31 #[.val (.int k)] [])) (fun _ kq => XS.icmpNo X0.here hx rfl (hb hby own_d1_28) rfl (teq hc7).2 kq) ?_
          obtain ⟨T8, X8, e8, st8⟩ := getS2 X0 hx hZ hown (host := "") (Or.inl (hw _ (List.mem_of_getElem? (i := 75) rfl))) Via.refl e0 S_INSTALLMENTS_NOT_ALLOWED (g := (mkF m 31 #[.val (.int k)] [])) rfl (hb hby own_d1_31)
          refine own_by (T' := T8) (g' := (mkF m 34 #[.val (.int k)] [(.ref aINSTALLMENTS_NOT_ALLOWED)])) st8 ?_
          exact own_end X8 (v := some (.ref aINSTALLMENTS_NOT_ALLOWED)) (fun h => by rw [Bd.returns] at h; cases h) hlk (fun hr => retOut X8 hx Bd.returns (own_narR rfl) (Or.inr (Or.inr (Or.inr (Or.inr ⟨rfl, rfl, rfl⟩)))) (hb hby own_d1_34) hr) (by rw [e8]; exact ⟨by rw [if_neg hc1, if_neg hc3, if_neg hc5, if_pos hc7], N0, rfl⟩) (by decide) (by decide)
        · refine own_by (T' := s₁) (g' := (mkF m 35 #[.val (.int k)] [])) (fun _ kq => XS.icmpYes X0.here hx rfl (pc0 := 28) (pc' := 35) rfl (hb hby own_d1_28) rfl (feq hc7).2 (by decide) (by decide) kq) ?_
          refine own_by (T' := s₁) (g' := (mkF m 36 #[.val (.int k)] [(.int k)])) (fun _ kq => XS.iloadN X0.here hx rfl (hb hby own_d1_35) rfl kq) ?_
          refine own_by (T' := s₁) (g' := (mkF m 37 #[.val (.int k)] [(.int (4 : Int32)), (.int k)])) (fun _ kq => XS.iconst X0.here hx rfl (hb hby own_d1_36) kq) ?_
          by_cases hc9 : k = (4 : Int32)
          · refine own_by (T' := s₁) (g' := (mkF m 40 #[.val (.int k)] [])) (fun _ kq => XS.icmpNo X0.here hx rfl (hb hby own_d1_37) rfl (teq hc9).2 kq) ?_
            obtain ⟨T10, X10, e10, st10⟩ := getS2 X0 hx hZ hown (host := "") (Or.inl (hw _ (List.mem_of_getElem? (i := 38) rfl))) Via.refl e0 S_CHANGE_TOO_LATE (g := (mkF m 40 #[.val (.int k)] [])) rfl (hb hby own_d1_40)
            refine own_by (T' := T10) (g' := (mkF m 43 #[.val (.int k)] [(.ref aCHANGE_TOO_LATE)])) st10 ?_
            exact own_end X10 (v := some (.ref aCHANGE_TOO_LATE)) (fun h => by rw [Bd.returns] at h; cases h) hlk (fun hr => retOut X10 hx Bd.returns (own_narR rfl) (Or.inr (Or.inr (Or.inr (Or.inr ⟨rfl, rfl, rfl⟩)))) (hb hby own_d1_43) hr) (by rw [e10]; exact ⟨by rw [if_neg hc1, if_neg hc3, if_neg hc5, if_neg hc7, if_pos hc9], N0, rfl⟩) (by decide) (by decide)
          · refine own_by (T' := s₁) (g' := (mkF m 44 #[.val (.int k)] [])) (fun _ kq => XS.icmpYes X0.here hx rfl (pc0 := 37) (pc' := 44) rfl (hb hby own_d1_37) rfl (feq hc9).2 (by decide) (by decide) kq) ?_
            refine own_by (T' := s₁) (g' := (mkF m 45 #[.val (.int k)] [(.int k)])) (fun _ kq => XS.iloadN X0.here hx rfl (hb hby own_d1_44) rfl kq) ?_
            refine own_by (T' := s₁) (g' := (mkF m 46 #[.val (.int k)] [(.int (5 : Int32)), (.int k)])) (fun _ kq => XS.iconst X0.here hx rfl (hb hby own_d1_45) kq) ?_
            by_cases hc11 : k = (5 : Int32)
            · refine own_by (T' := s₁) (g' := (mkF m 49 #[.val (.int k)] [])) (fun _ kq => XS.icmpNo X0.here hx rfl (hb hby own_d1_46) rfl (teq hc11).2 kq) ?_
              obtain ⟨T12, X12, e12, st12⟩ := getS2 X0 hx hZ hown (host := "") (Or.inl (hw _ (List.mem_of_getElem? (i := 77) rfl))) Via.refl e0 S_CHANGE_TOO_SHORT (g := (mkF m 49 #[.val (.int k)] [])) rfl (hb hby own_d1_49)
              refine own_by (T' := T12) (g' := (mkF m 52 #[.val (.int k)] [(.ref aCHANGE_TOO_SHORT)])) st12 ?_
              exact own_end X12 (v := some (.ref aCHANGE_TOO_SHORT)) (fun h => by rw [Bd.returns] at h; cases h) hlk (fun hr => retOut X12 hx Bd.returns (own_narR rfl) (Or.inr (Or.inr (Or.inr (Or.inr ⟨rfl, rfl, rfl⟩)))) (hb hby own_d1_52) hr) (by rw [e12]; exact ⟨by rw [if_neg hc1, if_neg hc3, if_neg hc5, if_neg hc7, if_neg hc9, if_pos hc11], N0, rfl⟩) (by decide) (by decide)
            · refine own_by (T' := s₁) (g' := (mkF m 53 #[.val (.int k)] [])) (fun _ kq => XS.icmpYes X0.here hx rfl (pc0 := 46) (pc' := 53) rfl (hb hby own_d1_46) rfl (feq hc11).2 (by decide) (by decide) kq) ?_
              refine own_by (T' := s₁) (g' := (mkF m 54 #[.val (.int k)] [(.int k)])) (fun _ kq => XS.iloadN X0.here hx rfl (hb hby own_d1_53) rfl kq) ?_
              refine own_by (T' := s₁) (g' := (mkF m 56 #[.val (.int k)] [(.int (6 : Int32)), (.int k)])) (fun _ kq => XS.bipush X0.here hx rfl (hb hby own_d1_54) kq) ?_
              by_cases hc13 : k = (6 : Int32)
              · refine own_by (T' := s₁) (g' := (mkF m 59 #[.val (.int k)] [])) (fun _ kq => XS.icmpNo X0.here hx rfl (hb hby own_d1_56) rfl (teq hc13).2 kq) ?_
                obtain ⟨T14, X14, e14, st14⟩ := getS2 X0 hx hZ hown (host := "") (Or.inl (hw _ (List.mem_of_getElem? (i := 79) rfl))) Via.refl e0 S_CHANGE_NOT_ALLOWED (g := (mkF m 59 #[.val (.int k)] [])) rfl (hb hby own_d1_59)
                refine own_by (T' := T14) (g' := (mkF m 62 #[.val (.int k)] [(.ref aCHANGE_NOT_ALLOWED)])) st14 ?_
                exact own_end X14 (v := some (.ref aCHANGE_NOT_ALLOWED)) (fun h => by rw [Bd.returns] at h; cases h) hlk (fun hr => retOut X14 hx Bd.returns (own_narR rfl) (Or.inr (Or.inr (Or.inr (Or.inr ⟨rfl, rfl, rfl⟩)))) (hb hby own_d1_62) hr) (by rw [e14]; exact ⟨by rw [if_neg hc1, if_neg hc3, if_neg hc5, if_neg hc7, if_neg hc9, if_neg hc11, if_pos hc13], N0, rfl⟩) (by decide) (by decide)
              · refine own_by (T' := s₁) (g' := (mkF m 63 #[.val (.int k)] [])) (fun _ kq => XS.icmpYes X0.here hx rfl (pc0 := 56) (pc' := 63) rfl (hb hby own_d1_56) rfl (feq hc13).2 (by decide) (by decide) kq) ?_
                refine own_by (T' := s₁) (g' := (mkF m 64 #[.val (.int k)] [.null])) (fun _ kq => XS.aconstNull X0.here hx rfl (hb hby own_d1_63) kq) ?_
                exact own_end X0 (v := some .null) (fun h => by rw [Bd.returns] at h; cases h) hlk (fun hr => retOut X0 hx Bd.returns (own_narR rfl) (Or.inr (Or.inr (Or.inr (Or.inr ⟨rfl, rfl, rfl⟩)))) (hb hby own_d1_64) hr) (by rw [e0]; exact ⟨by rw [if_neg hc1, if_neg hc3, if_neg hc5, if_neg hc7, if_neg hc9, if_neg hc11, if_neg hc13], N0, rfl⟩) (by decide) (by decide)
theorem own_d2_0 : decode method_3_code 0 = .ok (.iload_n 0, 1) := by decide +kernel
theorem own_d2_1 : decode method_3_code 1 = .ok (.bipush 16, 2) := by decide +kernel
theorem own_d2_3 : decode method_3_code 3 = .ok (.iushr, 1) := by decide +kernel
theorem own_d2_4 : decode method_3_code 4 = .ok (.iconst 3, 1) := by decide +kernel
theorem own_d2_5 : decode method_3_code 5 = .ok (.iand, 1) := by decide +kernel
theorem own_d2_6 : decode method_3_code 6 = .ok (.istore_n 1, 1) := by decide +kernel
theorem own_d2_7 : decode method_3_code 7 = .ok (.iload_n 1, 1) := by decide +kernel
theorem own_d2_8 : decode method_3_code 8 = .ok (.ifCond .ne 5, 3) := by decide +kernel
theorem own_d2_11 : decode method_3_code 11 = .ok (.aconst_null, 1) := by decide +kernel
theorem own_d2_12 : decode method_3_code 12 = .ok (.areturn, 1) := by decide +kernel
theorem own_d2_13 : decode method_3_code 13 = .ok (.iload_n 1, 1) := by decide +kernel
theorem own_d2_14 : decode method_3_code 14 = .ok (.iconst 1, 1) := by decide +kernel
theorem own_d2_15 : decode method_3_code 15 = .ok (.if_icmp .ne 14, 3) := by decide +kernel
theorem own_d2_18 : decode method_3_code 18 = .ok (.new 31, 3) := by decide +kernel
theorem own_d2_21 : decode method_3_code 21 = .ok (.dup, 1) := by decide +kernel
theorem own_d2_22 : decode method_3_code 22 = .ok (.iconst 0, 1) := by decide +kernel
theorem own_d2_23 : decode method_3_code 23 = .ok (.newarray .char, 2) := by decide +kernel
theorem own_d2_25 : decode method_3_code 25 = .ok (.invokespecial 33, 3) := by decide +kernel
theorem own_pd__28_5bC_29V : parseMethodDescriptor "([C)V" = some ⟨[(.array .char)], none⟩ := by decide +kernel
theorem own_d2_28 : decode method_3_code 28 = .ok (.areturn, 1) := by decide +kernel
theorem own_d2_29 : decode method_3_code 29 = .ok (.iconst 2, 1) := by decide +kernel
theorem own_d2_30 : decode method_3_code 30 = .ok (.newarray .char, 2) := by decide +kernel
theorem own_d2_32 : decode method_3_code 32 = .ok (.astore_n 2, 1) := by decide +kernel
theorem own_d2_33 : decode method_3_code 33 = .ok (.aload_n 2, 1) := by decide +kernel
theorem own_d2_34 : decode method_3_code 34 = .ok (.iconst 0, 1) := by decide +kernel
theorem own_d2_35 : decode method_3_code 35 = .ok (.iload_n 0, 1) := by decide +kernel
theorem own_d2_36 : decode method_3_code 36 = .ok (.sipush 255, 3) := by decide +kernel
theorem own_d2_39 : decode method_3_code 39 = .ok (.iand, 1) := by decide +kernel
theorem own_d2_40 : decode method_3_code 40 = .ok (.i2c, 1) := by decide +kernel
theorem own_d2_41 : decode method_3_code 41 = .ok (.castore, 1) := by decide +kernel
theorem own_d2_42 : decode method_3_code 42 = .ok (.aload_n 2, 1) := by decide +kernel
theorem own_d2_43 : decode method_3_code 43 = .ok (.iconst 1, 1) := by decide +kernel
theorem own_d2_44 : decode method_3_code 44 = .ok (.iload_n 0, 1) := by decide +kernel
theorem own_d2_45 : decode method_3_code 45 = .ok (.bipush 8, 2) := by decide +kernel
theorem own_d2_47 : decode method_3_code 47 = .ok (.iushr, 1) := by decide +kernel
theorem own_d2_48 : decode method_3_code 48 = .ok (.sipush 255, 3) := by decide +kernel
theorem own_d2_51 : decode method_3_code 51 = .ok (.iand, 1) := by decide +kernel
theorem own_d2_52 : decode method_3_code 52 = .ok (.i2c, 1) := by decide +kernel
theorem own_d2_53 : decode method_3_code 53 = .ok (.castore, 1) := by decide +kernel
theorem own_d2_54 : decode method_3_code 54 = .ok (.new 31, 3) := by decide +kernel
theorem own_d2_57 : decode method_3_code 57 = .ok (.dup, 1) := by decide +kernel
theorem own_d2_58 : decode method_3_code 58 = .ok (.aload_n 2, 1) := by decide +kernel
theorem own_d2_59 : decode method_3_code 59 = .ok (.invokespecial 33, 3) := by decide +kernel
theorem own_d2_62 : decode method_3_code 62 = .ok (.areturn, 1) := by decide +kernel
theorem own_rm2_ef (m : MethodId) (p0 : Int32) : entryFrame m #[(.int p0)] 3 = mkF m 0 #[.val (.int p0), .unset, .unset] [] := by  first | (simp [entryFrame, mkF, argsToLocals, Value.category]; done) | rfl
def own_rm2_Q (Z : State) (p0 : Int32) (zCS : Int32) (h0 : Heap) (n0 : Nat) (v : Option Value) (h : Heap) (L : List Loc) : Prop := (v = some .null ∨ ∃ t : Addr, v = some (.ref t)) ∧ Fr n0 L ∧ Keep h0 h []
set_option maxRecDepth 65536 in
set_option maxHeartbeats 40000000 in
theorem own_rm2 (l : Launch) (Z : State) (a0 : Array Value) (hw : ∀ d ∈ tables_1, d.before a0 Z = true) (ws : List Jvm.Cond) (p0 : Int32) (zCS : Int32) (h0 : Heap) (n0 : Nat) (Z0 : n0 ≤ h0.size) (S_CS : Sta Z Z.heap "java/lang/String" "COMPACT_STRINGS" "Z" (.int zCS)) (nCS : ¬ zCS = 0) (O0 : Old Z n0 h0) :
    MetFree l (⟨"com/example/abeyance/abeyance/records/VerdictAcceptedPinLaw", "text", "(I)Ljava/lang/String;"⟩ : MethodName) (head1 (Jvm.Cond.code (⟨"com/example/abeyance/abeyance/records/VerdictAcceptedPinLaw", "text", "(I)Ljava/lang/String;"⟩ : MethodName) method_3_code 3 (some (.object "java/lang/String")) :: ws) ({ frames := 4, cells := 6, slots := 12, locals := 66 } : Room)) (fun aa U => aa = #[(.int p0)] ∧ Z.Warmed39 U.vm ∧ U.heap = h0 ∧ CHv Z consts_1 U.vm h0) (fun _ _ _ _ _ => True) (fun _ U o U' => ∃ v L, o = .returned v ∧ own_rm2_Q Z p0 zCS h0 n0 v U'.heap L ∧ CHr Z consts_1 U.vm U.heap U'.vm U'.heap ∧ ReturnedEndW U o U' L ({ frames := 4, cells := 6, slots := 12, locals := 66 } : Room).cells ({ frames := 4, cells := 6, slots := 12, locals := 66 } : Room).slots) := by
  refine MetFree.of_bodySF (plainFor_of_name own_pn_com_example_abeyance_abeyance_records_VerdictAcceptedPinLaw) hisR ?_
  intro p e s m args below meth c s₁ Bd hml0 hP hK
  obtain ⟨rfl, hZ, hh, CH0⟩ := hP
  have hx := Bd.exec
  have hby := Bd.bytes
  have hml : c.maxLocals = 3 := hml0
  have hown : s.vm.findClass "com/example/abeyance/abeyance/records/VerdictAcceptedPinLaw" = some m.cls := findClass_of_methodNamed Bd.named
  have hnm := (name_of_methodNamed Bd.named Bd.method).1
  have hlk := Bd.notSynchronized
  have X0 : Stand p l e ({ frames := 4, cells := 6, slots := 12, locals := 66 } : Room) (s.setVm s.vm) m #[(.int p0)] below meth c s₁ [] 0 0 := Stand.of_body Bd
  have e0 : s₁.heap = h0 := by rw [← hh, Bd.state]; rfl
  have N0 := Fr.nil n0
  have hS : s.Since s.vm 0 := (State.WarmedH.refl s).since 0
  have hk0 : 0 ≤ h0.size := Nat.zero_le _
  have C0 : CHr Z consts_1 s.vm h0 s.vm h0 := CHr.refl CH0
  have hEL := own_hEL hw
  have wS := own_wS hw
  refine own_startW (EL := consts_1) (Q := own_rm2_Q Z p0 zCS h0 n0) (own_rm2_ef m p0) ?_
  refine own_by (T' := s₁) (g' := (mkF m 1 #[.val (.int p0), .unset, .unset] [(.int p0)])) (fun _ kq => XS.iloadN X0.here hx rfl (hb hby own_d2_0) rfl kq) ?_
  refine own_by (T' := s₁) (g' := (mkF m 3 #[.val (.int p0), .unset, .unset] [(.int (16 : Int32)), (.int p0)])) (fun _ kq => XS.bipush X0.here hx rfl (hb hby own_d2_1) kq) ?_
  refine own_by (T' := s₁) (g' := (mkF m 4 #[.val (.int p0), .unset, .unset] [(.int ((p0.toUInt32 >>> ((16 : Int32) &&& 31).toUInt32).toInt32))])) (fun _ kq => XS.iushr X0.here hx rfl (hb hby own_d2_3) rfl kq) ?_
  refine own_by (T' := s₁) (g' := (mkF m 5 #[.val (.int p0), .unset, .unset] [(.int (3 : Int32)), (.int ((p0.toUInt32 >>> ((16 : Int32) &&& 31).toUInt32).toInt32))])) (fun _ kq => XS.iconst X0.here hx rfl (hb hby own_d2_4) kq) ?_
  refine own_by (T' := s₁) (g' := (mkF m 6 #[.val (.int p0), .unset, .unset] [(.int (((p0.toUInt32 >>> ((16 : Int32) &&& 31).toUInt32).toInt32) &&& (3 : Int32)))])) (fun _ kq => XS.iand X0.here hx rfl (hb hby own_d2_5) rfl kq) ?_
  refine own_by (T' := s₁) (g' := (mkF m 7 #[.val (.int p0), .val (.int (((p0.toUInt32 >>> ((16 : Int32) &&& 31).toUInt32).toInt32) &&& (3 : Int32))), .unset] [])) (fun _ kq => XS.istoreN X0.here hx rfl (hb hby own_d2_6) rfl (l' := #[.val (.int p0), .val (.int (((p0.toUInt32 >>> ((16 : Int32) &&& 31).toUInt32).toInt32) &&& (3 : Int32))), .unset]) rfl kq) ?_
  generalize hg_md : (((p0.toUInt32 >>> ((16 : Int32) &&& 31).toUInt32).toInt32) &&& (3 : Int32)) = md
  refine own_by (T' := s₁) (g' := (mkF m 8 #[.val (.int p0), .val (.int md), .unset] [(.int md)])) (fun _ kq => XS.iloadN X0.here hx rfl (hb hby own_d2_7) rfl kq) ?_
  by_cases hc1 : md = (0 : Int32)
  · refine own_by (T' := s₁) (g' := (mkF m 11 #[.val (.int p0), .val (.int md), .unset] [])) (fun _ kq => XS.ifNo X0.here hx rfl (hb hby own_d2_8) rfl ((if0 _ _).trans (teq hc1).2) kq) ?_
    refine own_by (T' := s₁) (g' := (mkF m 12 #[.val (.int p0), .val (.int md), .unset] [.null])) (fun _ kq => XS.aconstNull X0.here hx rfl (hb hby own_d2_11) kq) ?_
    exact own_endW X0 hS (by rw [e0]; exact hk0) hZ hEL (by rw [hh]; rw [e0]; exact C0) (v := some .null) (fun h => by rw [Bd.returns] at h; cases h) hlk (fun hr => retOut X0 hx Bd.returns (own_narR rfl) (Or.inr (Or.inr (Or.inr (Or.inr ⟨rfl, rfl, rfl⟩)))) (hb hby own_d2_12) hr) (by rw [e0]; exact ⟨Or.inl rfl, N0, (Keep.refl h0 [])⟩) (by decide) (by decide)
  · refine own_by (T' := s₁) (g' := (mkF m 13 #[.val (.int p0), .val (.int md), .unset] [])) (fun _ kq => XS.ifYes X0.here hx rfl (pc0 := 8) (pc' := 13) rfl (hb hby own_d2_8) rfl ((if0 _ _).trans (feq hc1).2) (by decide) (by decide) kq) ?_
    refine own_by (T' := s₁) (g' := (mkF m 14 #[.val (.int p0), .val (.int md), .unset] [(.int md)])) (fun _ kq => XS.iloadN X0.here hx rfl (hb hby own_d2_13) rfl kq) ?_
    refine own_by (T' := s₁) (g' := (mkF m 15 #[.val (.int p0), .val (.int md), .unset] [(.int (1 : Int32)), (.int md)])) (fun _ kq => XS.iconst X0.here hx rfl (hb hby own_d2_14) kq) ?_
    by_cases hc2 : md = (1 : Int32)
    · refine own_by (T' := s₁) (g' := (mkF m 18 #[.val (.int p0), .val (.int md), .unset] [])) (fun _ kq => XS.icmpNo X0.here hx rfl (hb hby own_d2_15) rfl (teq hc2).2 kq) ?_
      obtain ⟨T3, h3, X3, e3, E3, A3, D3, U3, st3⟩ := newO X0 hx hZ hown (hw _ (List.mem_of_getElem? (i := 42) rfl)) (hw _ (List.mem_of_getElem? (i := 43) rfl)) (hw _ (List.mem_of_getElem? (i := 44) rfl)) e0 (g := (mkF m 18 #[.val (.int p0), .val (.int md), .unset] [])) rfl (hb hby own_d2_18) (by decide) (by decide)
      obtain ⟨b3, g3⟩ : ∃ z, z = h0.size := ⟨_, rfl⟩
      rw [← g3] at A3 D3 U3 st3
      have g_b3 : n0 ≤ b3 := Nat.le_trans (Nat.le_trans Z0 (Keep.refl h0 []).1) (Nat.le_of_eq g3.symm)
      have sz_b3 : h0.size ≤ b3 := Nat.le_trans (Keep.refl h0 []).1 (Nat.le_of_eq g3.symm)
      have sf_b3 : Safe Z consts_1 s.vm h0 b3 := Safe.new (Nat.le_of_eq g3.symm)
      have C4 := C0.trans (CHr.ext E3 C0.1)
      have F_value_b3 : Fld Z h3 b3 "java/lang/String" "value" "[B" .null := D3 (Or.inr (hw _ (List.mem_of_getElem? (i := 56) rfl))) (ty := (.array .byte)) (by decide)
      have F_coder_b3 : Fld Z h3 b3 "java/lang/String" "coder" "B" (.int (0 : Int32)) := D3 (Or.inr (hw _ (List.mem_of_getElem? (i := 57) rfl))) (ty := .byte) (by decide)
      refine own_by (T' := T3) (g' := (mkF m 21 #[.val (.int p0), .val (.int md), .unset] [(.ref b3)])) st3 ?_
      refine own_by (T' := T3) (g' := (mkF m 22 #[.val (.int p0), .val (.int md), .unset] [(.ref b3), (.ref b3)])) (fun _ kq => XS.dup X3.here hx rfl (hb hby own_d2_21) rfl rfl kq) ?_
      refine own_by (T' := T3) (g' := (mkF m 23 #[.val (.int p0), .val (.int md), .unset] [(.int (0 : Int32)), (.ref b3), (.ref b3)])) (fun _ kq => XS.iconst X3.here hx rfl (hb hby own_d2_22) kq) ?_
      obtain ⟨T5, h5, k5, X5, e5, E5, A5, st5⟩ := newP X3 hx hZ (hw _ (List.mem_of_getElem? (i := 45) rfl)) e3 (g := (mkF m 23 #[.val (.int p0), .val (.int md), .unset] [(.int (0 : Int32)), (.ref b3), (.ref b3)])) rfl (hb hby own_d2_23) rfl (by decide) (cap := 0) (by decide) (by decide) (by decide) (by decide)
      obtain ⟨b5, g5⟩ : ∃ z, z = h3.size := ⟨_, rfl⟩
      rw [← g5] at A5 st5
      have k6_ := ((Keep.refl h0 []).ext E3)
      have g_b5 : n0 ≤ b5 := Nat.le_trans (Nat.le_trans Z0 k6_.1) (Nat.le_of_eq g5.symm)
      have sz_b5 : h0.size ≤ b5 := Nat.le_trans k6_.1 (Nat.le_of_eq g5.symm)
      have sf_b5 : Safe Z consts_1 s.vm h3 b5 := Safe.new (Nat.le_of_eq g5.symm)
      have ne_b3_b5 : b3 ≠ b5 := Nat.ne_of_lt (Nat.lt_of_lt_of_le A3.lt (Nat.le_of_eq g5.symm))
      have C7 := C4.trans (CHr.ext E5 C4.1)
      have V_b5 : Arv Z h5 b5 k5 .char (0 : Int32) [] (.int (0 : Int32)) := Arv.new A5 (by decide)
      refine own_by (T' := T5) (g' := (mkF m 25 #[.val (.int p0), .val (.int md), .unset] [(.ref b5), (.ref b3), (.ref b3)])) st5 ?_
      have k8_ := (k6_.ext E5)
      have e9_b3 := (A3.ext E5)
      have f10_b3 := (F_value_b3.ext E5)
      have f11_b3 := (F_coder_b3.ext E5)
      have hk13_ := (Nat.le_trans (Nat.le_trans hk0 E3.1) E5.1)
      refine own_callIW X5 hx hZ (y := (⟨"java/lang/String", "<init>", "([C)V"⟩ : MethodName)) rfl hown (hw _ (List.mem_of_getElem? (i := 46) rfl)) (hw _ (List.mem_of_getElem? (i := 47) rfl)) (hw _ (List.mem_of_getElem? (i := 48) rfl)) (hw _ (List.mem_of_getElem? (i := 44) rfl)) (by decide) hS hk13_ hEL C7.1 (own_rmE7 l Z a0 hw [] b3 b5 k5 (.int (0 : Int32)) h5 n0 (Nat.le_trans Z0 k8_.1) e9_b3 f10_b3 f11_b3 g_b3 V_b5) (by decide) (by decide) e5 (g := (mkF m 25 #[.val (.int p0), .val (.int md), .unset] [(.ref b5), (.ref b3), (.ref b3)])) rfl (by rw [hml]; rfl) (argsL := [(.ref b5)]) (rest := [(.ref b3)]) (lenOf own_pd__28_5bC_29V rfl) rfl (W := 1) (by show 2 * 0 + _ ≤ _; exact Nat.le_of_eq rfl) (hb hby own_d2_25) rfl (by decide) (by decide) ?_
      rintro rv12 T12 L12 X12 hS hZ hown CH12 ⟨rfl, Nq12, Kq12, Eq12, Cq12, tq12, kq12, nq12, Vq12, Aq12⟩
      have N12 := Fr.app N0 Nq12
      show own_Fin p e below _ T12 (mkF m 28 #[.val (.int p0), .val (.int md), .unset] [(.ref b3)])
      have sf15_b3 := ((sf_b3.ext E3 C0.1).ext E5 C4.1)
      have sf16 := CH12.safe e9_b3.lt sf15_b3
      have sf17_b5 := (sf_b5.ext E5 C4.1)
      have sf18 := CH12.safe V_b5.lt sf17_b5
      have C14 := C7.trans CH12
      have k19_ := (k8_.trans Kq12 (allS (Or.inr sz_b3) all0))
      exact own_endW X12 hS (by exact (Nat.le_refl _)) hZ hEL (by rw [hh]; exact C14) (v := some (.ref b3)) (fun h => by rw [Bd.returns] at h; cases h) hlk (fun hr => retOut X12 hx Bd.returns (own_narR rfl) (Or.inr (Or.inr (Or.inr (Or.inr ⟨rfl, rfl, rfl⟩)))) (hb hby own_d2_28) hr) (by exact ⟨Or.inr ⟨_, rfl⟩, N12, k19_⟩) (by decide) (by decide)
    · refine own_by (T' := s₁) (g' := (mkF m 29 #[.val (.int p0), .val (.int md), .unset] [])) (fun _ kq => XS.icmpYes X0.here hx rfl (pc0 := 15) (pc' := 29) rfl (hb hby own_d2_15) rfl (feq hc2).2 (by decide) (by decide) kq) ?_
      refine own_by (T' := s₁) (g' := (mkF m 30 #[.val (.int p0), .val (.int md), .unset] [(.int (2 : Int32))])) (fun _ kq => XS.iconst X0.here hx rfl (hb hby own_d2_29) kq) ?_
      obtain ⟨T20, h20, k20, X20, e20, E20, A20, st20⟩ := newP X0 hx hZ (hw _ (List.mem_of_getElem? (i := 45) rfl)) e0 (g := (mkF m 30 #[.val (.int p0), .val (.int md), .unset] [(.int (2 : Int32))])) rfl (hb hby own_d2_30) rfl (by decide) (cap := 2) (by decide) (by decide) (by decide) (by decide)
      obtain ⟨b20, g20⟩ : ∃ z, z = h0.size := ⟨_, rfl⟩
      rw [← g20] at A20 st20
      have g_b20 : n0 ≤ b20 := Nat.le_trans (Nat.le_trans Z0 (Keep.refl h0 []).1) (Nat.le_of_eq g20.symm)
      have sz_b20 : h0.size ≤ b20 := Nat.le_trans (Keep.refl h0 []).1 (Nat.le_of_eq g20.symm)
      have sf_b20 : Safe Z consts_1 s.vm h0 b20 := Safe.new (Nat.le_of_eq g20.symm)
      have C21 := C0.trans (CHr.ext E20 C0.1)
      have V_b20 : Arv Z h20 b20 k20 .char (2 : Int32) [(.int (0 : Int32)), (.int (0 : Int32))] (.int (0 : Int32)) := (Arv.new A20 (by decide)).pad (pad_rep [] (.int (0 : Int32)) 2)
      refine own_by (T' := T20) (g' := (mkF m 32 #[.val (.int p0), .val (.int md), .unset] [(.ref b20)])) st20 ?_
      refine own_by (T' := T20) (g' := (mkF m 33 #[.val (.int p0), .val (.int md), .val (.ref b20)] [])) (fun _ kq => XS.astoreN X20.here hx rfl (hb hby own_d2_32) rfl rfl (l' := #[.val (.int p0), .val (.int md), .val (.ref b20)]) rfl kq) ?_
      refine own_by (T' := T20) (g' := (mkF m 34 #[.val (.int p0), .val (.int md), .val (.ref b20)] [(.ref b20)])) (fun _ kq => XS.aloadN X20.here hx rfl (hb hby own_d2_33) rfl rfl kq) ?_
      refine own_by (T' := T20) (g' := (mkF m 35 #[.val (.int p0), .val (.int md), .val (.ref b20)] [(.int (0 : Int32)), (.ref b20)])) (fun _ kq => XS.iconst X20.here hx rfl (hb hby own_d2_34) kq) ?_
      refine own_by (T' := T20) (g' := (mkF m 36 #[.val (.int p0), .val (.int md), .val (.ref b20)] [(.int p0), (.int (0 : Int32)), (.ref b20)])) (fun _ kq => XS.iloadN X20.here hx rfl (hb hby own_d2_35) rfl kq) ?_
      refine own_by (T' := T20) (g' := (mkF m 39 #[.val (.int p0), .val (.int md), .val (.ref b20)] [(.int (255 : Int32)), (.int p0), (.int (0 : Int32)), (.ref b20)])) (fun _ kq => XS.sipush X20.here hx rfl (hb hby own_d2_36) kq) ?_
      refine own_by (T' := T20) (g' := (mkF m 40 #[.val (.int p0), .val (.int md), .val (.ref b20)] [(.int (p0 &&& (255 : Int32))), (.int (0 : Int32)), (.ref b20)])) (fun _ kq => XS.iand X20.here hx rfl (hb hby own_d2_39) rfl kq) ?_
      refine own_by (T' := T20) (g' := (mkF m 41 #[.val (.int p0), .val (.int md), .val (.ref b20)] [(.int ((p0 &&& (255 : Int32)).toUInt32.toUInt16.toUInt32.toInt32)), (.int (0 : Int32)), (.ref b20)])) (fun _ kq => XS.i2c X20.here hx rfl (hb hby own_d2_40) rfl kq) ?_
      have sw22 : Safe Z consts_1 s.vm h20 b20 := (Safe.arv hZ.alike V_b20 (by decide))
      obtain ⟨cl23, Ar23, q23, S23, P23, H23, G23⟩ := id V_b20
      have hin23 : ¬ ((0 : Int32) < 0 ∨ cl23.slots.size ≤ ((0 : Int32)).toNatClampNeg) := inb_of S23 ⟨by decide, by decide⟩
      obtain ⟨T24, h24, X24, e24, W24, st24⟩ := stC X20 hx hZ e20 Ar23 (j := (0 : Int32)) hin23 (g := (mkF m 41 #[.val (.int p0), .val (.int md), .val (.ref b20)] [(.int ((p0 &&& (255 : Int32)).toUInt32.toUInt16.toUInt32.toInt32)), (.int (0 : Int32)), (.ref b20)])) rfl rfl (hb hby own_d2_41)
      have V24 : Arv Z h24 b20 k20 .char (2 : Int32) [(.int (nar .char ((p0 &&& (255 : Int32)).toUInt32.toUInt16.toUInt32.toInt32))), (.int (0 : Int32))] (.int (0 : Int32)) := Arv.set Ar23 q23 S23 P23 H23 G23 (fits_nar_char _) W24 0 rfl (Nat.le_of_ble_eq_true rfl)
      have C25 := C21.trans (CHr.wr W24 sw22 C21.1)
      have N24 := Fr.snoc X24 N0 g_b20
      refine own_by (T' := T24) (g' := (mkF m 42 #[.val (.int p0), .val (.int md), .val (.ref b20)] [])) st24 ?_
      refine own_by (T' := T24) (g' := (mkF m 43 #[.val (.int p0), .val (.int md), .val (.ref b20)] [(.ref b20)])) (fun _ kq => XS.aloadN X24.here hx rfl (hb hby own_d2_42) rfl rfl kq) ?_
      refine own_by (T' := T24) (g' := (mkF m 44 #[.val (.int p0), .val (.int md), .val (.ref b20)] [(.int (1 : Int32)), (.ref b20)])) (fun _ kq => XS.iconst X24.here hx rfl (hb hby own_d2_43) kq) ?_
      refine own_by (T' := T24) (g' := (mkF m 45 #[.val (.int p0), .val (.int md), .val (.ref b20)] [(.int p0), (.int (1 : Int32)), (.ref b20)])) (fun _ kq => XS.iloadN X24.here hx rfl (hb hby own_d2_44) rfl kq) ?_
      refine own_by (T' := T24) (g' := (mkF m 47 #[.val (.int p0), .val (.int md), .val (.ref b20)] [(.int (8 : Int32)), (.int p0), (.int (1 : Int32)), (.ref b20)])) (fun _ kq => XS.bipush X24.here hx rfl (hb hby own_d2_45) kq) ?_
      refine own_by (T' := T24) (g' := (mkF m 48 #[.val (.int p0), .val (.int md), .val (.ref b20)] [(.int ((p0.toUInt32 >>> ((8 : Int32) &&& 31).toUInt32).toInt32)), (.int (1 : Int32)), (.ref b20)])) (fun _ kq => XS.iushr X24.here hx rfl (hb hby own_d2_47) rfl kq) ?_
      refine own_by (T' := T24) (g' := (mkF m 51 #[.val (.int p0), .val (.int md), .val (.ref b20)] [(.int (255 : Int32)), (.int ((p0.toUInt32 >>> ((8 : Int32) &&& 31).toUInt32).toInt32)), (.int (1 : Int32)), (.ref b20)])) (fun _ kq => XS.sipush X24.here hx rfl (hb hby own_d2_48) kq) ?_
      refine own_by (T' := T24) (g' := (mkF m 52 #[.val (.int p0), .val (.int md), .val (.ref b20)] [(.int (((p0.toUInt32 >>> ((8 : Int32) &&& 31).toUInt32).toInt32) &&& (255 : Int32))), (.int (1 : Int32)), (.ref b20)])) (fun _ kq => XS.iand X24.here hx rfl (hb hby own_d2_51) rfl kq) ?_
      refine own_by (T' := T24) (g' := (mkF m 53 #[.val (.int p0), .val (.int md), .val (.ref b20)] [(.int ((((p0.toUInt32 >>> ((8 : Int32) &&& 31).toUInt32).toInt32) &&& (255 : Int32)).toUInt32.toUInt16.toUInt32.toInt32)), (.int (1 : Int32)), (.ref b20)])) (fun _ kq => XS.i2c X24.here hx rfl (hb hby own_d2_52) rfl kq) ?_
      have sw26 : Safe Z consts_1 s.vm h24 b20 := (Safe.arv hZ.alike V24 (by decide))
      obtain ⟨cl27, Ar27, q27, S27, P27, H27, G27⟩ := id V24
      have hin27 : ¬ ((1 : Int32) < 0 ∨ cl27.slots.size ≤ ((1 : Int32)).toNatClampNeg) := inb_of S27 ⟨by decide, by decide⟩
      obtain ⟨T28, h28, X28, e28, W28, st28⟩ := stC X24 hx hZ e24 Ar27 (j := (1 : Int32)) hin27 (g := (mkF m 53 #[.val (.int p0), .val (.int md), .val (.ref b20)] [(.int ((((p0.toUInt32 >>> ((8 : Int32) &&& 31).toUInt32).toInt32) &&& (255 : Int32)).toUInt32.toUInt16.toUInt32.toInt32)), (.int (1 : Int32)), (.ref b20)])) rfl rfl (hb hby own_d2_53)
      have V28 : Arv Z h28 b20 k20 .char (2 : Int32) [(.int (nar .char ((p0 &&& (255 : Int32)).toUInt32.toUInt16.toUInt32.toInt32))), (.int (nar .char ((((p0.toUInt32 >>> ((8 : Int32) &&& 31).toUInt32).toInt32) &&& (255 : Int32)).toUInt32.toUInt16.toUInt32.toInt32)))] (.int (0 : Int32)) := Arv.set Ar27 q27 S27 P27 H27 G27 (fits_nar_char _) W28 1 rfl (Nat.le_of_ble_eq_true rfl)
      have C29 := C25.trans (CHr.wr W28 sw26 C25.1)
      have N28 := Fr.snoc X28 N24 g_b20
      refine own_by (T' := T28) (g' := (mkF m 54 #[.val (.int p0), .val (.int md), .val (.ref b20)] [])) st28 ?_
      obtain ⟨T30, h30, X30, e30, E30, A30, D30, U30, st30⟩ := newO X28 hx hZ hown (hw _ (List.mem_of_getElem? (i := 42) rfl)) (hw _ (List.mem_of_getElem? (i := 43) rfl)) (hw _ (List.mem_of_getElem? (i := 44) rfl)) e28 (g := (mkF m 54 #[.val (.int p0), .val (.int md), .val (.ref b20)] [])) rfl (hb hby own_d2_54) (by decide) (by decide)
      obtain ⟨b30, g30⟩ : ∃ z, z = h28.size := ⟨_, rfl⟩
      rw [← g30] at A30 D30 U30 st30
      have k31_ := ((((Keep.refl h0 []).ext E20).wr W24 (Or.inr sz_b20)).wr W28 (Or.inr sz_b20))
      have g_b30 : n0 ≤ b30 := Nat.le_trans (Nat.le_trans Z0 k31_.1) (Nat.le_of_eq g30.symm)
      have sz_b30 : h0.size ≤ b30 := Nat.le_trans k31_.1 (Nat.le_of_eq g30.symm)
      have sf_b30 : Safe Z consts_1 s.vm h28 b30 := Safe.new (Nat.le_of_eq g30.symm)
      have ne_b20_b30 : b20 ≠ b30 := Nat.ne_of_lt (Nat.lt_of_lt_of_le V28.lt (Nat.le_of_eq g30.symm))
      have C32 := C29.trans (CHr.ext E30 C29.1)
      have F_value_b30 : Fld Z h30 b30 "java/lang/String" "value" "[B" .null := D30 (Or.inr (hw _ (List.mem_of_getElem? (i := 56) rfl))) (ty := (.array .byte)) (by decide)
      have F_coder_b30 : Fld Z h30 b30 "java/lang/String" "coder" "B" (.int (0 : Int32)) := D30 (Or.inr (hw _ (List.mem_of_getElem? (i := 57) rfl))) (ty := .byte) (by decide)
      refine own_by (T' := T30) (g' := (mkF m 57 #[.val (.int p0), .val (.int md), .val (.ref b20)] [(.ref b30)])) st30 ?_
      refine own_by (T' := T30) (g' := (mkF m 58 #[.val (.int p0), .val (.int md), .val (.ref b20)] [(.ref b30), (.ref b30)])) (fun _ kq => XS.dup X30.here hx rfl (hb hby own_d2_57) rfl rfl kq) ?_
      refine own_by (T' := T30) (g' := (mkF m 59 #[.val (.int p0), .val (.int md), .val (.ref b20)] [(.ref b20), (.ref b30), (.ref b30)])) (fun _ kq => XS.aloadN X30.here hx rfl (hb hby own_d2_58) rfl rfl kq) ?_
      have k33_ := (k31_.ext E30)
      have sf34_b30 := (sf_b30.ext E30 C29.1)
      have o35_ := ((((O0.ext E20).wr W24 g_b20).wr W28 g_b20).ext E30)
      have a36_b20 := (V28.ext E30)
      refine own_callIB X30 hx hZ (y := (⟨"java/lang/String", "<init>", "([C)V"⟩ : MethodName)) rfl hown (hw _ (List.mem_of_getElem? (i := 46) rfl)) (hw _ (List.mem_of_getElem? (i := 47) rfl)) (hw _ (List.mem_of_getElem? (i := 48) rfl))  (by decide) (StrChars.Road.backV (W := 1) hZ (own_wV hw) (kI := 4) (hw _ (List.mem_of_getElem? (i := 43) rfl)) (cs := ([(nar .char ((p0 &&& (255 : Int32)).toUInt32.toUInt16.toUInt32.toInt32)), (nar .char ((((p0.toUInt32 >>> ((8 : Int32) &&& 31).toUInt32).toInt32) &&& (255 : Int32)).toUInt32.toUInt16.toUInt32.toInt32))] : List Int32)) (bs := ([(nar .char ((p0 &&& (255 : Int32)).toUInt32.toUInt16.toUInt32.toInt32)), (nar .char ((((p0.toUInt32 >>> ((8 : Int32) &&& 31).toUInt32).toInt32) &&& (255 : Int32)).toUInt32.toUInt16.toUInt32.toInt32))] : List Int32).map (fun c => c.toInt8.toInt32)) (n := 2) g_b30 (Nat.le_trans Z0 k33_.1) A30 F_value_b30 F_coder_b30 a36_b20 (S_CS.ext o35_.2) nCS rfl rfl (by decide) (by decide) (by intro c hc; simp only [List.mem_cons, List.not_mem_nil, or_false] at hc; rcases hc with rfl | rfl <;> exact own_ch _) rfl (by decide) (by decide)) e30 (g := (mkF m 59 #[.val (.int p0), .val (.int md), .val (.ref b20)] [(.ref b20), (.ref b30), (.ref b30)])) rfl (by rw [hml]; rfl) (argsL := [(.ref b20)]) (rest := [(.ref b30)]) (lenOf own_pd__28_5bC_29V rfl) rfl (W := 1) (by show 2 * 0 + _ ≤ _; exact Nat.le_of_eq rfl) (hb hby own_d2_59) rfl (by decide) (by decide) ?_
      rintro rv37 T37 L37 X37 ⟨rfl, Nq37, Kq37, Eq37, Cq37, tq37, kq37, u137, u237, u337, Vq37, Aq37⟩
      have N37 := Fr.app N28 Nq37
      show own_Fin p e below _ T37 (mkF m 62 #[.val (.int p0), .val (.int md), .val (.ref b20)] [(.ref b30)])
      have C38 := C32.trans (CHr.keep Kq37 (sfS sf34_b30 sf0) C32.1)
      have k39_ := (k33_.trans Kq37 (allS (Or.inr sz_b30) all0))
      have hk40_ := (Nat.le_trans (Nat.le_trans (Nat.le_trans (Nat.le_trans (Nat.le_trans hk0 E20.1) (Keep.of_wr W24).1) (Keep.of_wr W28).1) E30.1) Kq37.1)
      exact own_endW X37 hS (by exact hk40_) hZ hEL (by rw [hh]; exact C38) (v := some (.ref b30)) (fun h => by rw [Bd.returns] at h; cases h) hlk (fun hr => retOut X37 hx Bd.returns (own_narR rfl) (Or.inr (Or.inr (Or.inr (Or.inr ⟨rfl, rfl, rfl⟩)))) (hb hby own_d2_62) hr) (by exact ⟨Or.inr ⟨_, rfl⟩, N37, k39_⟩) (by decide) (by decide)
theorem own_d4_0 : decode jdk_30_method_1_code 0 = .ok (.aload_n 0, 1) := by decide +kernel
theorem own_d4_1 : decode jdk_30_method_1_code 1 = .ok (.invokespecial 1, 3) := by decide +kernel
theorem own_d4_4 : decode jdk_30_method_1_code 4 = .ok (.return_, 1) := by decide +kernel
theorem own_rm4_ef (m : MethodId) (a : Addr) : entryFrame m #[(.ref a)] 1 = mkF m 0 #[.val (.ref a)] [] := by  first | (simp [entryFrame, mkF, argsToLocals, Value.category]; done) | rfl
def own_rm4_Q (Z : State) (a : Addr) (h0 : Heap) (n0 : Nat) (v : Option Value) (h : Heap) (L : List Loc) : Prop := v = none ∧ Fr n0 L ∧ h = h0
theorem own_pn_java_lang_Record : plainName "java/lang/Record" = true := by first | (simp [plainName, overriddenIn]; done) | decide +kernel
set_option maxRecDepth 65536 in
set_option maxHeartbeats 40000000 in
theorem own_rm4 (l : Launch) (Z : State) (a0 : Array Value) (hw : ∀ d ∈ tables_1, d.before a0 Z = true) (ws : List Jvm.Cond) (a : Addr) (h0 : Heap) (n0 : Nat) (Z0 : n0 ≤ h0.size)  :
    MetFree l (⟨"java/lang/Record", "<init>", "()V"⟩ : MethodName) (head1 (Jvm.Cond.code (⟨"java/lang/Record", "<init>", "()V"⟩ : MethodName) jdk_30_method_1_code 1 none :: ws) ({ frames := 1, cells := 0, slots := 0, locals := 12 } : Room)) (fun aa U => aa = #[(.ref a)] ∧ Z.Warmed39 U.vm ∧ U.heap = h0) (fun _ _ _ _ _ => True) (fun _ U o U' => ∃ v L, o = .returned v ∧ own_rm4_Q Z a h0 n0 v U'.heap L ∧ FrameEnd U o U' L ({ frames := 1, cells := 0, slots := 0, locals := 12 } : Room).cells ({ frames := 1, cells := 0, slots := 0, locals := 12 } : Room).slots) := by
  refine MetFree.of_bodySF (plainFor_of_name own_pn_java_lang_Record) hisR ?_
  intro p e s m args below meth c s₁ Bd hml0 hP hK
  obtain ⟨rfl, hZ, hh⟩ := hP
  have hx := Bd.exec
  have hby := Bd.bytes
  have hml : c.maxLocals = 1 := hml0
  have hown : s.vm.findClass "java/lang/Record" = some m.cls := findClass_of_methodNamed Bd.named
  have hnm := (name_of_methodNamed Bd.named Bd.method).1
  have hlk := Bd.notSynchronized
  have X0 : Stand p l e ({ frames := 1, cells := 0, slots := 0, locals := 12 } : Room) s m #[(.ref a)] below meth c s₁ [] 0 0 := Stand.of_body Bd
  have e0 : s₁.heap = h0 := by rw [← hh, Bd.state]; rfl
  have N0 := Fr.nil n0
  refine own_start (Q := own_rm4_Q Z a h0 n0) (own_rm4_ef m a) ?_
  refine own_by (T' := s₁) (g' := (mkF m 1 #[.val (.ref a)] [(.ref a)])) (fun _ kq => XS.aloadN X0.here hx rfl (hb hby own_d4_0) rfl rfl kq) ?_
  obtain ⟨T1, X1, e1, st1⟩ := initO X0 hx hZ hown (hw _ (List.mem_of_getElem? (i := 22) rfl)) (hw _ (List.mem_of_getElem? (i := 23) rfl)) (hw _ (List.mem_of_getElem? (i := 24) rfl)) e0 (g := (mkF m 1 #[.val (.ref a)] [(.ref a)])) rfl (by rw [hml]; rfl) rfl (hb hby own_d4_1) (by decide) (W := 0) (by show 2 * 0 + _ ≤ _; exact Nat.le_of_eq rfl) (by decide)
  refine own_by (T' := T1) (g' := (mkF m 4 #[.val (.ref a)] [])) st1 ?_
  exact own_end X1 (v := none) (fun _ => rfl) hlk (fun hr => X1.returnOut hx Bd.returns (hb hby own_d4_4) hr) (by rw [e1]; exact ⟨rfl, N0, rfl⟩) (by decide) (by decide)
theorem own_d3_0 : decode prog_90_method_1_code 0 = .ok (.aload_n 0, 1) := by decide +kernel
theorem own_d3_1 : decode prog_90_method_1_code 1 = .ok (.invokespecial 1, 3) := by decide +kernel
theorem own_pd__28_29V : parseMethodDescriptor "()V" = some ⟨[], none⟩ := by decide +kernel
theorem own_d3_4 : decode prog_90_method_1_code 4 = .ok (.aload_n 0, 1) := by decide +kernel
theorem own_d3_5 : decode prog_90_method_1_code 5 = .ok (.aload_n 1, 1) := by decide +kernel
theorem own_d3_6 : decode prog_90_method_1_code 6 = .ok (.putfield 7, 3) := by decide +kernel
theorem own_d3_9 : decode prog_90_method_1_code 9 = .ok (.aload_n 0, 1) := by decide +kernel
theorem own_d3_10 : decode prog_90_method_1_code 10 = .ok (.iload_n 2, 1) := by decide +kernel
theorem own_d3_11 : decode prog_90_method_1_code 11 = .ok (.putfield 13, 3) := by decide +kernel
theorem own_d3_14 : decode prog_90_method_1_code 14 = .ok (.aload_n 0, 1) := by decide +kernel
theorem own_d3_15 : decode prog_90_method_1_code 15 = .ok (.aload_n 3, 1) := by decide +kernel
theorem own_d3_16 : decode prog_90_method_1_code 16 = .ok (.putfield 17, 3) := by decide +kernel
theorem own_d3_19 : decode prog_90_method_1_code 19 = .ok (.aload_n 0, 1) := by decide +kernel
theorem own_d3_20 : decode prog_90_method_1_code 20 = .ok (.aload 4, 2) := by decide +kernel
theorem own_d3_22 : decode prog_90_method_1_code 22 = .ok (.putfield 20, 3) := by decide +kernel
theorem own_d3_25 : decode prog_90_method_1_code 25 = .ok (.return_, 1) := by decide +kernel
theorem own_rm3_ef (m : MethodId) (a : Addr) (vf : Value) (ln : Int32) (vp : Value) (vr : Value) (hvf : vf.isRef = true) (hvp : vp.isRef = true) (hvr : vr.isRef = true) : entryFrame m #[(.ref a), vf, (.int ln), vp, vr] 5 = mkF m 0 #[.val (.ref a), .val vf, .val (.int ln), .val vp, .val vr] [] := by rcases ref_cases hvf with rfl | ⟨_, rfl⟩ <;> rcases ref_cases hvp with rfl | ⟨_, rfl⟩ <;> rcases ref_cases hvr with rfl | ⟨_, rfl⟩ <;>  first | (simp [entryFrame, mkF, argsToLocals, Value.category]; done) | rfl
def own_rm3_Q (Z : State) (a : Addr) (vf : Value) (ln : Int32) (vp : Value) (vr : Value) (h0 : Heap) (n0 : Nat) (v : Option Value) (h : Heap) (L : List Loc) : Prop := v = none ∧ Fr n0 L ∧ Keep h0 h [a] ∧ Exa Z h a "com/example/abeyance/abeyance/records/Verdict" ∧ Fld Z h a "com/example/abeyance/abeyance/records/Verdict" "refusal" "Lcom/example/abeyance/abeyance/records/Refusal;" vr
theorem own_pn_com_example_abeyance_abeyance_records_Verdict : plainName "com/example/abeyance/abeyance/records/Verdict" = true := by first | (simp [plainName, overriddenIn]; done) | decide +kernel
set_option maxRecDepth 65536 in
set_option maxHeartbeats 40000000 in
theorem own_rm3 (l : Launch) (Z : State) (a0 : Array Value) (hw : ∀ d ∈ tables_1, d.before a0 Z = true) (ws : List Jvm.Cond) (a : Addr) (vf : Value) (ln : Int32) (vp : Value) (vr : Value) (h0 : Heap) (n0 : Nat) (Z0 : n0 ≤ h0.size) (hvf : vf.isRef = true) (hvp : vp.isRef = true) (hvr : vr.isRef = true) (E_a : Exa Z h0 a "com/example/abeyance/abeyance/records/Verdict") (g_a : n0 ≤ a) (F_file : Fld Z h0 a "com/example/abeyance/abeyance/records/Verdict" "file" "Ljava/lang/String;" .null) (F_line : Fld Z h0 a "com/example/abeyance/abeyance/records/Verdict" "line" "I" (.int (0 : Int32))) (F_participant : Fld Z h0 a "com/example/abeyance/abeyance/records/Verdict" "participant" "Ljava/lang/String;" .null) (F_refusal : Fld Z h0 a "com/example/abeyance/abeyance/records/Verdict" "refusal" "Lcom/example/abeyance/abeyance/records/Refusal;" .null) :
    MetFree l (⟨"com/example/abeyance/abeyance/records/Verdict", "<init>", "(Ljava/lang/String;ILjava/lang/String;Lcom/example/abeyance/abeyance/records/Refusal;)V"⟩ : MethodName) (head1 (Jvm.Cond.code (⟨"com/example/abeyance/abeyance/records/Verdict", "<init>", "(Ljava/lang/String;ILjava/lang/String;Lcom/example/abeyance/abeyance/records/Refusal;)V"⟩ : MethodName) prog_90_method_1_code 5 none :: ws) ({ frames := 2, cells := 0, slots := 0, locals := 24 } : Room)) (fun aa U => aa = #[(.ref a), vf, (.int ln), vp, vr] ∧ Z.Warmed39 U.vm ∧ U.heap = h0) (fun _ _ _ _ _ => True) (fun _ U o U' => ∃ v L, o = .returned v ∧ own_rm3_Q Z a vf ln vp vr h0 n0 v U'.heap L ∧ FrameEnd U o U' L ({ frames := 2, cells := 0, slots := 0, locals := 24 } : Room).cells ({ frames := 2, cells := 0, slots := 0, locals := 24 } : Room).slots) := by
  refine MetFree.of_bodySF (plainFor_of_name own_pn_com_example_abeyance_abeyance_records_Verdict) hisR ?_
  intro p e s m args below meth c s₁ Bd hml0 hP hK
  obtain ⟨rfl, hZ, hh⟩ := hP
  have hx := Bd.exec
  have hby := Bd.bytes
  have hml : c.maxLocals = 5 := hml0
  have hown : s.vm.findClass "com/example/abeyance/abeyance/records/Verdict" = some m.cls := findClass_of_methodNamed Bd.named
  have hnm := (name_of_methodNamed Bd.named Bd.method).1
  have hlk := Bd.notSynchronized
  have X0 : Stand p l e ({ frames := 2, cells := 0, slots := 0, locals := 24 } : Room) s m #[(.ref a), vf, (.int ln), vp, vr] below meth c s₁ [] 0 0 := Stand.of_body Bd
  have e0 : s₁.heap = h0 := by rw [← hh, Bd.state]; rfl
  have N0 := Fr.nil n0
  refine own_start (Q := own_rm3_Q Z a vf ln vp vr h0 n0) (own_rm3_ef m a vf ln vp vr hvf hvp hvr) ?_
  refine own_by (T' := s₁) (g' := (mkF m 1 #[.val (.ref a), .val vf, .val (.int ln), .val vp, .val vr] [(.ref a)])) (fun _ kq => XS.aloadN X0.here hx rfl (hb hby own_d3_0) rfl rfl kq) ?_
  refine own_callI X0 hx hZ (y := (⟨"java/lang/Record", "<init>", "()V"⟩ : MethodName)) rfl hown (hw _ (List.mem_of_getElem? (i := 17) rfl)) (hw _ (List.mem_of_getElem? (i := 18) rfl)) (hw _ (List.mem_of_getElem? (i := 21) rfl)) (hw _ (List.mem_of_getElem? (i := 20) rfl)) (by decide) (own_rm4 l Z a0 hw [] a h0 n0 Z0) (by decide) (by decide) e0 (g := (mkF m 1 #[.val (.ref a), .val vf, .val (.int ln), .val vp, .val vr] [(.ref a)])) rfl (by rw [hml]; rfl) (argsL := []) (rest := []) (lenOf own_pd__28_29V rfl) rfl (W := 0) (by show 2 * 0 + _ ≤ _; exact Nat.le_of_eq rfl) (hb hby own_d3_1) rfl (by decide) (by decide) ?_
  rintro rv1 T1 L1 X1 ⟨rfl, Nq1, eh1⟩
  have N1 := Fr.app N0 Nq1
  show own_Fin p e below _ T1 (mkF m 4 #[.val (.ref a), .val vf, .val (.int ln), .val vp, .val vr] [])
  refine own_by (T' := T1) (g' := (mkF m 5 #[.val (.ref a), .val vf, .val (.int ln), .val vp, .val vr] [(.ref a)])) (fun _ kq => XS.aloadN X1.here hx rfl (hb hby own_d3_4) rfl rfl kq) ?_
  refine own_by (T' := T1) (g' := (mkF m 6 #[.val (.ref a), .val vf, .val (.int ln), .val vp, .val vr] [vf, (.ref a)])) (fun _ kq => XS.aloadN X1.here hx rfl (hb hby own_d3_5) rfl hvf kq) ?_
  obtain ⟨T2, h2, X2, e2, W2, st2⟩ := putF X1 hx hZ hown (host := "") (Or.inl (hw _ (List.mem_of_getElem? (i := 25) rfl))) Via.refl eh1 F_file E_a (Or.inr ⟨(hw _ (List.mem_of_getElem? (i := 26) rfl)), rfl, hnm⟩) (hw _ (List.mem_of_getElem? (i := 12) rfl)) (ty := (.object "java/lang/String")) (by decide) (own_narR rfl) (own_fitsR rfl hvf) (g := (mkF m 6 #[.val (.ref a), .val vf, .val (.int ln), .val vp, .val vr] [vf, (.ref a)])) rfl rfl (hb hby own_d3_6)
  have Fw2 := F_file.same W2
  have N2 := Fr.snoc X2 N1 g_a
  refine own_by (T' := T2) (g' := (mkF m 9 #[.val (.ref a), .val vf, .val (.int ln), .val vp, .val vr] [])) st2 ?_
  refine own_by (T' := T2) (g' := (mkF m 10 #[.val (.ref a), .val vf, .val (.int ln), .val vp, .val vr] [(.ref a)])) (fun _ kq => XS.aloadN X2.here hx rfl (hb hby own_d3_9) rfl rfl kq) ?_
  refine own_by (T' := T2) (g' := (mkF m 11 #[.val (.ref a), .val vf, .val (.int ln), .val vp, .val vr] [(.int ln), (.ref a)])) (fun _ kq => XS.iloadN X2.here hx rfl (hb hby own_d3_10) rfl kq) ?_
  have e3_a := (E_a.wr W2)
  have f4_a := (F_line.other W2 (Or.inr (slot_ne (Or.inr (hw _ (List.mem_of_getElem? (i := 28) rfl))) (Or.inr (hw _ (List.mem_of_getElem? (i := 26) rfl))) (by decide) (t := .int) (t' := (.object "java/lang/String")) (by decide) (by decide))))
  obtain ⟨T5, h5, X5, e5, W5, st5⟩ := putF X2 hx hZ hown (host := "") (Or.inl (hw _ (List.mem_of_getElem? (i := 27) rfl))) Via.refl e2 f4_a e3_a (Or.inr ⟨(hw _ (List.mem_of_getElem? (i := 28) rfl)), rfl, hnm⟩) (hw _ (List.mem_of_getElem? (i := 12) rfl)) (ty := .int) (by decide) (rfl) (rfl) (g := (mkF m 11 #[.val (.ref a), .val vf, .val (.int ln), .val vp, .val vr] [(.int ln), (.ref a)])) rfl rfl (hb hby own_d3_11)
  have Fw5 := f4_a.same W5
  have N5 := Fr.snoc X5 N2 g_a
  refine own_by (T' := T5) (g' := (mkF m 14 #[.val (.ref a), .val vf, .val (.int ln), .val vp, .val vr] [])) st5 ?_
  refine own_by (T' := T5) (g' := (mkF m 15 #[.val (.ref a), .val vf, .val (.int ln), .val vp, .val vr] [(.ref a)])) (fun _ kq => XS.aloadN X5.here hx rfl (hb hby own_d3_14) rfl rfl kq) ?_
  refine own_by (T' := T5) (g' := (mkF m 16 #[.val (.ref a), .val vf, .val (.int ln), .val vp, .val vr] [vp, (.ref a)])) (fun _ kq => XS.aloadN X5.here hx rfl (hb hby own_d3_15) rfl hvp kq) ?_
  have e6_a := (e3_a.wr W5)
  have f7_a := ((F_participant.other W2 (Or.inr (slot_ne (Or.inr (hw _ (List.mem_of_getElem? (i := 30) rfl))) (Or.inr (hw _ (List.mem_of_getElem? (i := 26) rfl))) (by decide) (t := (.object "java/lang/String")) (t' := (.object "java/lang/String")) (by decide) (by decide)))).other W5 (Or.inr (slot_ne (Or.inr (hw _ (List.mem_of_getElem? (i := 30) rfl))) (Or.inr (hw _ (List.mem_of_getElem? (i := 28) rfl))) (by decide) (t := (.object "java/lang/String")) (t' := .int) (by decide) (by decide))))
  obtain ⟨T8, h8, X8, e8, W8, st8⟩ := putF X5 hx hZ hown (host := "") (Or.inl (hw _ (List.mem_of_getElem? (i := 29) rfl))) Via.refl e5 f7_a e6_a (Or.inr ⟨(hw _ (List.mem_of_getElem? (i := 30) rfl)), rfl, hnm⟩) (hw _ (List.mem_of_getElem? (i := 12) rfl)) (ty := (.object "java/lang/String")) (by decide) (own_narR rfl) (own_fitsR rfl hvp) (g := (mkF m 16 #[.val (.ref a), .val vf, .val (.int ln), .val vp, .val vr] [vp, (.ref a)])) rfl rfl (hb hby own_d3_16)
  have Fw8 := f7_a.same W8
  have N8 := Fr.snoc X8 N5 g_a
  refine own_by (T' := T8) (g' := (mkF m 19 #[.val (.ref a), .val vf, .val (.int ln), .val vp, .val vr] [])) st8 ?_
  refine own_by (T' := T8) (g' := (mkF m 20 #[.val (.ref a), .val vf, .val (.int ln), .val vp, .val vr] [(.ref a)])) (fun _ kq => XS.aloadN X8.here hx rfl (hb hby own_d3_19) rfl rfl kq) ?_
  refine own_by (T' := T8) (g' := (mkF m 22 #[.val (.ref a), .val vf, .val (.int ln), .val vp, .val vr] [vr, (.ref a)])) (fun _ kq => XS.aload X8.here hx rfl (hb hby own_d3_20) rfl hvr kq) ?_
  have e9_a := (e6_a.wr W8)
  have f10_a := (((F_refusal.other W2 (Or.inr (slot_ne (Or.inr (hw _ (List.mem_of_getElem? (i := 32) rfl))) (Or.inr (hw _ (List.mem_of_getElem? (i := 26) rfl))) (by decide) (t := (.object "com/example/abeyance/abeyance/records/Refusal")) (t' := (.object "java/lang/String")) (by decide) (by decide)))).other W5 (Or.inr (slot_ne (Or.inr (hw _ (List.mem_of_getElem? (i := 32) rfl))) (Or.inr (hw _ (List.mem_of_getElem? (i := 28) rfl))) (by decide) (t := (.object "com/example/abeyance/abeyance/records/Refusal")) (t' := .int) (by decide) (by decide)))).other W8 (Or.inr (slot_ne (Or.inr (hw _ (List.mem_of_getElem? (i := 32) rfl))) (Or.inr (hw _ (List.mem_of_getElem? (i := 30) rfl))) (by decide) (t := (.object "com/example/abeyance/abeyance/records/Refusal")) (t' := (.object "java/lang/String")) (by decide) (by decide))))
  obtain ⟨T11, h11, X11, e11, W11, st11⟩ := putF X8 hx hZ hown (host := "") (Or.inl (hw _ (List.mem_of_getElem? (i := 31) rfl))) Via.refl e8 f10_a e9_a (Or.inr ⟨(hw _ (List.mem_of_getElem? (i := 32) rfl)), rfl, hnm⟩) (hw _ (List.mem_of_getElem? (i := 12) rfl)) (ty := (.object "com/example/abeyance/abeyance/records/Refusal")) (by decide) (own_narR rfl) (own_fitsR rfl hvr) (g := (mkF m 22 #[.val (.ref a), .val vf, .val (.int ln), .val vp, .val vr] [vr, (.ref a)])) rfl rfl (hb hby own_d3_22)
  have Fw11 := f10_a.same W11
  have N11 := Fr.snoc X11 N8 g_a
  refine own_by (T' := T11) (g' := (mkF m 25 #[.val (.ref a), .val vf, .val (.int ln), .val vp, .val vr] [])) st11 ?_
  have k12_ := (((((Keep.refl h0 [a]).wr W2 (Or.inl (List.mem_of_getElem? (i := 0) rfl))).wr W5 (Or.inl (List.mem_of_getElem? (i := 0) rfl))).wr W8 (Or.inl (List.mem_of_getElem? (i := 0) rfl))).wr W11 (Or.inl (List.mem_of_getElem? (i := 0) rfl)))
  have e13_a := (e9_a.wr W11)
  exact own_end X11 (v := none) (fun _ => rfl) hlk (fun hr => X11.returnOut hx Bd.returns (hb hby own_d3_25) hr) (by rw [e11]; exact ⟨rfl, N11, k12_, e13_a, Fw11⟩) (by decide) (by decide)
theorem own_d6_0 : decode prog_90_method_2_code 0 = .ok (.aload_n 0, 1) := by decide +kernel
theorem own_d6_1 : decode prog_90_method_2_code 1 = .ok (.getfield 20, 3) := by decide +kernel
theorem own_d6_4 : decode prog_90_method_2_code 4 = .ok (.ifnonnull 7, 3) := by decide +kernel
theorem own_d6_7 : decode prog_90_method_2_code 7 = .ok (.iconst 1, 1) := by decide +kernel
theorem own_d6_8 : decode prog_90_method_2_code 8 = .ok (.goto 4, 3) := by decide +kernel
theorem own_d6_12 : decode prog_90_method_2_code 12 = .ok (.ireturn, 1) := by decide +kernel
theorem own_rm6n_ef (m : MethodId) (a : Addr) : entryFrame m #[(.ref a)] 1 = mkF m 0 #[.val (.ref a)] [] := by  first | (simp [entryFrame, mkF, argsToLocals, Value.category]; done) | rfl
def own_rm6n_Q (Z : State) (a : Addr) (h0 : Heap) (n0 : Nat) (v : Option Value) (h : Heap) (L : List Loc) : Prop := v = some (.int (1 : Int32)) ∧ Fr n0 L ∧ h = h0
set_option maxRecDepth 65536 in
set_option maxHeartbeats 40000000 in
theorem own_rm6n (l : Launch) (Z : State) (a0 : Array Value) (hw : ∀ d ∈ tables_1, d.before a0 Z = true) (ws : List Jvm.Cond) (a : Addr) (h0 : Heap) (n0 : Nat) (Z0 : n0 ≤ h0.size) (F_r : Fld Z h0 a "com/example/abeyance/abeyance/records/Verdict" "refusal" "Lcom/example/abeyance/abeyance/records/Refusal;" .null) :
    MetFree l (⟨"com/example/abeyance/abeyance/records/Verdict", "accepted", "()Z"⟩ : MethodName) (head1 (Jvm.Cond.code (⟨"com/example/abeyance/abeyance/records/Verdict", "accepted", "()Z"⟩ : MethodName) prog_90_method_2_code 1 (some .boolean) :: ws) ({ frames := 0, cells := 0, slots := 0, locals := 0 } : Room)) (fun aa U => aa = #[(.ref a)] ∧ Z.Warmed39 U.vm ∧ U.heap = h0) (fun _ _ _ _ _ => True) (fun _ U o U' => ∃ v L, o = .returned v ∧ own_rm6n_Q Z a h0 n0 v U'.heap L ∧ FrameEnd U o U' L ({ frames := 0, cells := 0, slots := 0, locals := 0 } : Room).cells ({ frames := 0, cells := 0, slots := 0, locals := 0 } : Room).slots) := by
  refine MetFree.of_bodySF (plainFor_of_name own_pn_com_example_abeyance_abeyance_records_Verdict) hisR ?_
  intro p e s m args below meth c s₁ Bd hml0 hP hK
  obtain ⟨rfl, hZ, hh⟩ := hP
  have hx := Bd.exec
  have hby := Bd.bytes
  have hml : c.maxLocals = 1 := hml0
  have hown : s.vm.findClass "com/example/abeyance/abeyance/records/Verdict" = some m.cls := findClass_of_methodNamed Bd.named
  have hnm := (name_of_methodNamed Bd.named Bd.method).1
  have hlk := Bd.notSynchronized
  have X0 : Stand p l e ({ frames := 0, cells := 0, slots := 0, locals := 0 } : Room) s m #[(.ref a)] below meth c s₁ [] 0 0 := Stand.of_body Bd
  have e0 : s₁.heap = h0 := by rw [← hh, Bd.state]; rfl
  have N0 := Fr.nil n0
  refine own_start (Q := own_rm6n_Q Z a h0 n0) (own_rm6n_ef m a) ?_
  refine own_by (T' := s₁) (g' := (mkF m 1 #[.val (.ref a)] [(.ref a)])) (fun _ kq => XS.aloadN X0.here hx rfl (hb hby own_d6_0) rfl rfl kq) ?_
  obtain ⟨T1, X1, e1, st1⟩ := getF X0 hx hZ hown (host := "") (Or.inl (hw _ (List.mem_of_getElem? (i := 31) rfl))) Via.refl e0 F_r (g := (mkF m 1 #[.val (.ref a)] [(.ref a)])) rfl rfl (hb hby own_d6_1)
  refine own_by (T' := T1) (g' := (mkF m 4 #[.val (.ref a)] [.null])) st1 ?_
  refine own_by (T' := T1) (g' := (mkF m 7 #[.val (.ref a)] [])) (fun _ kq => XS.ifnonnullNo X1.here hx rfl (hb hby own_d6_4) rfl kq) ?_
  refine own_by (T' := T1) (g' := (mkF m 8 #[.val (.ref a)] [(.int (1 : Int32))])) (fun _ kq => XS.iconst X1.here hx rfl (hb hby own_d6_7) kq) ?_
  refine own_by (T' := T1) (g' := (mkF m 12 #[.val (.ref a)] [(.int (1 : Int32))])) (fun _ kq => XS.goto X1.here hx rfl (pc0 := 8) (pc' := 12) rfl (hb hby own_d6_8) (by decide) (by decide) kq) ?_
  exact own_end X1 (v := some (.int (nar .boolean (1 : Int32)))) (fun h => by rw [Bd.returns] at h; cases h) hlk (fun hr => retN X1 hx (t := .boolean) Bd.returns (by simp) (hb hby own_d6_12) hr) (by rw [e1]; exact ⟨rfl, N0, rfl⟩) (by decide) (by decide)
theorem own_d6_11 : decode prog_90_method_2_code 11 = .ok (.iconst 0, 1) := by decide +kernel
theorem own_rm6r_ef (m : MethodId) (a : Addr) : entryFrame m #[(.ref a)] 1 = mkF m 0 #[.val (.ref a)] [] := by  first | (simp [entryFrame, mkF, argsToLocals, Value.category]; done) | rfl
def own_rm6r_Q (Z : State) (a : Addr) (ar : Addr) (h0 : Heap) (n0 : Nat) (v : Option Value) (h : Heap) (L : List Loc) : Prop := v = some (.int (0 : Int32)) ∧ Fr n0 L ∧ h = h0
set_option maxRecDepth 65536 in
set_option maxHeartbeats 40000000 in
theorem own_rm6r (l : Launch) (Z : State) (a0 : Array Value) (hw : ∀ d ∈ tables_1, d.before a0 Z = true) (ws : List Jvm.Cond) (a : Addr) (ar : Addr) (h0 : Heap) (n0 : Nat) (Z0 : n0 ≤ h0.size) (F_r : Fld Z h0 a "com/example/abeyance/abeyance/records/Verdict" "refusal" "Lcom/example/abeyance/abeyance/records/Refusal;" (.ref ar)) :
    MetFree l (⟨"com/example/abeyance/abeyance/records/Verdict", "accepted", "()Z"⟩ : MethodName) (head1 (Jvm.Cond.code (⟨"com/example/abeyance/abeyance/records/Verdict", "accepted", "()Z"⟩ : MethodName) prog_90_method_2_code 1 (some .boolean) :: ws) ({ frames := 0, cells := 0, slots := 0, locals := 0 } : Room)) (fun aa U => aa = #[(.ref a)] ∧ Z.Warmed39 U.vm ∧ U.heap = h0) (fun _ _ _ _ _ => True) (fun _ U o U' => ∃ v L, o = .returned v ∧ own_rm6r_Q Z a ar h0 n0 v U'.heap L ∧ FrameEnd U o U' L ({ frames := 0, cells := 0, slots := 0, locals := 0 } : Room).cells ({ frames := 0, cells := 0, slots := 0, locals := 0 } : Room).slots) := by
  refine MetFree.of_bodySF (plainFor_of_name own_pn_com_example_abeyance_abeyance_records_Verdict) hisR ?_
  intro p e s m args below meth c s₁ Bd hml0 hP hK
  obtain ⟨rfl, hZ, hh⟩ := hP
  have hx := Bd.exec
  have hby := Bd.bytes
  have hml : c.maxLocals = 1 := hml0
  have hown : s.vm.findClass "com/example/abeyance/abeyance/records/Verdict" = some m.cls := findClass_of_methodNamed Bd.named
  have hnm := (name_of_methodNamed Bd.named Bd.method).1
  have hlk := Bd.notSynchronized
  have X0 : Stand p l e ({ frames := 0, cells := 0, slots := 0, locals := 0 } : Room) s m #[(.ref a)] below meth c s₁ [] 0 0 := Stand.of_body Bd
  have e0 : s₁.heap = h0 := by rw [← hh, Bd.state]; rfl
  have N0 := Fr.nil n0
  refine own_start (Q := own_rm6r_Q Z a ar h0 n0) (own_rm6r_ef m a) ?_
  refine own_by (T' := s₁) (g' := (mkF m 1 #[.val (.ref a)] [(.ref a)])) (fun _ kq => XS.aloadN X0.here hx rfl (hb hby own_d6_0) rfl rfl kq) ?_
  obtain ⟨T1, X1, e1, st1⟩ := getF X0 hx hZ hown (host := "") (Or.inl (hw _ (List.mem_of_getElem? (i := 31) rfl))) Via.refl e0 F_r (g := (mkF m 1 #[.val (.ref a)] [(.ref a)])) rfl rfl (hb hby own_d6_1)
  refine own_by (T' := T1) (g' := (mkF m 4 #[.val (.ref a)] [(.ref ar)])) st1 ?_
  refine own_by (T' := T1) (g' := (mkF m 11 #[.val (.ref a)] [])) (fun _ kq => XS.ifnonnullYes X1.here hx rfl (pc0 := 4) (pc' := 11) rfl (hb hby own_d6_4) rfl (by decide) (by decide) kq) ?_
  refine own_by (T' := T1) (g' := (mkF m 12 #[.val (.ref a)] [(.int (0 : Int32))])) (fun _ kq => XS.iconst X1.here hx rfl (hb hby own_d6_11) kq) ?_
  exact own_end X1 (v := some (.int (nar .boolean (0 : Int32)))) (fun h => by rw [Bd.returns] at h; cases h) hlk (fun hr => retN X1 hx (t := .boolean) Bd.returns (by simp) (hb hby own_d6_12) hr) (by rw [e1]; exact ⟨rfl, N0, rfl⟩) (by decide) (by decide)
theorem own_pd__28I_29Lcom_2fexample_2fabeyance_2fabeyance_2frecords_2fRefusal_3b : parseMethodDescriptor "(I)Lcom/example/abeyance/abeyance/records/Refusal;" = some ⟨[.int], some (.object "com/example/abeyance/abeyance/records/Refusal")⟩ := by decide +kernel
theorem own_pd__28I_29Ljava_2flang_2fString_3b : parseMethodDescriptor "(I)Ljava/lang/String;" = some ⟨[.int], some (.object "java/lang/String")⟩ := by decide +kernel
theorem own_pd__28Ljava_2flang_2fString_3bILjava_2flang_2fString_3bLcom_2fexample_2fabeyance_2fabeyance_2frecords_2fRefusal_3b_29V : parseMethodDescriptor "(Ljava/lang/String;ILjava/lang/String;Lcom/example/abeyance/abeyance/records/Refusal;)V" = some ⟨[(.object "java/lang/String"), .int, (.object "java/lang/String"), (.object "com/example/abeyance/abeyance/records/Refusal")], none⟩ := by decide +kernel
theorem own_pd__28_29Z : parseMethodDescriptor "()Z" = some ⟨[], some .boolean⟩ := by decide +kernel
theorem own_rm0_ef (m : MethodId) (p0 : Int32) (p1 : Int32) (p2 : Int32) (p3 : Int32) : entryFrame m #[(.int p0), (.int p1), (.int p2), (.int p3)] maxLocals = mkF m 0 #[.val (.int p0), .val (.int p1), .val (.int p2), .val (.int p3), .unset, .unset, .unset, .unset, .unset, .unset] [] := by  first | (simp [entryFrame, mkF, argsToLocals, Value.category, maxLocals]; done) | rfl
def own_rm0_Q (Z : State) (p0 : Int32) (p1 : Int32) (p2 : Int32) (p3 : Int32) (aPERCENT_NOT_ALLOWED : Addr) (aTOO_LATE : Addr) (aIN_SERVICE_TOO_EARLY : Addr) (aINSTALLMENTS_NOT_ALLOWED : Addr) (aCHANGE_TOO_LATE : Addr) (aCHANGE_TOO_SHORT : Addr) (aCHANGE_NOT_ALLOWED : Addr) (zCS : Int32) (h0 : Heap) (n0 : Nat) (v : Option Value) (h : Heap) (L : List Loc) : Prop := v = some (.int 1) ∧ Fr n0 L
set_option maxRecDepth 65536 in
set_option maxHeartbeats 40000000 in
theorem own_rm0 (l : Launch) (Z : State) (a0 : Array Value) (hw : ∀ d ∈ tables_1, d.before a0 Z = true) (ws : List Jvm.Cond) (p0 : Int32) (p1 : Int32) (p2 : Int32) (p3 : Int32) (aPERCENT_NOT_ALLOWED : Addr) (aTOO_LATE : Addr) (aIN_SERVICE_TOO_EARLY : Addr) (aINSTALLMENTS_NOT_ALLOWED : Addr) (aCHANGE_TOO_LATE : Addr) (aCHANGE_TOO_SHORT : Addr) (aCHANGE_NOT_ALLOWED : Addr) (zCS : Int32) (h0 : Heap) (n0 : Nat) (Z0 : n0 ≤ h0.size) (S_PERCENT_NOT_ALLOWED : Sta Z Z.heap "com/example/abeyance/abeyance/records/Refusal" "PERCENT_NOT_ALLOWED" "Lcom/example/abeyance/abeyance/records/Refusal;" (.ref aPERCENT_NOT_ALLOWED)) (S_TOO_LATE : Sta Z Z.heap "com/example/abeyance/abeyance/records/Refusal" "TOO_LATE" "Lcom/example/abeyance/abeyance/records/Refusal;" (.ref aTOO_LATE)) (S_IN_SERVICE_TOO_EARLY : Sta Z Z.heap "com/example/abeyance/abeyance/records/Refusal" "IN_SERVICE_TOO_EARLY" "Lcom/example/abeyance/abeyance/records/Refusal;" (.ref aIN_SERVICE_TOO_EARLY)) (S_INSTALLMENTS_NOT_ALLOWED : Sta Z Z.heap "com/example/abeyance/abeyance/records/Refusal" "INSTALLMENTS_NOT_ALLOWED" "Lcom/example/abeyance/abeyance/records/Refusal;" (.ref aINSTALLMENTS_NOT_ALLOWED)) (S_CHANGE_TOO_LATE : Sta Z Z.heap "com/example/abeyance/abeyance/records/Refusal" "CHANGE_TOO_LATE" "Lcom/example/abeyance/abeyance/records/Refusal;" (.ref aCHANGE_TOO_LATE)) (S_CHANGE_TOO_SHORT : Sta Z Z.heap "com/example/abeyance/abeyance/records/Refusal" "CHANGE_TOO_SHORT" "Lcom/example/abeyance/abeyance/records/Refusal;" (.ref aCHANGE_TOO_SHORT)) (S_CHANGE_NOT_ALLOWED : Sta Z Z.heap "com/example/abeyance/abeyance/records/Refusal" "CHANGE_NOT_ALLOWED" "Lcom/example/abeyance/abeyance/records/Refusal;" (.ref aCHANGE_NOT_ALLOWED)) (S_CS : Sta Z Z.heap "java/lang/String" "COMPACT_STRINGS" "Z" (.int zCS)) (nCS : ¬ zCS = 0) (O0 : Old Z n0 h0) :
    MetFree l x (head1 (Jvm.Cond.code x code maxLocals ret :: ws) room_1) (fun aa U => aa = #[(.int p0), (.int p1), (.int p2), (.int p3)] ∧ Z.Warmed39 U.vm ∧ U.heap = h0 ∧ CHv Z consts_1 U.vm h0) (fun _ _ _ _ _ => True) (fun _ U o U' => ∃ v L, o = .returned v ∧ own_rm0_Q Z p0 p1 p2 p3 aPERCENT_NOT_ALLOWED aTOO_LATE aIN_SERVICE_TOO_EARLY aINSTALLMENTS_NOT_ALLOWED aCHANGE_TOO_LATE aCHANGE_TOO_SHORT aCHANGE_NOT_ALLOWED zCS h0 n0 v U'.heap L ∧ CHr Z consts_1 U.vm U.heap U'.vm U'.heap ∧ ReturnedEndW U o U' L room_1.cells room_1.slots) := by
  refine MetFree.of_bodySF (plainFor_of_name own_pn_com_example_abeyance_abeyance_records_VerdictAcceptedPinLaw) hisR ?_
  intro p e s m args below meth c s₁ Bd hml0 hP hK
  obtain ⟨rfl, hZ, hh, CH0⟩ := hP
  have hx := Bd.exec
  have hby := Bd.bytes
  have hml : c.maxLocals = 10 := hml0
  have hown : s.vm.findClass "com/example/abeyance/abeyance/records/VerdictAcceptedPinLaw" = some m.cls := findClass_of_methodNamed Bd.named
  have hnm := (name_of_methodNamed Bd.named Bd.method).1
  have hlk := Bd.notSynchronized
  have X0 : Stand p l e room_1 (s.setVm s.vm) m #[(.int p0), (.int p1), (.int p2), (.int p3)] below meth c s₁ [] 0 0 := Stand.of_body Bd
  have e0 : s₁.heap = h0 := by rw [← hh, Bd.state]; rfl
  have N0 := Fr.nil n0
  have hS : s.Since s.vm 0 := (State.WarmedH.refl s).since 0
  have hk0 : 0 ≤ h0.size := Nat.zero_le _
  have C0 : CHr Z consts_1 s.vm h0 s.vm h0 := CHr.refl CH0
  have hEL := own_hEL hw
  have wS := own_wS hw
  refine own_startW (EL := consts_1) (Q := own_rm0_Q Z p0 p1 p2 p3 aPERCENT_NOT_ALLOWED aTOO_LATE aIN_SERVICE_TOO_EARLY aINSTALLMENTS_NOT_ALLOWED aCHANGE_TOO_LATE aCHANGE_TOO_SHORT aCHANGE_NOT_ALLOWED zCS h0 n0) (own_rm0_ef m p0 p1 p2 p3) ?_
  refine own_by (T' := s₁) (g' := (mkF m 1 #[.val (.int p0), .val (.int p1), .val (.int p2), .val (.int p3), .unset, .unset, .unset, .unset, .unset, .unset] [(.int p0)])) (fun _ kq => XS.iloadN X0.here hx rfl (hb hby at_0) rfl kq) ?_
  refine own_by (T' := s₁) (g' := (mkF m 3 #[.val (.int p0), .val (.int p1), .val (.int p2), .val (.int p3), .unset, .unset, .unset, .unset, .unset, .unset] [(.int (2147483647 : Int32)), (.int p0)])) (fun _ kq => X0.ldcInt hx hown (mvT hZ (hw _ (List.mem_of_getElem? (i := 0) rfl))) (g := (mkF m 1 #[.val (.int p0), .val (.int p1), .val (.int p2), .val (.int p3), .unset, .unset, .unset, .unset, .unset, .unset] [(.int p0)])) rfl (hb hby at_1) _ kq) ?_
  refine own_by (T' := s₁) (g' := (mkF m 4 #[.val (.int p0), .val (.int p1), .val (.int p2), .val (.int p3), .unset, .unset, .unset, .unset, .unset, .unset] [(.int (p0 &&& (2147483647 : Int32)))])) (fun _ kq => XS.iand X0.here hx rfl (hb hby at_3) rfl kq) ?_
  refine own_by (T' := s₁) (g' := (mkF m 6 #[.val (.int p0), .val (.int p1), .val (.int p2), .val (.int p3), .unset, .unset, .unset, .unset, .unset, .unset] [(.int (8 : Int32)), (.int (p0 &&& (2147483647 : Int32)))])) (fun _ kq => XS.bipush X0.here hx rfl (hb hby at_4) kq) ?_
  refine own_by (T' := s₁) (g' := (mkF m 7 #[.val (.int p0), .val (.int p1), .val (.int p2), .val (.int p3), .unset, .unset, .unset, .unset, .unset, .unset] [(.int ((p0 &&& (2147483647 : Int32)) % (8 : Int32)))])) (fun _ kq => Jvm.RoadKit.iremM (g := (mkF m 6 #[.val (.int p0), .val (.int p1), .val (.int p2), .val (.int p3), .unset, .unset, .unset, .unset, .unset, .unset] [(.int (8 : Int32)), (.int (p0 &&& (2147483647 : Int32)))])) X0 hx rfl (hb hby at_6) rfl (by decide) kq) ?_
  refine own_by (T' := s₁) (g' := (mkF m 9 #[.val (.int p0), .val (.int p1), .val (.int p2), .val (.int p3), .val (.int ((p0 &&& (2147483647 : Int32)) % (8 : Int32))), .unset, .unset, .unset, .unset, .unset] [])) (fun _ kq => XS.istore X0.here hx rfl (hb hby at_7) rfl (l' := #[.val (.int p0), .val (.int p1), .val (.int p2), .val (.int p3), .val (.int ((p0 &&& (2147483647 : Int32)) % (8 : Int32))), .unset, .unset, .unset, .unset, .unset]) rfl kq) ?_
  have hr := own_rem p0 (8 : Int32) 8 (by decide) (by decide)
  generalize hg_k : ((p0 &&& (2147483647 : Int32)) % (8 : Int32)) = k at hr ⊢
  by_cases hc1 : k = (0 : Int32)
  · skip
    refine own_by (T' := s₁) (g' := (mkF m 11 #[.val (.int p0), .val (.int p1), .val (.int p2), .val (.int p3), .val (.int k), .unset, .unset, .unset, .unset, .unset] [(.int k)])) (fun _ kq => XS.iload X0.here hx rfl (hb hby at_9) rfl kq) ?_
    refine own_callS X0 hx hZ (y := (⟨"com/example/abeyance/abeyance/records/VerdictAcceptedPinLaw", "pick", "(I)Lcom/example/abeyance/abeyance/records/Refusal;"⟩ : MethodName)) hown (hw _ (List.mem_of_getElem? (i := 1) rfl)) (hw _ (List.mem_of_getElem? (i := 2) rfl)) (hw _ (List.mem_of_getElem? (i := 3) rfl)) (hw _ (List.mem_of_getElem? (i := 4) rfl)) (by decide) (own_rm1 l Z a0 hw [] k aPERCENT_NOT_ALLOWED aTOO_LATE aIN_SERVICE_TOO_EARLY aINSTALLMENTS_NOT_ALLOWED aCHANGE_TOO_LATE aCHANGE_TOO_SHORT aCHANGE_NOT_ALLOWED h0 n0 Z0 (S_PERCENT_NOT_ALLOWED.ext O0.2) (S_TOO_LATE.ext O0.2) (S_IN_SERVICE_TOO_EARLY.ext O0.2) (S_INSTALLMENTS_NOT_ALLOWED.ext O0.2) (S_CHANGE_TOO_LATE.ext O0.2) (S_CHANGE_TOO_SHORT.ext O0.2) (S_CHANGE_NOT_ALLOWED.ext O0.2)) (by decide) (by decide) e0 (g := (mkF m 11 #[.val (.int p0), .val (.int p1), .val (.int p2), .val (.int p3), .val (.int k), .unset, .unset, .unset, .unset, .unset] [(.int k)])) rfl (by rw [hml]; rfl) (argsL := [(.int k)]) (rest := []) (lenOf own_pd__28I_29Lcom_2fexample_2fabeyance_2fabeyance_2frecords_2fRefusal_3b rfl) rfl (W := 0) (by show 2 * 0 + _ ≤ _; exact Nat.le_of_eq rfl) (hb hby at_11) rfl (by decide) (by decide) ?_
    rintro rv2 T2 L2 X2 ⟨hv2, Nq2, eh2⟩
    have N2 := Fr.app N0 Nq2
    rw [if_pos hc1] at hv2
    subst hv2
    show own_Fin p e below _ T2 (mkF m 14 #[.val (.int p0), .val (.int p1), .val (.int p2), .val (.int p3), .val (.int k), .unset, .unset, .unset, .unset, .unset] [(.ref aPERCENT_NOT_ALLOWED)])
    refine own_by (T' := T2) (g' := (mkF m 16 #[.val (.int p0), .val (.int p1), .val (.int p2), .val (.int p3), .val (.int k), .val (.ref aPERCENT_NOT_ALLOWED), .unset, .unset, .unset, .unset] [])) (fun _ kq => XS.astore X2.here hx rfl (hb hby at_14) rfl rfl (l' := #[.val (.int p0), .val (.int p1), .val (.int p2), .val (.int p3), .val (.int k), .val (.ref aPERCENT_NOT_ALLOWED), .unset, .unset, .unset, .unset]) rfl kq) ?_
    refine own_by (T' := T2) (g' := (mkF m 17 #[.val (.int p0), .val (.int p1), .val (.int p2), .val (.int p3), .val (.int k), .val (.ref aPERCENT_NOT_ALLOWED), .unset, .unset, .unset, .unset] [(.int p2)])) (fun _ kq => XS.iloadN X2.here hx rfl (hb hby at_16) rfl kq) ?_
    refine own_callSW X2 hx hZ (y := (⟨"com/example/abeyance/abeyance/records/VerdictAcceptedPinLaw", "text", "(I)Ljava/lang/String;"⟩ : MethodName)) hown (hw _ (List.mem_of_getElem? (i := 8) rfl)) (hw _ (List.mem_of_getElem? (i := 9) rfl)) (hw _ (List.mem_of_getElem? (i := 3) rfl)) (hw _ (List.mem_of_getElem? (i := 10) rfl)) (by decide) hS hk0 hEL C0.1 (own_rm2 l Z a0 hw [] p2 zCS h0 n0 (Nat.le_trans Z0 (Keep.refl h0 []).1) S_CS nCS O0) (by decide) (by decide) eh2 (g := (mkF m 17 #[.val (.int p0), .val (.int p1), .val (.int p2), .val (.int p3), .val (.int k), .val (.ref aPERCENT_NOT_ALLOWED), .unset, .unset, .unset, .unset] [(.int p2)])) rfl (by rw [hml]; rfl) (argsL := [(.int p2)]) (rest := []) (lenOf own_pd__28I_29Ljava_2flang_2fString_3b rfl) rfl (W := 0) (by show 2 * 0 + _ ≤ _; exact Nat.le_of_eq rfl) (hb hby at_17) rfl (by decide) (by decide) ?_
    rintro rv3 T3 L3 X3 hS hZ hown CH3 ⟨hv3, Nq3, Kq3⟩
    have N3 := Fr.app N2 Nq3
    obtain ⟨t3, rfl, ht3⟩ : ∃ t : Value, rv3 = some t ∧ t.isRef = true := hv3.elim (fun q => ⟨_, q, rfl⟩) (fun ⟨_, q⟩ => ⟨_, q, rfl⟩)
    show own_Fin p e below _ T3 (mkF m 20 #[.val (.int p0), .val (.int p1), .val (.int p2), .val (.int p3), .val (.int k), .val (.ref aPERCENT_NOT_ALLOWED), .unset, .unset, .unset, .unset] [t3])
    have C4 := C0.trans CH3
    refine own_by (T' := T3) (g' := (mkF m 22 #[.val (.int p0), .val (.int p1), .val (.int p2), .val (.int p3), .val (.int k), .val (.ref aPERCENT_NOT_ALLOWED), .val t3, .unset, .unset, .unset] [])) (fun _ kq => XS.astore X3.here hx rfl (hb hby at_20) rfl ht3 (l' := #[.val (.int p0), .val (.int p1), .val (.int p2), .val (.int p3), .val (.int k), .val (.ref aPERCENT_NOT_ALLOWED), .val t3, .unset, .unset, .unset]) (own_store1 rfl One.u (own_cat ht3) rfl) kq) ?_
    refine own_by (T' := T3) (g' := (mkF m 23 #[.val (.int p0), .val (.int p1), .val (.int p2), .val (.int p3), .val (.int k), .val (.ref aPERCENT_NOT_ALLOWED), .val t3, .unset, .unset, .unset] [(.int p3)])) (fun _ kq => XS.iloadN X3.here hx rfl (hb hby at_22) rfl kq) ?_
    have o5_ := (O0.keep Kq3 all0)
    have k6_ := ((Keep.refl h0 []).trans Kq3 all0)
    refine own_callSW X3 hx hZ (y := (⟨"com/example/abeyance/abeyance/records/VerdictAcceptedPinLaw", "text", "(I)Ljava/lang/String;"⟩ : MethodName)) hown (hw _ (List.mem_of_getElem? (i := 8) rfl)) (hw _ (List.mem_of_getElem? (i := 9) rfl)) (hw _ (List.mem_of_getElem? (i := 3) rfl)) (hw _ (List.mem_of_getElem? (i := 10) rfl)) (by decide) hS (Nat.le_refl _) hEL C4.1 (own_rm2 l Z a0 hw [] p3 zCS T3.heap n0 (Nat.le_trans Z0 k6_.1) S_CS nCS o5_) (by decide) (by decide) rfl (g := (mkF m 23 #[.val (.int p0), .val (.int p1), .val (.int p2), .val (.int p3), .val (.int k), .val (.ref aPERCENT_NOT_ALLOWED), .val t3, .unset, .unset, .unset] [(.int p3)])) rfl (by rw [hml]; rfl) (argsL := [(.int p3)]) (rest := []) (lenOf own_pd__28I_29Ljava_2flang_2fString_3b rfl) rfl (W := 0) (by show 2 * 0 + _ ≤ _; exact Nat.le_of_eq rfl) (hb hby at_23) rfl (by decide) (by decide) ?_
    rintro rv7 T7 L7 X7 hS hZ hown CH7 ⟨hv7, Nq7, Kq7⟩
    have N7 := Fr.app N3 Nq7
    obtain ⟨t7, rfl, ht7⟩ : ∃ t : Value, rv7 = some t ∧ t.isRef = true := hv7.elim (fun q => ⟨_, q, rfl⟩) (fun ⟨_, q⟩ => ⟨_, q, rfl⟩)
    show own_Fin p e below _ T7 (mkF m 26 #[.val (.int p0), .val (.int p1), .val (.int p2), .val (.int p3), .val (.int k), .val (.ref aPERCENT_NOT_ALLOWED), .val t3, .unset, .unset, .unset] [t7])
    have C8 := C4.trans CH7
    refine own_by (T' := T7) (g' := (mkF m 28 #[.val (.int p0), .val (.int p1), .val (.int p2), .val (.int p3), .val (.int k), .val (.ref aPERCENT_NOT_ALLOWED), .val t3, .val t7, .unset, .unset] [])) (fun _ kq => XS.astore X7.here hx rfl (hb hby at_26) rfl ht7 (l' := #[.val (.int p0), .val (.int p1), .val (.int p2), .val (.int p3), .val (.int k), .val (.ref aPERCENT_NOT_ALLOWED), .val t3, .val t7, .unset, .unset]) (own_store1 rfl One.u (own_cat ht7) rfl) kq) ?_
    obtain ⟨T9, h9, X9, e9, E9, A9, D9, U9, st9⟩ := newO X7 hx hZ hown (hw _ (List.mem_of_getElem? (i := 11) rfl)) (hw _ (List.mem_of_getElem? (i := 12) rfl)) (hw _ (List.mem_of_getElem? (i := 13) rfl)) rfl (g := (mkF m 28 #[.val (.int p0), .val (.int p1), .val (.int p2), .val (.int p3), .val (.int k), .val (.ref aPERCENT_NOT_ALLOWED), .val t3, .val t7, .unset, .unset] [])) rfl (hb hby at_28) (by decide) (by decide)
    obtain ⟨b9, g9⟩ : ∃ z, z = T7.heap.size := ⟨_, rfl⟩
    rw [← g9] at A9 D9 U9 st9
    have k10_ := (k6_.trans Kq7 all0)
    have g_b9 : n0 ≤ b9 := Nat.le_trans (Nat.le_trans Z0 k10_.1) (Nat.le_of_eq g9.symm)
    have sz_b9 : h0.size ≤ b9 := Nat.le_trans k10_.1 (Nat.le_of_eq g9.symm)
    have sf_b9 : Safe Z consts_1 T7.vm T7.heap b9 := Safe.new (Nat.le_of_eq g9.symm)
    have C11 := C8.trans (CHr.ext E9 C8.1)
    have F_file_b9 : Fld Z h9 b9 "com/example/abeyance/abeyance/records/Verdict" "file" "Ljava/lang/String;" .null := D9 (Or.inr (hw _ (List.mem_of_getElem? (i := 26) rfl))) (ty := (.object "java/lang/String")) (by decide)
    have F_line_b9 : Fld Z h9 b9 "com/example/abeyance/abeyance/records/Verdict" "line" "I" (.int (0 : Int32)) := D9 (Or.inr (hw _ (List.mem_of_getElem? (i := 28) rfl))) (ty := .int) (by decide)
    have F_participant_b9 : Fld Z h9 b9 "com/example/abeyance/abeyance/records/Verdict" "participant" "Ljava/lang/String;" .null := D9 (Or.inr (hw _ (List.mem_of_getElem? (i := 30) rfl))) (ty := (.object "java/lang/String")) (by decide)
    have F_refusal_b9 : Fld Z h9 b9 "com/example/abeyance/abeyance/records/Verdict" "refusal" "Lcom/example/abeyance/abeyance/records/Refusal;" .null := D9 (Or.inr (hw _ (List.mem_of_getElem? (i := 32) rfl))) (ty := (.object "com/example/abeyance/abeyance/records/Refusal")) (by decide)
    refine own_by (T' := T9) (g' := (mkF m 31 #[.val (.int p0), .val (.int p1), .val (.int p2), .val (.int p3), .val (.int k), .val (.ref aPERCENT_NOT_ALLOWED), .val t3, .val t7, .unset, .unset] [(.ref b9)])) st9 ?_
    refine own_by (T' := T9) (g' := (mkF m 32 #[.val (.int p0), .val (.int p1), .val (.int p2), .val (.int p3), .val (.int k), .val (.ref aPERCENT_NOT_ALLOWED), .val t3, .val t7, .unset, .unset] [(.ref b9), (.ref b9)])) (fun _ kq => XS.dup X9.here hx rfl (hb hby at_31) rfl rfl kq) ?_
    refine own_by (T' := T9) (g' := (mkF m 34 #[.val (.int p0), .val (.int p1), .val (.int p2), .val (.int p3), .val (.int k), .val (.ref aPERCENT_NOT_ALLOWED), .val t3, .val t7, .unset, .unset] [t3, (.ref b9), (.ref b9)])) (fun _ kq => XS.aload X9.here hx rfl (hb hby at_32) rfl ht3 kq) ?_
    refine own_by (T' := T9) (g' := (mkF m 35 #[.val (.int p0), .val (.int p1), .val (.int p2), .val (.int p3), .val (.int k), .val (.ref aPERCENT_NOT_ALLOWED), .val t3, .val t7, .unset, .unset] [(.int p1), t3, (.ref b9), (.ref b9)])) (fun _ kq => XS.iloadN X9.here hx rfl (hb hby at_34) rfl kq) ?_
    refine own_by (T' := T9) (g' := (mkF m 37 #[.val (.int p0), .val (.int p1), .val (.int p2), .val (.int p3), .val (.int k), .val (.ref aPERCENT_NOT_ALLOWED), .val t3, .val t7, .unset, .unset] [t7, (.int p1), t3, (.ref b9), (.ref b9)])) (fun _ kq => XS.aload X9.here hx rfl (hb hby at_35) rfl ht7 kq) ?_
    refine own_by (T' := T9) (g' := (mkF m 39 #[.val (.int p0), .val (.int p1), .val (.int p2), .val (.int p3), .val (.int k), .val (.ref aPERCENT_NOT_ALLOWED), .val t3, .val t7, .unset, .unset] [(.ref aPERCENT_NOT_ALLOWED), t7, (.int p1), t3, (.ref b9), (.ref b9)])) (fun _ kq => XS.aload X9.here hx rfl (hb hby at_37) rfl rfl kq) ?_
    have k12_ := (k10_.ext E9)
    refine own_callI X9 hx hZ (y := (⟨"com/example/abeyance/abeyance/records/Verdict", "<init>", "(Ljava/lang/String;ILjava/lang/String;Lcom/example/abeyance/abeyance/records/Refusal;)V"⟩ : MethodName)) rfl hown (hw _ (List.mem_of_getElem? (i := 14) rfl)) (hw _ (List.mem_of_getElem? (i := 15) rfl)) (hw _ (List.mem_of_getElem? (i := 16) rfl)) (hw _ (List.mem_of_getElem? (i := 13) rfl)) (by decide) (own_rm3 l Z a0 hw [] b9 t3 p1 t7 (.ref aPERCENT_NOT_ALLOWED) h9 n0 (Nat.le_trans Z0 k12_.1) ht3 ht7 rfl A9 g_b9 F_file_b9 F_line_b9 F_participant_b9 F_refusal_b9) (by decide) (by decide) e9 (g := (mkF m 39 #[.val (.int p0), .val (.int p1), .val (.int p2), .val (.int p3), .val (.int k), .val (.ref aPERCENT_NOT_ALLOWED), .val t3, .val t7, .unset, .unset] [(.ref aPERCENT_NOT_ALLOWED), t7, (.int p1), t3, (.ref b9), (.ref b9)])) rfl (by rw [hml]; rfl) (argsL := [t3, (.int p1), t7, (.ref aPERCENT_NOT_ALLOWED)]) (rest := [(.ref b9)]) (lenOf own_pd__28Ljava_2flang_2fString_3bILjava_2flang_2fString_3bLcom_2fexample_2fabeyance_2fabeyance_2frecords_2fRefusal_3b_29V rfl) rfl (W := 1) (by show 2 * 0 + _ ≤ _; exact Nat.le_of_eq rfl) (hb hby at_39) rfl (by decide) (by decide) ?_
    rintro rv13 T13 L13 X13 ⟨rfl, Nq13, Kq13, Eq13, Fq13⟩
    have N13 := Fr.app N7 Nq13
    show own_Fin p e below _ T13 (mkF m 42 #[.val (.int p0), .val (.int p1), .val (.int p2), .val (.int p3), .val (.int k), .val (.ref aPERCENT_NOT_ALLOWED), .val t3, .val t7, .unset, .unset] [(.ref b9)])
    have C14 := C11.trans (CHr.keep Kq13 (sfS (Safe.exa hZ.alike A9 (by decide) (by decide)) sf0) C11.1)
    refine own_by (T' := T13) (g' := (mkF m 44 #[.val (.int p0), .val (.int p1), .val (.int p2), .val (.int p3), .val (.int k), .val (.ref aPERCENT_NOT_ALLOWED), .val t3, .val t7, .val (.ref b9), .unset] [])) (fun _ kq => XS.astore X13.here hx rfl (hb hby at_42) rfl rfl (l' := #[.val (.int p0), .val (.int p1), .val (.int p2), .val (.int p3), .val (.int k), .val (.ref aPERCENT_NOT_ALLOWED), .val t3, .val t7, .val (.ref b9), .unset]) rfl kq) ?_
    refine own_by (T' := T13) (g' := (mkF m 46 #[.val (.int p0), .val (.int p1), .val (.int p2), .val (.int p3), .val (.int k), .val (.ref aPERCENT_NOT_ALLOWED), .val t3, .val t7, .val (.ref b9), .unset] [(.int k)])) (fun _ kq => XS.iload X13.here hx rfl (hb hby at_44) rfl kq) ?_
    refine own_by (T' := T13) (g' := (mkF m 48 #[.val (.int p0), .val (.int p1), .val (.int p2), .val (.int p3), .val (.int k), .val (.ref aPERCENT_NOT_ALLOWED), .val t3, .val t7, .val (.ref b9), .unset] [(.int (7 : Int32)), (.int k)])) (fun _ kq => XS.bipush X13.here hx rfl (hb hby at_46) kq) ?_
    refine own_by (T' := T13) (g' := (mkF m 55 #[.val (.int p0), .val (.int p1), .val (.int p2), .val (.int p3), .val (.int k), .val (.ref aPERCENT_NOT_ALLOWED), .val t3, .val t7, .val (.ref b9), .unset] [])) (fun _ kq => XS.icmpYes X13.here hx rfl (pc0 := 48) (pc' := 55) rfl (hb hby at_48) rfl (feq (own_clash hc1 (by decide))).2 (by decide) (by decide) kq) ?_
    refine own_by (T' := T13) (g' := (mkF m 56 #[.val (.int p0), .val (.int p1), .val (.int p2), .val (.int p3), .val (.int k), .val (.ref aPERCENT_NOT_ALLOWED), .val t3, .val t7, .val (.ref b9), .unset] [(.int (0 : Int32))])) (fun _ kq => XS.iconst X13.here hx rfl (hb hby at_55) kq) ?_
    refine own_by (T' := T13) (g' := (mkF m 58 #[.val (.int p0), .val (.int p1), .val (.int p2), .val (.int p3), .val (.int k), .val (.ref aPERCENT_NOT_ALLOWED), .val t3, .val t7, .val (.ref b9), .val (.int (0 : Int32))] [])) (fun _ kq => XS.istore X13.here hx rfl (hb hby at_56) rfl (l' := #[.val (.int p0), .val (.int p1), .val (.int p2), .val (.int p3), .val (.int k), .val (.ref aPERCENT_NOT_ALLOWED), .val t3, .val t7, .val (.ref b9), .val (.int (0 : Int32))]) rfl kq) ?_
    refine own_by (T' := T13) (g' := (mkF m 60 #[.val (.int p0), .val (.int p1), .val (.int p2), .val (.int p3), .val (.int k), .val (.ref aPERCENT_NOT_ALLOWED), .val t3, .val t7, .val (.ref b9), .val (.int (0 : Int32))] [(.ref b9)])) (fun _ kq => XS.aload X13.here hx rfl (hb hby at_58) rfl rfl kq) ?_
    have k15_ := (k12_.trans Kq13 (allS (Or.inr sz_b9) all0))
    refine own_callV X13 hx hZ (y := (⟨"com/example/abeyance/abeyance/records/Verdict", "accepted", "()Z"⟩ : MethodName)) (z := (⟨"com/example/abeyance/abeyance/records/Verdict", "accepted", "()Z"⟩ : MethodName)) hown (hw _ (List.mem_of_getElem? (i := 33) rfl)) (hw _ (List.mem_of_getElem? (i := 34) rfl)) (own_nf (hw _ (List.mem_of_getElem? (i := 36) rfl))) (hw _ (List.mem_of_getElem? (i := 36) rfl)) (hw _ (List.mem_of_getElem? (i := 35) rfl)) (hw _ (List.mem_of_getElem? (i := 37) rfl)) (hw _ (List.mem_of_getElem? (i := 13) rfl)) (by decide) Eq13 (own_rm6r l Z a0 hw [] b9 aPERCENT_NOT_ALLOWED T13.heap n0 (Nat.le_trans Z0 k15_.1) Fq13) (by decide) (by decide) rfl (g := (mkF m 60 #[.val (.int p0), .val (.int p1), .val (.int p2), .val (.int p3), .val (.int k), .val (.ref aPERCENT_NOT_ALLOWED), .val t3, .val t7, .val (.ref b9), .val (.int (0 : Int32))] [(.ref b9)])) rfl (by rw [hml]; rfl) (argsL := []) (rest := []) (lenOf own_pd__28_29Z rfl) rfl (W := 0) (by show 2 * 0 + _ ≤ _; exact Nat.le_of_eq rfl) (hb hby at_60) rfl (by decide) (by decide) ?_
    rintro rv16 T16 L16 X16 ⟨rfl, Nq16, eh16⟩
    have N16 := Fr.app N13 Nq16
    show own_Fin p e below _ T16 (mkF m 63 #[.val (.int p0), .val (.int p1), .val (.int p2), .val (.int p3), .val (.int k), .val (.ref aPERCENT_NOT_ALLOWED), .val t3, .val t7, .val (.ref b9), .val (.int (0 : Int32))] [(.int (0 : Int32))])
    refine own_by (T' := T16) (g' := (mkF m 65 #[.val (.int p0), .val (.int p1), .val (.int p2), .val (.int p3), .val (.int k), .val (.ref aPERCENT_NOT_ALLOWED), .val t3, .val t7, .val (.ref b9), .val (.int (0 : Int32))] [(.int (0 : Int32)), (.int (0 : Int32))])) (fun _ kq => XS.iload X16.here hx rfl (hb hby at_63) rfl kq) ?_
    refine own_by (T' := T16) (g' := (mkF m 68 #[.val (.int p0), .val (.int p1), .val (.int p2), .val (.int p3), .val (.int k), .val (.ref aPERCENT_NOT_ALLOWED), .val t3, .val t7, .val (.ref b9), .val (.int (0 : Int32))] [])) (fun _ kq => XS.icmpNo X16.here hx rfl (hb hby at_65) rfl (teq (by decide : (0 : Int32) = (0 : Int32))).2 kq) ?_
    refine own_by (T' := T16) (g' := (mkF m 69 #[.val (.int p0), .val (.int p1), .val (.int p2), .val (.int p3), .val (.int k), .val (.ref aPERCENT_NOT_ALLOWED), .val t3, .val t7, .val (.ref b9), .val (.int (0 : Int32))] [(.int (1 : Int32))])) (fun _ kq => XS.iconst X16.here hx rfl (hb hby at_68) kq) ?_
    refine own_by (T' := T16) (g' := (mkF m 73 #[.val (.int p0), .val (.int p1), .val (.int p2), .val (.int p3), .val (.int k), .val (.ref aPERCENT_NOT_ALLOWED), .val t3, .val t7, .val (.ref b9), .val (.int (0 : Int32))] [(.int (1 : Int32))])) (fun _ kq => XS.goto X16.here hx rfl (pc0 := 69) (pc' := 73) rfl (hb hby at_69) (by decide) (by decide) kq) ?_
    have hk17_ := (Nat.le_trans (Nat.le_trans (Nat.le_refl _) E9.1) Kq13.1)
    exact own_endW X16 hS (by rw [eh16]; exact hk17_) hZ hEL (by rw [hh]; rw [eh16]; exact C14) (v := some (.int (nar .boolean (1 : Int32)))) (fun h => by rw [Bd.returns] at h; cases h) hlk (fun hr => retN X16 hx (t := .boolean) Bd.returns (by simp) (hb hby at_73) hr) (by rw [eh16]; exact ⟨rfl, N16⟩) (by decide) (by decide)
  · skip
    by_cases hc18 : k = (1 : Int32)
    · skip
      refine own_by (T' := s₁) (g' := (mkF m 11 #[.val (.int p0), .val (.int p1), .val (.int p2), .val (.int p3), .val (.int k), .unset, .unset, .unset, .unset, .unset] [(.int k)])) (fun _ kq => XS.iload X0.here hx rfl (hb hby at_9) rfl kq) ?_
      refine own_callS X0 hx hZ (y := (⟨"com/example/abeyance/abeyance/records/VerdictAcceptedPinLaw", "pick", "(I)Lcom/example/abeyance/abeyance/records/Refusal;"⟩ : MethodName)) hown (hw _ (List.mem_of_getElem? (i := 1) rfl)) (hw _ (List.mem_of_getElem? (i := 2) rfl)) (hw _ (List.mem_of_getElem? (i := 3) rfl)) (hw _ (List.mem_of_getElem? (i := 4) rfl)) (by decide) (own_rm1 l Z a0 hw [] k aPERCENT_NOT_ALLOWED aTOO_LATE aIN_SERVICE_TOO_EARLY aINSTALLMENTS_NOT_ALLOWED aCHANGE_TOO_LATE aCHANGE_TOO_SHORT aCHANGE_NOT_ALLOWED h0 n0 Z0 (S_PERCENT_NOT_ALLOWED.ext O0.2) (S_TOO_LATE.ext O0.2) (S_IN_SERVICE_TOO_EARLY.ext O0.2) (S_INSTALLMENTS_NOT_ALLOWED.ext O0.2) (S_CHANGE_TOO_LATE.ext O0.2) (S_CHANGE_TOO_SHORT.ext O0.2) (S_CHANGE_NOT_ALLOWED.ext O0.2)) (by decide) (by decide) e0 (g := (mkF m 11 #[.val (.int p0), .val (.int p1), .val (.int p2), .val (.int p3), .val (.int k), .unset, .unset, .unset, .unset, .unset] [(.int k)])) rfl (by rw [hml]; rfl) (argsL := [(.int k)]) (rest := []) (lenOf own_pd__28I_29Lcom_2fexample_2fabeyance_2fabeyance_2frecords_2fRefusal_3b rfl) rfl (W := 0) (by show 2 * 0 + _ ≤ _; exact Nat.le_of_eq rfl) (hb hby at_11) rfl (by decide) (by decide) ?_
      rintro rv19 T19 L19 X19 ⟨hv19, Nq19, eh19⟩
      have N19 := Fr.app N0 Nq19
      rw [if_neg hc1, if_pos hc18] at hv19
      subst hv19
      show own_Fin p e below _ T19 (mkF m 14 #[.val (.int p0), .val (.int p1), .val (.int p2), .val (.int p3), .val (.int k), .unset, .unset, .unset, .unset, .unset] [(.ref aTOO_LATE)])
      refine own_by (T' := T19) (g' := (mkF m 16 #[.val (.int p0), .val (.int p1), .val (.int p2), .val (.int p3), .val (.int k), .val (.ref aTOO_LATE), .unset, .unset, .unset, .unset] [])) (fun _ kq => XS.astore X19.here hx rfl (hb hby at_14) rfl rfl (l' := #[.val (.int p0), .val (.int p1), .val (.int p2), .val (.int p3), .val (.int k), .val (.ref aTOO_LATE), .unset, .unset, .unset, .unset]) rfl kq) ?_
      refine own_by (T' := T19) (g' := (mkF m 17 #[.val (.int p0), .val (.int p1), .val (.int p2), .val (.int p3), .val (.int k), .val (.ref aTOO_LATE), .unset, .unset, .unset, .unset] [(.int p2)])) (fun _ kq => XS.iloadN X19.here hx rfl (hb hby at_16) rfl kq) ?_
      refine own_callSW X19 hx hZ (y := (⟨"com/example/abeyance/abeyance/records/VerdictAcceptedPinLaw", "text", "(I)Ljava/lang/String;"⟩ : MethodName)) hown (hw _ (List.mem_of_getElem? (i := 8) rfl)) (hw _ (List.mem_of_getElem? (i := 9) rfl)) (hw _ (List.mem_of_getElem? (i := 3) rfl)) (hw _ (List.mem_of_getElem? (i := 10) rfl)) (by decide) hS hk0 hEL C0.1 (own_rm2 l Z a0 hw [] p2 zCS h0 n0 (Nat.le_trans Z0 (Keep.refl h0 []).1) S_CS nCS O0) (by decide) (by decide) eh19 (g := (mkF m 17 #[.val (.int p0), .val (.int p1), .val (.int p2), .val (.int p3), .val (.int k), .val (.ref aTOO_LATE), .unset, .unset, .unset, .unset] [(.int p2)])) rfl (by rw [hml]; rfl) (argsL := [(.int p2)]) (rest := []) (lenOf own_pd__28I_29Ljava_2flang_2fString_3b rfl) rfl (W := 0) (by show 2 * 0 + _ ≤ _; exact Nat.le_of_eq rfl) (hb hby at_17) rfl (by decide) (by decide) ?_
      rintro rv20 T20 L20 X20 hS hZ hown CH20 ⟨hv20, Nq20, Kq20⟩
      have N20 := Fr.app N19 Nq20
      obtain ⟨t20, rfl, ht20⟩ : ∃ t : Value, rv20 = some t ∧ t.isRef = true := hv20.elim (fun q => ⟨_, q, rfl⟩) (fun ⟨_, q⟩ => ⟨_, q, rfl⟩)
      show own_Fin p e below _ T20 (mkF m 20 #[.val (.int p0), .val (.int p1), .val (.int p2), .val (.int p3), .val (.int k), .val (.ref aTOO_LATE), .unset, .unset, .unset, .unset] [t20])
      have C21 := C0.trans CH20
      refine own_by (T' := T20) (g' := (mkF m 22 #[.val (.int p0), .val (.int p1), .val (.int p2), .val (.int p3), .val (.int k), .val (.ref aTOO_LATE), .val t20, .unset, .unset, .unset] [])) (fun _ kq => XS.astore X20.here hx rfl (hb hby at_20) rfl ht20 (l' := #[.val (.int p0), .val (.int p1), .val (.int p2), .val (.int p3), .val (.int k), .val (.ref aTOO_LATE), .val t20, .unset, .unset, .unset]) (own_store1 rfl One.u (own_cat ht20) rfl) kq) ?_
      refine own_by (T' := T20) (g' := (mkF m 23 #[.val (.int p0), .val (.int p1), .val (.int p2), .val (.int p3), .val (.int k), .val (.ref aTOO_LATE), .val t20, .unset, .unset, .unset] [(.int p3)])) (fun _ kq => XS.iloadN X20.here hx rfl (hb hby at_22) rfl kq) ?_
      have o22_ := (O0.keep Kq20 all0)
      have k23_ := ((Keep.refl h0 []).trans Kq20 all0)
      refine own_callSW X20 hx hZ (y := (⟨"com/example/abeyance/abeyance/records/VerdictAcceptedPinLaw", "text", "(I)Ljava/lang/String;"⟩ : MethodName)) hown (hw _ (List.mem_of_getElem? (i := 8) rfl)) (hw _ (List.mem_of_getElem? (i := 9) rfl)) (hw _ (List.mem_of_getElem? (i := 3) rfl)) (hw _ (List.mem_of_getElem? (i := 10) rfl)) (by decide) hS (Nat.le_refl _) hEL C21.1 (own_rm2 l Z a0 hw [] p3 zCS T20.heap n0 (Nat.le_trans Z0 k23_.1) S_CS nCS o22_) (by decide) (by decide) rfl (g := (mkF m 23 #[.val (.int p0), .val (.int p1), .val (.int p2), .val (.int p3), .val (.int k), .val (.ref aTOO_LATE), .val t20, .unset, .unset, .unset] [(.int p3)])) rfl (by rw [hml]; rfl) (argsL := [(.int p3)]) (rest := []) (lenOf own_pd__28I_29Ljava_2flang_2fString_3b rfl) rfl (W := 0) (by show 2 * 0 + _ ≤ _; exact Nat.le_of_eq rfl) (hb hby at_23) rfl (by decide) (by decide) ?_
      rintro rv24 T24 L24 X24 hS hZ hown CH24 ⟨hv24, Nq24, Kq24⟩
      have N24 := Fr.app N20 Nq24
      obtain ⟨t24, rfl, ht24⟩ : ∃ t : Value, rv24 = some t ∧ t.isRef = true := hv24.elim (fun q => ⟨_, q, rfl⟩) (fun ⟨_, q⟩ => ⟨_, q, rfl⟩)
      show own_Fin p e below _ T24 (mkF m 26 #[.val (.int p0), .val (.int p1), .val (.int p2), .val (.int p3), .val (.int k), .val (.ref aTOO_LATE), .val t20, .unset, .unset, .unset] [t24])
      have C25 := C21.trans CH24
      refine own_by (T' := T24) (g' := (mkF m 28 #[.val (.int p0), .val (.int p1), .val (.int p2), .val (.int p3), .val (.int k), .val (.ref aTOO_LATE), .val t20, .val t24, .unset, .unset] [])) (fun _ kq => XS.astore X24.here hx rfl (hb hby at_26) rfl ht24 (l' := #[.val (.int p0), .val (.int p1), .val (.int p2), .val (.int p3), .val (.int k), .val (.ref aTOO_LATE), .val t20, .val t24, .unset, .unset]) (own_store1 rfl One.u (own_cat ht24) rfl) kq) ?_
      obtain ⟨T26, h26, X26, e26, E26, A26, D26, U26, st26⟩ := newO X24 hx hZ hown (hw _ (List.mem_of_getElem? (i := 11) rfl)) (hw _ (List.mem_of_getElem? (i := 12) rfl)) (hw _ (List.mem_of_getElem? (i := 13) rfl)) rfl (g := (mkF m 28 #[.val (.int p0), .val (.int p1), .val (.int p2), .val (.int p3), .val (.int k), .val (.ref aTOO_LATE), .val t20, .val t24, .unset, .unset] [])) rfl (hb hby at_28) (by decide) (by decide)
      obtain ⟨b26, g26⟩ : ∃ z, z = T24.heap.size := ⟨_, rfl⟩
      rw [← g26] at A26 D26 U26 st26
      have k27_ := (k23_.trans Kq24 all0)
      have g_b26 : n0 ≤ b26 := Nat.le_trans (Nat.le_trans Z0 k27_.1) (Nat.le_of_eq g26.symm)
      have sz_b26 : h0.size ≤ b26 := Nat.le_trans k27_.1 (Nat.le_of_eq g26.symm)
      have sf_b26 : Safe Z consts_1 T24.vm T24.heap b26 := Safe.new (Nat.le_of_eq g26.symm)
      have C28 := C25.trans (CHr.ext E26 C25.1)
      have F_file_b26 : Fld Z h26 b26 "com/example/abeyance/abeyance/records/Verdict" "file" "Ljava/lang/String;" .null := D26 (Or.inr (hw _ (List.mem_of_getElem? (i := 26) rfl))) (ty := (.object "java/lang/String")) (by decide)
      have F_line_b26 : Fld Z h26 b26 "com/example/abeyance/abeyance/records/Verdict" "line" "I" (.int (0 : Int32)) := D26 (Or.inr (hw _ (List.mem_of_getElem? (i := 28) rfl))) (ty := .int) (by decide)
      have F_participant_b26 : Fld Z h26 b26 "com/example/abeyance/abeyance/records/Verdict" "participant" "Ljava/lang/String;" .null := D26 (Or.inr (hw _ (List.mem_of_getElem? (i := 30) rfl))) (ty := (.object "java/lang/String")) (by decide)
      have F_refusal_b26 : Fld Z h26 b26 "com/example/abeyance/abeyance/records/Verdict" "refusal" "Lcom/example/abeyance/abeyance/records/Refusal;" .null := D26 (Or.inr (hw _ (List.mem_of_getElem? (i := 32) rfl))) (ty := (.object "com/example/abeyance/abeyance/records/Refusal")) (by decide)
      refine own_by (T' := T26) (g' := (mkF m 31 #[.val (.int p0), .val (.int p1), .val (.int p2), .val (.int p3), .val (.int k), .val (.ref aTOO_LATE), .val t20, .val t24, .unset, .unset] [(.ref b26)])) st26 ?_
      refine own_by (T' := T26) (g' := (mkF m 32 #[.val (.int p0), .val (.int p1), .val (.int p2), .val (.int p3), .val (.int k), .val (.ref aTOO_LATE), .val t20, .val t24, .unset, .unset] [(.ref b26), (.ref b26)])) (fun _ kq => XS.dup X26.here hx rfl (hb hby at_31) rfl rfl kq) ?_
      refine own_by (T' := T26) (g' := (mkF m 34 #[.val (.int p0), .val (.int p1), .val (.int p2), .val (.int p3), .val (.int k), .val (.ref aTOO_LATE), .val t20, .val t24, .unset, .unset] [t20, (.ref b26), (.ref b26)])) (fun _ kq => XS.aload X26.here hx rfl (hb hby at_32) rfl ht20 kq) ?_
      refine own_by (T' := T26) (g' := (mkF m 35 #[.val (.int p0), .val (.int p1), .val (.int p2), .val (.int p3), .val (.int k), .val (.ref aTOO_LATE), .val t20, .val t24, .unset, .unset] [(.int p1), t20, (.ref b26), (.ref b26)])) (fun _ kq => XS.iloadN X26.here hx rfl (hb hby at_34) rfl kq) ?_
      refine own_by (T' := T26) (g' := (mkF m 37 #[.val (.int p0), .val (.int p1), .val (.int p2), .val (.int p3), .val (.int k), .val (.ref aTOO_LATE), .val t20, .val t24, .unset, .unset] [t24, (.int p1), t20, (.ref b26), (.ref b26)])) (fun _ kq => XS.aload X26.here hx rfl (hb hby at_35) rfl ht24 kq) ?_
      refine own_by (T' := T26) (g' := (mkF m 39 #[.val (.int p0), .val (.int p1), .val (.int p2), .val (.int p3), .val (.int k), .val (.ref aTOO_LATE), .val t20, .val t24, .unset, .unset] [(.ref aTOO_LATE), t24, (.int p1), t20, (.ref b26), (.ref b26)])) (fun _ kq => XS.aload X26.here hx rfl (hb hby at_37) rfl rfl kq) ?_
      have k29_ := (k27_.ext E26)
      refine own_callI X26 hx hZ (y := (⟨"com/example/abeyance/abeyance/records/Verdict", "<init>", "(Ljava/lang/String;ILjava/lang/String;Lcom/example/abeyance/abeyance/records/Refusal;)V"⟩ : MethodName)) rfl hown (hw _ (List.mem_of_getElem? (i := 14) rfl)) (hw _ (List.mem_of_getElem? (i := 15) rfl)) (hw _ (List.mem_of_getElem? (i := 16) rfl)) (hw _ (List.mem_of_getElem? (i := 13) rfl)) (by decide) (own_rm3 l Z a0 hw [] b26 t20 p1 t24 (.ref aTOO_LATE) h26 n0 (Nat.le_trans Z0 k29_.1) ht20 ht24 rfl A26 g_b26 F_file_b26 F_line_b26 F_participant_b26 F_refusal_b26) (by decide) (by decide) e26 (g := (mkF m 39 #[.val (.int p0), .val (.int p1), .val (.int p2), .val (.int p3), .val (.int k), .val (.ref aTOO_LATE), .val t20, .val t24, .unset, .unset] [(.ref aTOO_LATE), t24, (.int p1), t20, (.ref b26), (.ref b26)])) rfl (by rw [hml]; rfl) (argsL := [t20, (.int p1), t24, (.ref aTOO_LATE)]) (rest := [(.ref b26)]) (lenOf own_pd__28Ljava_2flang_2fString_3bILjava_2flang_2fString_3bLcom_2fexample_2fabeyance_2fabeyance_2frecords_2fRefusal_3b_29V rfl) rfl (W := 1) (by show 2 * 0 + _ ≤ _; exact Nat.le_of_eq rfl) (hb hby at_39) rfl (by decide) (by decide) ?_
      rintro rv30 T30 L30 X30 ⟨rfl, Nq30, Kq30, Eq30, Fq30⟩
      have N30 := Fr.app N24 Nq30
      show own_Fin p e below _ T30 (mkF m 42 #[.val (.int p0), .val (.int p1), .val (.int p2), .val (.int p3), .val (.int k), .val (.ref aTOO_LATE), .val t20, .val t24, .unset, .unset] [(.ref b26)])
      have C31 := C28.trans (CHr.keep Kq30 (sfS (Safe.exa hZ.alike A26 (by decide) (by decide)) sf0) C28.1)
      refine own_by (T' := T30) (g' := (mkF m 44 #[.val (.int p0), .val (.int p1), .val (.int p2), .val (.int p3), .val (.int k), .val (.ref aTOO_LATE), .val t20, .val t24, .val (.ref b26), .unset] [])) (fun _ kq => XS.astore X30.here hx rfl (hb hby at_42) rfl rfl (l' := #[.val (.int p0), .val (.int p1), .val (.int p2), .val (.int p3), .val (.int k), .val (.ref aTOO_LATE), .val t20, .val t24, .val (.ref b26), .unset]) rfl kq) ?_
      refine own_by (T' := T30) (g' := (mkF m 46 #[.val (.int p0), .val (.int p1), .val (.int p2), .val (.int p3), .val (.int k), .val (.ref aTOO_LATE), .val t20, .val t24, .val (.ref b26), .unset] [(.int k)])) (fun _ kq => XS.iload X30.here hx rfl (hb hby at_44) rfl kq) ?_
      refine own_by (T' := T30) (g' := (mkF m 48 #[.val (.int p0), .val (.int p1), .val (.int p2), .val (.int p3), .val (.int k), .val (.ref aTOO_LATE), .val t20, .val t24, .val (.ref b26), .unset] [(.int (7 : Int32)), (.int k)])) (fun _ kq => XS.bipush X30.here hx rfl (hb hby at_46) kq) ?_
      refine own_by (T' := T30) (g' := (mkF m 55 #[.val (.int p0), .val (.int p1), .val (.int p2), .val (.int p3), .val (.int k), .val (.ref aTOO_LATE), .val t20, .val t24, .val (.ref b26), .unset] [])) (fun _ kq => XS.icmpYes X30.here hx rfl (pc0 := 48) (pc' := 55) rfl (hb hby at_48) rfl (feq (own_clash hc18 (by decide))).2 (by decide) (by decide) kq) ?_
      refine own_by (T' := T30) (g' := (mkF m 56 #[.val (.int p0), .val (.int p1), .val (.int p2), .val (.int p3), .val (.int k), .val (.ref aTOO_LATE), .val t20, .val t24, .val (.ref b26), .unset] [(.int (0 : Int32))])) (fun _ kq => XS.iconst X30.here hx rfl (hb hby at_55) kq) ?_
      refine own_by (T' := T30) (g' := (mkF m 58 #[.val (.int p0), .val (.int p1), .val (.int p2), .val (.int p3), .val (.int k), .val (.ref aTOO_LATE), .val t20, .val t24, .val (.ref b26), .val (.int (0 : Int32))] [])) (fun _ kq => XS.istore X30.here hx rfl (hb hby at_56) rfl (l' := #[.val (.int p0), .val (.int p1), .val (.int p2), .val (.int p3), .val (.int k), .val (.ref aTOO_LATE), .val t20, .val t24, .val (.ref b26), .val (.int (0 : Int32))]) rfl kq) ?_
      refine own_by (T' := T30) (g' := (mkF m 60 #[.val (.int p0), .val (.int p1), .val (.int p2), .val (.int p3), .val (.int k), .val (.ref aTOO_LATE), .val t20, .val t24, .val (.ref b26), .val (.int (0 : Int32))] [(.ref b26)])) (fun _ kq => XS.aload X30.here hx rfl (hb hby at_58) rfl rfl kq) ?_
      have k32_ := (k29_.trans Kq30 (allS (Or.inr sz_b26) all0))
      refine own_callV X30 hx hZ (y := (⟨"com/example/abeyance/abeyance/records/Verdict", "accepted", "()Z"⟩ : MethodName)) (z := (⟨"com/example/abeyance/abeyance/records/Verdict", "accepted", "()Z"⟩ : MethodName)) hown (hw _ (List.mem_of_getElem? (i := 33) rfl)) (hw _ (List.mem_of_getElem? (i := 34) rfl)) (own_nf (hw _ (List.mem_of_getElem? (i := 36) rfl))) (hw _ (List.mem_of_getElem? (i := 36) rfl)) (hw _ (List.mem_of_getElem? (i := 35) rfl)) (hw _ (List.mem_of_getElem? (i := 37) rfl)) (hw _ (List.mem_of_getElem? (i := 13) rfl)) (by decide) Eq30 (own_rm6r l Z a0 hw [] b26 aTOO_LATE T30.heap n0 (Nat.le_trans Z0 k32_.1) Fq30) (by decide) (by decide) rfl (g := (mkF m 60 #[.val (.int p0), .val (.int p1), .val (.int p2), .val (.int p3), .val (.int k), .val (.ref aTOO_LATE), .val t20, .val t24, .val (.ref b26), .val (.int (0 : Int32))] [(.ref b26)])) rfl (by rw [hml]; rfl) (argsL := []) (rest := []) (lenOf own_pd__28_29Z rfl) rfl (W := 0) (by show 2 * 0 + _ ≤ _; exact Nat.le_of_eq rfl) (hb hby at_60) rfl (by decide) (by decide) ?_
      rintro rv33 T33 L33 X33 ⟨rfl, Nq33, eh33⟩
      have N33 := Fr.app N30 Nq33
      show own_Fin p e below _ T33 (mkF m 63 #[.val (.int p0), .val (.int p1), .val (.int p2), .val (.int p3), .val (.int k), .val (.ref aTOO_LATE), .val t20, .val t24, .val (.ref b26), .val (.int (0 : Int32))] [(.int (0 : Int32))])
      refine own_by (T' := T33) (g' := (mkF m 65 #[.val (.int p0), .val (.int p1), .val (.int p2), .val (.int p3), .val (.int k), .val (.ref aTOO_LATE), .val t20, .val t24, .val (.ref b26), .val (.int (0 : Int32))] [(.int (0 : Int32)), (.int (0 : Int32))])) (fun _ kq => XS.iload X33.here hx rfl (hb hby at_63) rfl kq) ?_
      refine own_by (T' := T33) (g' := (mkF m 68 #[.val (.int p0), .val (.int p1), .val (.int p2), .val (.int p3), .val (.int k), .val (.ref aTOO_LATE), .val t20, .val t24, .val (.ref b26), .val (.int (0 : Int32))] [])) (fun _ kq => XS.icmpNo X33.here hx rfl (hb hby at_65) rfl (teq (by decide : (0 : Int32) = (0 : Int32))).2 kq) ?_
      refine own_by (T' := T33) (g' := (mkF m 69 #[.val (.int p0), .val (.int p1), .val (.int p2), .val (.int p3), .val (.int k), .val (.ref aTOO_LATE), .val t20, .val t24, .val (.ref b26), .val (.int (0 : Int32))] [(.int (1 : Int32))])) (fun _ kq => XS.iconst X33.here hx rfl (hb hby at_68) kq) ?_
      refine own_by (T' := T33) (g' := (mkF m 73 #[.val (.int p0), .val (.int p1), .val (.int p2), .val (.int p3), .val (.int k), .val (.ref aTOO_LATE), .val t20, .val t24, .val (.ref b26), .val (.int (0 : Int32))] [(.int (1 : Int32))])) (fun _ kq => XS.goto X33.here hx rfl (pc0 := 69) (pc' := 73) rfl (hb hby at_69) (by decide) (by decide) kq) ?_
      have hk34_ := (Nat.le_trans (Nat.le_trans (Nat.le_refl _) E26.1) Kq30.1)
      exact own_endW X33 hS (by rw [eh33]; exact hk34_) hZ hEL (by rw [hh]; rw [eh33]; exact C31) (v := some (.int (nar .boolean (1 : Int32)))) (fun h => by rw [Bd.returns] at h; cases h) hlk (fun hr => retN X33 hx (t := .boolean) Bd.returns (by simp) (hb hby at_73) hr) (by rw [eh33]; exact ⟨rfl, N33⟩) (by decide) (by decide)
    · skip
      by_cases hc35 : k = (2 : Int32)
      · skip
        refine own_by (T' := s₁) (g' := (mkF m 11 #[.val (.int p0), .val (.int p1), .val (.int p2), .val (.int p3), .val (.int k), .unset, .unset, .unset, .unset, .unset] [(.int k)])) (fun _ kq => XS.iload X0.here hx rfl (hb hby at_9) rfl kq) ?_
        refine own_callS X0 hx hZ (y := (⟨"com/example/abeyance/abeyance/records/VerdictAcceptedPinLaw", "pick", "(I)Lcom/example/abeyance/abeyance/records/Refusal;"⟩ : MethodName)) hown (hw _ (List.mem_of_getElem? (i := 1) rfl)) (hw _ (List.mem_of_getElem? (i := 2) rfl)) (hw _ (List.mem_of_getElem? (i := 3) rfl)) (hw _ (List.mem_of_getElem? (i := 4) rfl)) (by decide) (own_rm1 l Z a0 hw [] k aPERCENT_NOT_ALLOWED aTOO_LATE aIN_SERVICE_TOO_EARLY aINSTALLMENTS_NOT_ALLOWED aCHANGE_TOO_LATE aCHANGE_TOO_SHORT aCHANGE_NOT_ALLOWED h0 n0 Z0 (S_PERCENT_NOT_ALLOWED.ext O0.2) (S_TOO_LATE.ext O0.2) (S_IN_SERVICE_TOO_EARLY.ext O0.2) (S_INSTALLMENTS_NOT_ALLOWED.ext O0.2) (S_CHANGE_TOO_LATE.ext O0.2) (S_CHANGE_TOO_SHORT.ext O0.2) (S_CHANGE_NOT_ALLOWED.ext O0.2)) (by decide) (by decide) e0 (g := (mkF m 11 #[.val (.int p0), .val (.int p1), .val (.int p2), .val (.int p3), .val (.int k), .unset, .unset, .unset, .unset, .unset] [(.int k)])) rfl (by rw [hml]; rfl) (argsL := [(.int k)]) (rest := []) (lenOf own_pd__28I_29Lcom_2fexample_2fabeyance_2fabeyance_2frecords_2fRefusal_3b rfl) rfl (W := 0) (by show 2 * 0 + _ ≤ _; exact Nat.le_of_eq rfl) (hb hby at_11) rfl (by decide) (by decide) ?_
        rintro rv36 T36 L36 X36 ⟨hv36, Nq36, eh36⟩
        have N36 := Fr.app N0 Nq36
        rw [if_neg hc1, if_neg hc18, if_pos hc35] at hv36
        subst hv36
        show own_Fin p e below _ T36 (mkF m 14 #[.val (.int p0), .val (.int p1), .val (.int p2), .val (.int p3), .val (.int k), .unset, .unset, .unset, .unset, .unset] [(.ref aIN_SERVICE_TOO_EARLY)])
        refine own_by (T' := T36) (g' := (mkF m 16 #[.val (.int p0), .val (.int p1), .val (.int p2), .val (.int p3), .val (.int k), .val (.ref aIN_SERVICE_TOO_EARLY), .unset, .unset, .unset, .unset] [])) (fun _ kq => XS.astore X36.here hx rfl (hb hby at_14) rfl rfl (l' := #[.val (.int p0), .val (.int p1), .val (.int p2), .val (.int p3), .val (.int k), .val (.ref aIN_SERVICE_TOO_EARLY), .unset, .unset, .unset, .unset]) rfl kq) ?_
        refine own_by (T' := T36) (g' := (mkF m 17 #[.val (.int p0), .val (.int p1), .val (.int p2), .val (.int p3), .val (.int k), .val (.ref aIN_SERVICE_TOO_EARLY), .unset, .unset, .unset, .unset] [(.int p2)])) (fun _ kq => XS.iloadN X36.here hx rfl (hb hby at_16) rfl kq) ?_
        refine own_callSW X36 hx hZ (y := (⟨"com/example/abeyance/abeyance/records/VerdictAcceptedPinLaw", "text", "(I)Ljava/lang/String;"⟩ : MethodName)) hown (hw _ (List.mem_of_getElem? (i := 8) rfl)) (hw _ (List.mem_of_getElem? (i := 9) rfl)) (hw _ (List.mem_of_getElem? (i := 3) rfl)) (hw _ (List.mem_of_getElem? (i := 10) rfl)) (by decide) hS hk0 hEL C0.1 (own_rm2 l Z a0 hw [] p2 zCS h0 n0 (Nat.le_trans Z0 (Keep.refl h0 []).1) S_CS nCS O0) (by decide) (by decide) eh36 (g := (mkF m 17 #[.val (.int p0), .val (.int p1), .val (.int p2), .val (.int p3), .val (.int k), .val (.ref aIN_SERVICE_TOO_EARLY), .unset, .unset, .unset, .unset] [(.int p2)])) rfl (by rw [hml]; rfl) (argsL := [(.int p2)]) (rest := []) (lenOf own_pd__28I_29Ljava_2flang_2fString_3b rfl) rfl (W := 0) (by show 2 * 0 + _ ≤ _; exact Nat.le_of_eq rfl) (hb hby at_17) rfl (by decide) (by decide) ?_
        rintro rv37 T37 L37 X37 hS hZ hown CH37 ⟨hv37, Nq37, Kq37⟩
        have N37 := Fr.app N36 Nq37
        obtain ⟨t37, rfl, ht37⟩ : ∃ t : Value, rv37 = some t ∧ t.isRef = true := hv37.elim (fun q => ⟨_, q, rfl⟩) (fun ⟨_, q⟩ => ⟨_, q, rfl⟩)
        show own_Fin p e below _ T37 (mkF m 20 #[.val (.int p0), .val (.int p1), .val (.int p2), .val (.int p3), .val (.int k), .val (.ref aIN_SERVICE_TOO_EARLY), .unset, .unset, .unset, .unset] [t37])
        have C38 := C0.trans CH37
        refine own_by (T' := T37) (g' := (mkF m 22 #[.val (.int p0), .val (.int p1), .val (.int p2), .val (.int p3), .val (.int k), .val (.ref aIN_SERVICE_TOO_EARLY), .val t37, .unset, .unset, .unset] [])) (fun _ kq => XS.astore X37.here hx rfl (hb hby at_20) rfl ht37 (l' := #[.val (.int p0), .val (.int p1), .val (.int p2), .val (.int p3), .val (.int k), .val (.ref aIN_SERVICE_TOO_EARLY), .val t37, .unset, .unset, .unset]) (own_store1 rfl One.u (own_cat ht37) rfl) kq) ?_
        refine own_by (T' := T37) (g' := (mkF m 23 #[.val (.int p0), .val (.int p1), .val (.int p2), .val (.int p3), .val (.int k), .val (.ref aIN_SERVICE_TOO_EARLY), .val t37, .unset, .unset, .unset] [(.int p3)])) (fun _ kq => XS.iloadN X37.here hx rfl (hb hby at_22) rfl kq) ?_
        have o39_ := (O0.keep Kq37 all0)
        have k40_ := ((Keep.refl h0 []).trans Kq37 all0)
        refine own_callSW X37 hx hZ (y := (⟨"com/example/abeyance/abeyance/records/VerdictAcceptedPinLaw", "text", "(I)Ljava/lang/String;"⟩ : MethodName)) hown (hw _ (List.mem_of_getElem? (i := 8) rfl)) (hw _ (List.mem_of_getElem? (i := 9) rfl)) (hw _ (List.mem_of_getElem? (i := 3) rfl)) (hw _ (List.mem_of_getElem? (i := 10) rfl)) (by decide) hS (Nat.le_refl _) hEL C38.1 (own_rm2 l Z a0 hw [] p3 zCS T37.heap n0 (Nat.le_trans Z0 k40_.1) S_CS nCS o39_) (by decide) (by decide) rfl (g := (mkF m 23 #[.val (.int p0), .val (.int p1), .val (.int p2), .val (.int p3), .val (.int k), .val (.ref aIN_SERVICE_TOO_EARLY), .val t37, .unset, .unset, .unset] [(.int p3)])) rfl (by rw [hml]; rfl) (argsL := [(.int p3)]) (rest := []) (lenOf own_pd__28I_29Ljava_2flang_2fString_3b rfl) rfl (W := 0) (by show 2 * 0 + _ ≤ _; exact Nat.le_of_eq rfl) (hb hby at_23) rfl (by decide) (by decide) ?_
        rintro rv41 T41 L41 X41 hS hZ hown CH41 ⟨hv41, Nq41, Kq41⟩
        have N41 := Fr.app N37 Nq41
        obtain ⟨t41, rfl, ht41⟩ : ∃ t : Value, rv41 = some t ∧ t.isRef = true := hv41.elim (fun q => ⟨_, q, rfl⟩) (fun ⟨_, q⟩ => ⟨_, q, rfl⟩)
        show own_Fin p e below _ T41 (mkF m 26 #[.val (.int p0), .val (.int p1), .val (.int p2), .val (.int p3), .val (.int k), .val (.ref aIN_SERVICE_TOO_EARLY), .val t37, .unset, .unset, .unset] [t41])
        have C42 := C38.trans CH41
        refine own_by (T' := T41) (g' := (mkF m 28 #[.val (.int p0), .val (.int p1), .val (.int p2), .val (.int p3), .val (.int k), .val (.ref aIN_SERVICE_TOO_EARLY), .val t37, .val t41, .unset, .unset] [])) (fun _ kq => XS.astore X41.here hx rfl (hb hby at_26) rfl ht41 (l' := #[.val (.int p0), .val (.int p1), .val (.int p2), .val (.int p3), .val (.int k), .val (.ref aIN_SERVICE_TOO_EARLY), .val t37, .val t41, .unset, .unset]) (own_store1 rfl One.u (own_cat ht41) rfl) kq) ?_
        obtain ⟨T43, h43, X43, e43, E43, A43, D43, U43, st43⟩ := newO X41 hx hZ hown (hw _ (List.mem_of_getElem? (i := 11) rfl)) (hw _ (List.mem_of_getElem? (i := 12) rfl)) (hw _ (List.mem_of_getElem? (i := 13) rfl)) rfl (g := (mkF m 28 #[.val (.int p0), .val (.int p1), .val (.int p2), .val (.int p3), .val (.int k), .val (.ref aIN_SERVICE_TOO_EARLY), .val t37, .val t41, .unset, .unset] [])) rfl (hb hby at_28) (by decide) (by decide)
        obtain ⟨b43, g43⟩ : ∃ z, z = T41.heap.size := ⟨_, rfl⟩
        rw [← g43] at A43 D43 U43 st43
        have k44_ := (k40_.trans Kq41 all0)
        have g_b43 : n0 ≤ b43 := Nat.le_trans (Nat.le_trans Z0 k44_.1) (Nat.le_of_eq g43.symm)
        have sz_b43 : h0.size ≤ b43 := Nat.le_trans k44_.1 (Nat.le_of_eq g43.symm)
        have sf_b43 : Safe Z consts_1 T41.vm T41.heap b43 := Safe.new (Nat.le_of_eq g43.symm)
        have C45 := C42.trans (CHr.ext E43 C42.1)
        have F_file_b43 : Fld Z h43 b43 "com/example/abeyance/abeyance/records/Verdict" "file" "Ljava/lang/String;" .null := D43 (Or.inr (hw _ (List.mem_of_getElem? (i := 26) rfl))) (ty := (.object "java/lang/String")) (by decide)
        have F_line_b43 : Fld Z h43 b43 "com/example/abeyance/abeyance/records/Verdict" "line" "I" (.int (0 : Int32)) := D43 (Or.inr (hw _ (List.mem_of_getElem? (i := 28) rfl))) (ty := .int) (by decide)
        have F_participant_b43 : Fld Z h43 b43 "com/example/abeyance/abeyance/records/Verdict" "participant" "Ljava/lang/String;" .null := D43 (Or.inr (hw _ (List.mem_of_getElem? (i := 30) rfl))) (ty := (.object "java/lang/String")) (by decide)
        have F_refusal_b43 : Fld Z h43 b43 "com/example/abeyance/abeyance/records/Verdict" "refusal" "Lcom/example/abeyance/abeyance/records/Refusal;" .null := D43 (Or.inr (hw _ (List.mem_of_getElem? (i := 32) rfl))) (ty := (.object "com/example/abeyance/abeyance/records/Refusal")) (by decide)
        refine own_by (T' := T43) (g' := (mkF m 31 #[.val (.int p0), .val (.int p1), .val (.int p2), .val (.int p3), .val (.int k), .val (.ref aIN_SERVICE_TOO_EARLY), .val t37, .val t41, .unset, .unset] [(.ref b43)])) st43 ?_
        refine own_by (T' := T43) (g' := (mkF m 32 #[.val (.int p0), .val (.int p1), .val (.int p2), .val (.int p3), .val (.int k), .val (.ref aIN_SERVICE_TOO_EARLY), .val t37, .val t41, .unset, .unset] [(.ref b43), (.ref b43)])) (fun _ kq => XS.dup X43.here hx rfl (hb hby at_31) rfl rfl kq) ?_
        refine own_by (T' := T43) (g' := (mkF m 34 #[.val (.int p0), .val (.int p1), .val (.int p2), .val (.int p3), .val (.int k), .val (.ref aIN_SERVICE_TOO_EARLY), .val t37, .val t41, .unset, .unset] [t37, (.ref b43), (.ref b43)])) (fun _ kq => XS.aload X43.here hx rfl (hb hby at_32) rfl ht37 kq) ?_
        refine own_by (T' := T43) (g' := (mkF m 35 #[.val (.int p0), .val (.int p1), .val (.int p2), .val (.int p3), .val (.int k), .val (.ref aIN_SERVICE_TOO_EARLY), .val t37, .val t41, .unset, .unset] [(.int p1), t37, (.ref b43), (.ref b43)])) (fun _ kq => XS.iloadN X43.here hx rfl (hb hby at_34) rfl kq) ?_
        refine own_by (T' := T43) (g' := (mkF m 37 #[.val (.int p0), .val (.int p1), .val (.int p2), .val (.int p3), .val (.int k), .val (.ref aIN_SERVICE_TOO_EARLY), .val t37, .val t41, .unset, .unset] [t41, (.int p1), t37, (.ref b43), (.ref b43)])) (fun _ kq => XS.aload X43.here hx rfl (hb hby at_35) rfl ht41 kq) ?_
        refine own_by (T' := T43) (g' := (mkF m 39 #[.val (.int p0), .val (.int p1), .val (.int p2), .val (.int p3), .val (.int k), .val (.ref aIN_SERVICE_TOO_EARLY), .val t37, .val t41, .unset, .unset] [(.ref aIN_SERVICE_TOO_EARLY), t41, (.int p1), t37, (.ref b43), (.ref b43)])) (fun _ kq => XS.aload X43.here hx rfl (hb hby at_37) rfl rfl kq) ?_
        have k46_ := (k44_.ext E43)
        refine own_callI X43 hx hZ (y := (⟨"com/example/abeyance/abeyance/records/Verdict", "<init>", "(Ljava/lang/String;ILjava/lang/String;Lcom/example/abeyance/abeyance/records/Refusal;)V"⟩ : MethodName)) rfl hown (hw _ (List.mem_of_getElem? (i := 14) rfl)) (hw _ (List.mem_of_getElem? (i := 15) rfl)) (hw _ (List.mem_of_getElem? (i := 16) rfl)) (hw _ (List.mem_of_getElem? (i := 13) rfl)) (by decide) (own_rm3 l Z a0 hw [] b43 t37 p1 t41 (.ref aIN_SERVICE_TOO_EARLY) h43 n0 (Nat.le_trans Z0 k46_.1) ht37 ht41 rfl A43 g_b43 F_file_b43 F_line_b43 F_participant_b43 F_refusal_b43) (by decide) (by decide) e43 (g := (mkF m 39 #[.val (.int p0), .val (.int p1), .val (.int p2), .val (.int p3), .val (.int k), .val (.ref aIN_SERVICE_TOO_EARLY), .val t37, .val t41, .unset, .unset] [(.ref aIN_SERVICE_TOO_EARLY), t41, (.int p1), t37, (.ref b43), (.ref b43)])) rfl (by rw [hml]; rfl) (argsL := [t37, (.int p1), t41, (.ref aIN_SERVICE_TOO_EARLY)]) (rest := [(.ref b43)]) (lenOf own_pd__28Ljava_2flang_2fString_3bILjava_2flang_2fString_3bLcom_2fexample_2fabeyance_2fabeyance_2frecords_2fRefusal_3b_29V rfl) rfl (W := 1) (by show 2 * 0 + _ ≤ _; exact Nat.le_of_eq rfl) (hb hby at_39) rfl (by decide) (by decide) ?_
        rintro rv47 T47 L47 X47 ⟨rfl, Nq47, Kq47, Eq47, Fq47⟩
        have N47 := Fr.app N41 Nq47
        show own_Fin p e below _ T47 (mkF m 42 #[.val (.int p0), .val (.int p1), .val (.int p2), .val (.int p3), .val (.int k), .val (.ref aIN_SERVICE_TOO_EARLY), .val t37, .val t41, .unset, .unset] [(.ref b43)])
        have C48 := C45.trans (CHr.keep Kq47 (sfS (Safe.exa hZ.alike A43 (by decide) (by decide)) sf0) C45.1)
        refine own_by (T' := T47) (g' := (mkF m 44 #[.val (.int p0), .val (.int p1), .val (.int p2), .val (.int p3), .val (.int k), .val (.ref aIN_SERVICE_TOO_EARLY), .val t37, .val t41, .val (.ref b43), .unset] [])) (fun _ kq => XS.astore X47.here hx rfl (hb hby at_42) rfl rfl (l' := #[.val (.int p0), .val (.int p1), .val (.int p2), .val (.int p3), .val (.int k), .val (.ref aIN_SERVICE_TOO_EARLY), .val t37, .val t41, .val (.ref b43), .unset]) rfl kq) ?_
        refine own_by (T' := T47) (g' := (mkF m 46 #[.val (.int p0), .val (.int p1), .val (.int p2), .val (.int p3), .val (.int k), .val (.ref aIN_SERVICE_TOO_EARLY), .val t37, .val t41, .val (.ref b43), .unset] [(.int k)])) (fun _ kq => XS.iload X47.here hx rfl (hb hby at_44) rfl kq) ?_
        refine own_by (T' := T47) (g' := (mkF m 48 #[.val (.int p0), .val (.int p1), .val (.int p2), .val (.int p3), .val (.int k), .val (.ref aIN_SERVICE_TOO_EARLY), .val t37, .val t41, .val (.ref b43), .unset] [(.int (7 : Int32)), (.int k)])) (fun _ kq => XS.bipush X47.here hx rfl (hb hby at_46) kq) ?_
        refine own_by (T' := T47) (g' := (mkF m 55 #[.val (.int p0), .val (.int p1), .val (.int p2), .val (.int p3), .val (.int k), .val (.ref aIN_SERVICE_TOO_EARLY), .val t37, .val t41, .val (.ref b43), .unset] [])) (fun _ kq => XS.icmpYes X47.here hx rfl (pc0 := 48) (pc' := 55) rfl (hb hby at_48) rfl (feq (own_clash hc35 (by decide))).2 (by decide) (by decide) kq) ?_
        refine own_by (T' := T47) (g' := (mkF m 56 #[.val (.int p0), .val (.int p1), .val (.int p2), .val (.int p3), .val (.int k), .val (.ref aIN_SERVICE_TOO_EARLY), .val t37, .val t41, .val (.ref b43), .unset] [(.int (0 : Int32))])) (fun _ kq => XS.iconst X47.here hx rfl (hb hby at_55) kq) ?_
        refine own_by (T' := T47) (g' := (mkF m 58 #[.val (.int p0), .val (.int p1), .val (.int p2), .val (.int p3), .val (.int k), .val (.ref aIN_SERVICE_TOO_EARLY), .val t37, .val t41, .val (.ref b43), .val (.int (0 : Int32))] [])) (fun _ kq => XS.istore X47.here hx rfl (hb hby at_56) rfl (l' := #[.val (.int p0), .val (.int p1), .val (.int p2), .val (.int p3), .val (.int k), .val (.ref aIN_SERVICE_TOO_EARLY), .val t37, .val t41, .val (.ref b43), .val (.int (0 : Int32))]) rfl kq) ?_
        refine own_by (T' := T47) (g' := (mkF m 60 #[.val (.int p0), .val (.int p1), .val (.int p2), .val (.int p3), .val (.int k), .val (.ref aIN_SERVICE_TOO_EARLY), .val t37, .val t41, .val (.ref b43), .val (.int (0 : Int32))] [(.ref b43)])) (fun _ kq => XS.aload X47.here hx rfl (hb hby at_58) rfl rfl kq) ?_
        have k49_ := (k46_.trans Kq47 (allS (Or.inr sz_b43) all0))
        refine own_callV X47 hx hZ (y := (⟨"com/example/abeyance/abeyance/records/Verdict", "accepted", "()Z"⟩ : MethodName)) (z := (⟨"com/example/abeyance/abeyance/records/Verdict", "accepted", "()Z"⟩ : MethodName)) hown (hw _ (List.mem_of_getElem? (i := 33) rfl)) (hw _ (List.mem_of_getElem? (i := 34) rfl)) (own_nf (hw _ (List.mem_of_getElem? (i := 36) rfl))) (hw _ (List.mem_of_getElem? (i := 36) rfl)) (hw _ (List.mem_of_getElem? (i := 35) rfl)) (hw _ (List.mem_of_getElem? (i := 37) rfl)) (hw _ (List.mem_of_getElem? (i := 13) rfl)) (by decide) Eq47 (own_rm6r l Z a0 hw [] b43 aIN_SERVICE_TOO_EARLY T47.heap n0 (Nat.le_trans Z0 k49_.1) Fq47) (by decide) (by decide) rfl (g := (mkF m 60 #[.val (.int p0), .val (.int p1), .val (.int p2), .val (.int p3), .val (.int k), .val (.ref aIN_SERVICE_TOO_EARLY), .val t37, .val t41, .val (.ref b43), .val (.int (0 : Int32))] [(.ref b43)])) rfl (by rw [hml]; rfl) (argsL := []) (rest := []) (lenOf own_pd__28_29Z rfl) rfl (W := 0) (by show 2 * 0 + _ ≤ _; exact Nat.le_of_eq rfl) (hb hby at_60) rfl (by decide) (by decide) ?_
        rintro rv50 T50 L50 X50 ⟨rfl, Nq50, eh50⟩
        have N50 := Fr.app N47 Nq50
        show own_Fin p e below _ T50 (mkF m 63 #[.val (.int p0), .val (.int p1), .val (.int p2), .val (.int p3), .val (.int k), .val (.ref aIN_SERVICE_TOO_EARLY), .val t37, .val t41, .val (.ref b43), .val (.int (0 : Int32))] [(.int (0 : Int32))])
        refine own_by (T' := T50) (g' := (mkF m 65 #[.val (.int p0), .val (.int p1), .val (.int p2), .val (.int p3), .val (.int k), .val (.ref aIN_SERVICE_TOO_EARLY), .val t37, .val t41, .val (.ref b43), .val (.int (0 : Int32))] [(.int (0 : Int32)), (.int (0 : Int32))])) (fun _ kq => XS.iload X50.here hx rfl (hb hby at_63) rfl kq) ?_
        refine own_by (T' := T50) (g' := (mkF m 68 #[.val (.int p0), .val (.int p1), .val (.int p2), .val (.int p3), .val (.int k), .val (.ref aIN_SERVICE_TOO_EARLY), .val t37, .val t41, .val (.ref b43), .val (.int (0 : Int32))] [])) (fun _ kq => XS.icmpNo X50.here hx rfl (hb hby at_65) rfl (teq (by decide : (0 : Int32) = (0 : Int32))).2 kq) ?_
        refine own_by (T' := T50) (g' := (mkF m 69 #[.val (.int p0), .val (.int p1), .val (.int p2), .val (.int p3), .val (.int k), .val (.ref aIN_SERVICE_TOO_EARLY), .val t37, .val t41, .val (.ref b43), .val (.int (0 : Int32))] [(.int (1 : Int32))])) (fun _ kq => XS.iconst X50.here hx rfl (hb hby at_68) kq) ?_
        refine own_by (T' := T50) (g' := (mkF m 73 #[.val (.int p0), .val (.int p1), .val (.int p2), .val (.int p3), .val (.int k), .val (.ref aIN_SERVICE_TOO_EARLY), .val t37, .val t41, .val (.ref b43), .val (.int (0 : Int32))] [(.int (1 : Int32))])) (fun _ kq => XS.goto X50.here hx rfl (pc0 := 69) (pc' := 73) rfl (hb hby at_69) (by decide) (by decide) kq) ?_
        have hk51_ := (Nat.le_trans (Nat.le_trans (Nat.le_refl _) E43.1) Kq47.1)
        exact own_endW X50 hS (by rw [eh50]; exact hk51_) hZ hEL (by rw [hh]; rw [eh50]; exact C48) (v := some (.int (nar .boolean (1 : Int32)))) (fun h => by rw [Bd.returns] at h; cases h) hlk (fun hr => retN X50 hx (t := .boolean) Bd.returns (by simp) (hb hby at_73) hr) (by rw [eh50]; exact ⟨rfl, N50⟩) (by decide) (by decide)
      · skip
        by_cases hc52 : k = (3 : Int32)
        · skip
          refine own_by (T' := s₁) (g' := (mkF m 11 #[.val (.int p0), .val (.int p1), .val (.int p2), .val (.int p3), .val (.int k), .unset, .unset, .unset, .unset, .unset] [(.int k)])) (fun _ kq => XS.iload X0.here hx rfl (hb hby at_9) rfl kq) ?_
          refine own_callS X0 hx hZ (y := (⟨"com/example/abeyance/abeyance/records/VerdictAcceptedPinLaw", "pick", "(I)Lcom/example/abeyance/abeyance/records/Refusal;"⟩ : MethodName)) hown (hw _ (List.mem_of_getElem? (i := 1) rfl)) (hw _ (List.mem_of_getElem? (i := 2) rfl)) (hw _ (List.mem_of_getElem? (i := 3) rfl)) (hw _ (List.mem_of_getElem? (i := 4) rfl)) (by decide) (own_rm1 l Z a0 hw [] k aPERCENT_NOT_ALLOWED aTOO_LATE aIN_SERVICE_TOO_EARLY aINSTALLMENTS_NOT_ALLOWED aCHANGE_TOO_LATE aCHANGE_TOO_SHORT aCHANGE_NOT_ALLOWED h0 n0 Z0 (S_PERCENT_NOT_ALLOWED.ext O0.2) (S_TOO_LATE.ext O0.2) (S_IN_SERVICE_TOO_EARLY.ext O0.2) (S_INSTALLMENTS_NOT_ALLOWED.ext O0.2) (S_CHANGE_TOO_LATE.ext O0.2) (S_CHANGE_TOO_SHORT.ext O0.2) (S_CHANGE_NOT_ALLOWED.ext O0.2)) (by decide) (by decide) e0 (g := (mkF m 11 #[.val (.int p0), .val (.int p1), .val (.int p2), .val (.int p3), .val (.int k), .unset, .unset, .unset, .unset, .unset] [(.int k)])) rfl (by rw [hml]; rfl) (argsL := [(.int k)]) (rest := []) (lenOf own_pd__28I_29Lcom_2fexample_2fabeyance_2fabeyance_2frecords_2fRefusal_3b rfl) rfl (W := 0) (by show 2 * 0 + _ ≤ _; exact Nat.le_of_eq rfl) (hb hby at_11) rfl (by decide) (by decide) ?_
          rintro rv53 T53 L53 X53 ⟨hv53, Nq53, eh53⟩
          have N53 := Fr.app N0 Nq53
          rw [if_neg hc1, if_neg hc18, if_neg hc35, if_pos hc52] at hv53
          subst hv53
          show own_Fin p e below _ T53 (mkF m 14 #[.val (.int p0), .val (.int p1), .val (.int p2), .val (.int p3), .val (.int k), .unset, .unset, .unset, .unset, .unset] [(.ref aINSTALLMENTS_NOT_ALLOWED)])
          refine own_by (T' := T53) (g' := (mkF m 16 #[.val (.int p0), .val (.int p1), .val (.int p2), .val (.int p3), .val (.int k), .val (.ref aINSTALLMENTS_NOT_ALLOWED), .unset, .unset, .unset, .unset] [])) (fun _ kq => XS.astore X53.here hx rfl (hb hby at_14) rfl rfl (l' := #[.val (.int p0), .val (.int p1), .val (.int p2), .val (.int p3), .val (.int k), .val (.ref aINSTALLMENTS_NOT_ALLOWED), .unset, .unset, .unset, .unset]) rfl kq) ?_
          refine own_by (T' := T53) (g' := (mkF m 17 #[.val (.int p0), .val (.int p1), .val (.int p2), .val (.int p3), .val (.int k), .val (.ref aINSTALLMENTS_NOT_ALLOWED), .unset, .unset, .unset, .unset] [(.int p2)])) (fun _ kq => XS.iloadN X53.here hx rfl (hb hby at_16) rfl kq) ?_
          refine own_callSW X53 hx hZ (y := (⟨"com/example/abeyance/abeyance/records/VerdictAcceptedPinLaw", "text", "(I)Ljava/lang/String;"⟩ : MethodName)) hown (hw _ (List.mem_of_getElem? (i := 8) rfl)) (hw _ (List.mem_of_getElem? (i := 9) rfl)) (hw _ (List.mem_of_getElem? (i := 3) rfl)) (hw _ (List.mem_of_getElem? (i := 10) rfl)) (by decide) hS hk0 hEL C0.1 (own_rm2 l Z a0 hw [] p2 zCS h0 n0 (Nat.le_trans Z0 (Keep.refl h0 []).1) S_CS nCS O0) (by decide) (by decide) eh53 (g := (mkF m 17 #[.val (.int p0), .val (.int p1), .val (.int p2), .val (.int p3), .val (.int k), .val (.ref aINSTALLMENTS_NOT_ALLOWED), .unset, .unset, .unset, .unset] [(.int p2)])) rfl (by rw [hml]; rfl) (argsL := [(.int p2)]) (rest := []) (lenOf own_pd__28I_29Ljava_2flang_2fString_3b rfl) rfl (W := 0) (by show 2 * 0 + _ ≤ _; exact Nat.le_of_eq rfl) (hb hby at_17) rfl (by decide) (by decide) ?_
          rintro rv54 T54 L54 X54 hS hZ hown CH54 ⟨hv54, Nq54, Kq54⟩
          have N54 := Fr.app N53 Nq54
          obtain ⟨t54, rfl, ht54⟩ : ∃ t : Value, rv54 = some t ∧ t.isRef = true := hv54.elim (fun q => ⟨_, q, rfl⟩) (fun ⟨_, q⟩ => ⟨_, q, rfl⟩)
          show own_Fin p e below _ T54 (mkF m 20 #[.val (.int p0), .val (.int p1), .val (.int p2), .val (.int p3), .val (.int k), .val (.ref aINSTALLMENTS_NOT_ALLOWED), .unset, .unset, .unset, .unset] [t54])
          have C55 := C0.trans CH54
          refine own_by (T' := T54) (g' := (mkF m 22 #[.val (.int p0), .val (.int p1), .val (.int p2), .val (.int p3), .val (.int k), .val (.ref aINSTALLMENTS_NOT_ALLOWED), .val t54, .unset, .unset, .unset] [])) (fun _ kq => XS.astore X54.here hx rfl (hb hby at_20) rfl ht54 (l' := #[.val (.int p0), .val (.int p1), .val (.int p2), .val (.int p3), .val (.int k), .val (.ref aINSTALLMENTS_NOT_ALLOWED), .val t54, .unset, .unset, .unset]) (own_store1 rfl One.u (own_cat ht54) rfl) kq) ?_
          refine own_by (T' := T54) (g' := (mkF m 23 #[.val (.int p0), .val (.int p1), .val (.int p2), .val (.int p3), .val (.int k), .val (.ref aINSTALLMENTS_NOT_ALLOWED), .val t54, .unset, .unset, .unset] [(.int p3)])) (fun _ kq => XS.iloadN X54.here hx rfl (hb hby at_22) rfl kq) ?_
          have o56_ := (O0.keep Kq54 all0)
          have k57_ := ((Keep.refl h0 []).trans Kq54 all0)
          refine own_callSW X54 hx hZ (y := (⟨"com/example/abeyance/abeyance/records/VerdictAcceptedPinLaw", "text", "(I)Ljava/lang/String;"⟩ : MethodName)) hown (hw _ (List.mem_of_getElem? (i := 8) rfl)) (hw _ (List.mem_of_getElem? (i := 9) rfl)) (hw _ (List.mem_of_getElem? (i := 3) rfl)) (hw _ (List.mem_of_getElem? (i := 10) rfl)) (by decide) hS (Nat.le_refl _) hEL C55.1 (own_rm2 l Z a0 hw [] p3 zCS T54.heap n0 (Nat.le_trans Z0 k57_.1) S_CS nCS o56_) (by decide) (by decide) rfl (g := (mkF m 23 #[.val (.int p0), .val (.int p1), .val (.int p2), .val (.int p3), .val (.int k), .val (.ref aINSTALLMENTS_NOT_ALLOWED), .val t54, .unset, .unset, .unset] [(.int p3)])) rfl (by rw [hml]; rfl) (argsL := [(.int p3)]) (rest := []) (lenOf own_pd__28I_29Ljava_2flang_2fString_3b rfl) rfl (W := 0) (by show 2 * 0 + _ ≤ _; exact Nat.le_of_eq rfl) (hb hby at_23) rfl (by decide) (by decide) ?_
          rintro rv58 T58 L58 X58 hS hZ hown CH58 ⟨hv58, Nq58, Kq58⟩
          have N58 := Fr.app N54 Nq58
          obtain ⟨t58, rfl, ht58⟩ : ∃ t : Value, rv58 = some t ∧ t.isRef = true := hv58.elim (fun q => ⟨_, q, rfl⟩) (fun ⟨_, q⟩ => ⟨_, q, rfl⟩)
          show own_Fin p e below _ T58 (mkF m 26 #[.val (.int p0), .val (.int p1), .val (.int p2), .val (.int p3), .val (.int k), .val (.ref aINSTALLMENTS_NOT_ALLOWED), .val t54, .unset, .unset, .unset] [t58])
          have C59 := C55.trans CH58
          refine own_by (T' := T58) (g' := (mkF m 28 #[.val (.int p0), .val (.int p1), .val (.int p2), .val (.int p3), .val (.int k), .val (.ref aINSTALLMENTS_NOT_ALLOWED), .val t54, .val t58, .unset, .unset] [])) (fun _ kq => XS.astore X58.here hx rfl (hb hby at_26) rfl ht58 (l' := #[.val (.int p0), .val (.int p1), .val (.int p2), .val (.int p3), .val (.int k), .val (.ref aINSTALLMENTS_NOT_ALLOWED), .val t54, .val t58, .unset, .unset]) (own_store1 rfl One.u (own_cat ht58) rfl) kq) ?_
          obtain ⟨T60, h60, X60, e60, E60, A60, D60, U60, st60⟩ := newO X58 hx hZ hown (hw _ (List.mem_of_getElem? (i := 11) rfl)) (hw _ (List.mem_of_getElem? (i := 12) rfl)) (hw _ (List.mem_of_getElem? (i := 13) rfl)) rfl (g := (mkF m 28 #[.val (.int p0), .val (.int p1), .val (.int p2), .val (.int p3), .val (.int k), .val (.ref aINSTALLMENTS_NOT_ALLOWED), .val t54, .val t58, .unset, .unset] [])) rfl (hb hby at_28) (by decide) (by decide)
          obtain ⟨b60, g60⟩ : ∃ z, z = T58.heap.size := ⟨_, rfl⟩
          rw [← g60] at A60 D60 U60 st60
          have k61_ := (k57_.trans Kq58 all0)
          have g_b60 : n0 ≤ b60 := Nat.le_trans (Nat.le_trans Z0 k61_.1) (Nat.le_of_eq g60.symm)
          have sz_b60 : h0.size ≤ b60 := Nat.le_trans k61_.1 (Nat.le_of_eq g60.symm)
          have sf_b60 : Safe Z consts_1 T58.vm T58.heap b60 := Safe.new (Nat.le_of_eq g60.symm)
          have C62 := C59.trans (CHr.ext E60 C59.1)
          have F_file_b60 : Fld Z h60 b60 "com/example/abeyance/abeyance/records/Verdict" "file" "Ljava/lang/String;" .null := D60 (Or.inr (hw _ (List.mem_of_getElem? (i := 26) rfl))) (ty := (.object "java/lang/String")) (by decide)
          have F_line_b60 : Fld Z h60 b60 "com/example/abeyance/abeyance/records/Verdict" "line" "I" (.int (0 : Int32)) := D60 (Or.inr (hw _ (List.mem_of_getElem? (i := 28) rfl))) (ty := .int) (by decide)
          have F_participant_b60 : Fld Z h60 b60 "com/example/abeyance/abeyance/records/Verdict" "participant" "Ljava/lang/String;" .null := D60 (Or.inr (hw _ (List.mem_of_getElem? (i := 30) rfl))) (ty := (.object "java/lang/String")) (by decide)
          have F_refusal_b60 : Fld Z h60 b60 "com/example/abeyance/abeyance/records/Verdict" "refusal" "Lcom/example/abeyance/abeyance/records/Refusal;" .null := D60 (Or.inr (hw _ (List.mem_of_getElem? (i := 32) rfl))) (ty := (.object "com/example/abeyance/abeyance/records/Refusal")) (by decide)
          refine own_by (T' := T60) (g' := (mkF m 31 #[.val (.int p0), .val (.int p1), .val (.int p2), .val (.int p3), .val (.int k), .val (.ref aINSTALLMENTS_NOT_ALLOWED), .val t54, .val t58, .unset, .unset] [(.ref b60)])) st60 ?_
          refine own_by (T' := T60) (g' := (mkF m 32 #[.val (.int p0), .val (.int p1), .val (.int p2), .val (.int p3), .val (.int k), .val (.ref aINSTALLMENTS_NOT_ALLOWED), .val t54, .val t58, .unset, .unset] [(.ref b60), (.ref b60)])) (fun _ kq => XS.dup X60.here hx rfl (hb hby at_31) rfl rfl kq) ?_
          refine own_by (T' := T60) (g' := (mkF m 34 #[.val (.int p0), .val (.int p1), .val (.int p2), .val (.int p3), .val (.int k), .val (.ref aINSTALLMENTS_NOT_ALLOWED), .val t54, .val t58, .unset, .unset] [t54, (.ref b60), (.ref b60)])) (fun _ kq => XS.aload X60.here hx rfl (hb hby at_32) rfl ht54 kq) ?_
          refine own_by (T' := T60) (g' := (mkF m 35 #[.val (.int p0), .val (.int p1), .val (.int p2), .val (.int p3), .val (.int k), .val (.ref aINSTALLMENTS_NOT_ALLOWED), .val t54, .val t58, .unset, .unset] [(.int p1), t54, (.ref b60), (.ref b60)])) (fun _ kq => XS.iloadN X60.here hx rfl (hb hby at_34) rfl kq) ?_
          refine own_by (T' := T60) (g' := (mkF m 37 #[.val (.int p0), .val (.int p1), .val (.int p2), .val (.int p3), .val (.int k), .val (.ref aINSTALLMENTS_NOT_ALLOWED), .val t54, .val t58, .unset, .unset] [t58, (.int p1), t54, (.ref b60), (.ref b60)])) (fun _ kq => XS.aload X60.here hx rfl (hb hby at_35) rfl ht58 kq) ?_
          refine own_by (T' := T60) (g' := (mkF m 39 #[.val (.int p0), .val (.int p1), .val (.int p2), .val (.int p3), .val (.int k), .val (.ref aINSTALLMENTS_NOT_ALLOWED), .val t54, .val t58, .unset, .unset] [(.ref aINSTALLMENTS_NOT_ALLOWED), t58, (.int p1), t54, (.ref b60), (.ref b60)])) (fun _ kq => XS.aload X60.here hx rfl (hb hby at_37) rfl rfl kq) ?_
          have k63_ := (k61_.ext E60)
          refine own_callI X60 hx hZ (y := (⟨"com/example/abeyance/abeyance/records/Verdict", "<init>", "(Ljava/lang/String;ILjava/lang/String;Lcom/example/abeyance/abeyance/records/Refusal;)V"⟩ : MethodName)) rfl hown (hw _ (List.mem_of_getElem? (i := 14) rfl)) (hw _ (List.mem_of_getElem? (i := 15) rfl)) (hw _ (List.mem_of_getElem? (i := 16) rfl)) (hw _ (List.mem_of_getElem? (i := 13) rfl)) (by decide) (own_rm3 l Z a0 hw [] b60 t54 p1 t58 (.ref aINSTALLMENTS_NOT_ALLOWED) h60 n0 (Nat.le_trans Z0 k63_.1) ht54 ht58 rfl A60 g_b60 F_file_b60 F_line_b60 F_participant_b60 F_refusal_b60) (by decide) (by decide) e60 (g := (mkF m 39 #[.val (.int p0), .val (.int p1), .val (.int p2), .val (.int p3), .val (.int k), .val (.ref aINSTALLMENTS_NOT_ALLOWED), .val t54, .val t58, .unset, .unset] [(.ref aINSTALLMENTS_NOT_ALLOWED), t58, (.int p1), t54, (.ref b60), (.ref b60)])) rfl (by rw [hml]; rfl) (argsL := [t54, (.int p1), t58, (.ref aINSTALLMENTS_NOT_ALLOWED)]) (rest := [(.ref b60)]) (lenOf own_pd__28Ljava_2flang_2fString_3bILjava_2flang_2fString_3bLcom_2fexample_2fabeyance_2fabeyance_2frecords_2fRefusal_3b_29V rfl) rfl (W := 1) (by show 2 * 0 + _ ≤ _; exact Nat.le_of_eq rfl) (hb hby at_39) rfl (by decide) (by decide) ?_
          rintro rv64 T64 L64 X64 ⟨rfl, Nq64, Kq64, Eq64, Fq64⟩
          have N64 := Fr.app N58 Nq64
          show own_Fin p e below _ T64 (mkF m 42 #[.val (.int p0), .val (.int p1), .val (.int p2), .val (.int p3), .val (.int k), .val (.ref aINSTALLMENTS_NOT_ALLOWED), .val t54, .val t58, .unset, .unset] [(.ref b60)])
          have C65 := C62.trans (CHr.keep Kq64 (sfS (Safe.exa hZ.alike A60 (by decide) (by decide)) sf0) C62.1)
          refine own_by (T' := T64) (g' := (mkF m 44 #[.val (.int p0), .val (.int p1), .val (.int p2), .val (.int p3), .val (.int k), .val (.ref aINSTALLMENTS_NOT_ALLOWED), .val t54, .val t58, .val (.ref b60), .unset] [])) (fun _ kq => XS.astore X64.here hx rfl (hb hby at_42) rfl rfl (l' := #[.val (.int p0), .val (.int p1), .val (.int p2), .val (.int p3), .val (.int k), .val (.ref aINSTALLMENTS_NOT_ALLOWED), .val t54, .val t58, .val (.ref b60), .unset]) rfl kq) ?_
          refine own_by (T' := T64) (g' := (mkF m 46 #[.val (.int p0), .val (.int p1), .val (.int p2), .val (.int p3), .val (.int k), .val (.ref aINSTALLMENTS_NOT_ALLOWED), .val t54, .val t58, .val (.ref b60), .unset] [(.int k)])) (fun _ kq => XS.iload X64.here hx rfl (hb hby at_44) rfl kq) ?_
          refine own_by (T' := T64) (g' := (mkF m 48 #[.val (.int p0), .val (.int p1), .val (.int p2), .val (.int p3), .val (.int k), .val (.ref aINSTALLMENTS_NOT_ALLOWED), .val t54, .val t58, .val (.ref b60), .unset] [(.int (7 : Int32)), (.int k)])) (fun _ kq => XS.bipush X64.here hx rfl (hb hby at_46) kq) ?_
          refine own_by (T' := T64) (g' := (mkF m 55 #[.val (.int p0), .val (.int p1), .val (.int p2), .val (.int p3), .val (.int k), .val (.ref aINSTALLMENTS_NOT_ALLOWED), .val t54, .val t58, .val (.ref b60), .unset] [])) (fun _ kq => XS.icmpYes X64.here hx rfl (pc0 := 48) (pc' := 55) rfl (hb hby at_48) rfl (feq (own_clash hc52 (by decide))).2 (by decide) (by decide) kq) ?_
          refine own_by (T' := T64) (g' := (mkF m 56 #[.val (.int p0), .val (.int p1), .val (.int p2), .val (.int p3), .val (.int k), .val (.ref aINSTALLMENTS_NOT_ALLOWED), .val t54, .val t58, .val (.ref b60), .unset] [(.int (0 : Int32))])) (fun _ kq => XS.iconst X64.here hx rfl (hb hby at_55) kq) ?_
          refine own_by (T' := T64) (g' := (mkF m 58 #[.val (.int p0), .val (.int p1), .val (.int p2), .val (.int p3), .val (.int k), .val (.ref aINSTALLMENTS_NOT_ALLOWED), .val t54, .val t58, .val (.ref b60), .val (.int (0 : Int32))] [])) (fun _ kq => XS.istore X64.here hx rfl (hb hby at_56) rfl (l' := #[.val (.int p0), .val (.int p1), .val (.int p2), .val (.int p3), .val (.int k), .val (.ref aINSTALLMENTS_NOT_ALLOWED), .val t54, .val t58, .val (.ref b60), .val (.int (0 : Int32))]) rfl kq) ?_
          refine own_by (T' := T64) (g' := (mkF m 60 #[.val (.int p0), .val (.int p1), .val (.int p2), .val (.int p3), .val (.int k), .val (.ref aINSTALLMENTS_NOT_ALLOWED), .val t54, .val t58, .val (.ref b60), .val (.int (0 : Int32))] [(.ref b60)])) (fun _ kq => XS.aload X64.here hx rfl (hb hby at_58) rfl rfl kq) ?_
          have k66_ := (k63_.trans Kq64 (allS (Or.inr sz_b60) all0))
          refine own_callV X64 hx hZ (y := (⟨"com/example/abeyance/abeyance/records/Verdict", "accepted", "()Z"⟩ : MethodName)) (z := (⟨"com/example/abeyance/abeyance/records/Verdict", "accepted", "()Z"⟩ : MethodName)) hown (hw _ (List.mem_of_getElem? (i := 33) rfl)) (hw _ (List.mem_of_getElem? (i := 34) rfl)) (own_nf (hw _ (List.mem_of_getElem? (i := 36) rfl))) (hw _ (List.mem_of_getElem? (i := 36) rfl)) (hw _ (List.mem_of_getElem? (i := 35) rfl)) (hw _ (List.mem_of_getElem? (i := 37) rfl)) (hw _ (List.mem_of_getElem? (i := 13) rfl)) (by decide) Eq64 (own_rm6r l Z a0 hw [] b60 aINSTALLMENTS_NOT_ALLOWED T64.heap n0 (Nat.le_trans Z0 k66_.1) Fq64) (by decide) (by decide) rfl (g := (mkF m 60 #[.val (.int p0), .val (.int p1), .val (.int p2), .val (.int p3), .val (.int k), .val (.ref aINSTALLMENTS_NOT_ALLOWED), .val t54, .val t58, .val (.ref b60), .val (.int (0 : Int32))] [(.ref b60)])) rfl (by rw [hml]; rfl) (argsL := []) (rest := []) (lenOf own_pd__28_29Z rfl) rfl (W := 0) (by show 2 * 0 + _ ≤ _; exact Nat.le_of_eq rfl) (hb hby at_60) rfl (by decide) (by decide) ?_
          rintro rv67 T67 L67 X67 ⟨rfl, Nq67, eh67⟩
          have N67 := Fr.app N64 Nq67
          show own_Fin p e below _ T67 (mkF m 63 #[.val (.int p0), .val (.int p1), .val (.int p2), .val (.int p3), .val (.int k), .val (.ref aINSTALLMENTS_NOT_ALLOWED), .val t54, .val t58, .val (.ref b60), .val (.int (0 : Int32))] [(.int (0 : Int32))])
          refine own_by (T' := T67) (g' := (mkF m 65 #[.val (.int p0), .val (.int p1), .val (.int p2), .val (.int p3), .val (.int k), .val (.ref aINSTALLMENTS_NOT_ALLOWED), .val t54, .val t58, .val (.ref b60), .val (.int (0 : Int32))] [(.int (0 : Int32)), (.int (0 : Int32))])) (fun _ kq => XS.iload X67.here hx rfl (hb hby at_63) rfl kq) ?_
          refine own_by (T' := T67) (g' := (mkF m 68 #[.val (.int p0), .val (.int p1), .val (.int p2), .val (.int p3), .val (.int k), .val (.ref aINSTALLMENTS_NOT_ALLOWED), .val t54, .val t58, .val (.ref b60), .val (.int (0 : Int32))] [])) (fun _ kq => XS.icmpNo X67.here hx rfl (hb hby at_65) rfl (teq (by decide : (0 : Int32) = (0 : Int32))).2 kq) ?_
          refine own_by (T' := T67) (g' := (mkF m 69 #[.val (.int p0), .val (.int p1), .val (.int p2), .val (.int p3), .val (.int k), .val (.ref aINSTALLMENTS_NOT_ALLOWED), .val t54, .val t58, .val (.ref b60), .val (.int (0 : Int32))] [(.int (1 : Int32))])) (fun _ kq => XS.iconst X67.here hx rfl (hb hby at_68) kq) ?_
          refine own_by (T' := T67) (g' := (mkF m 73 #[.val (.int p0), .val (.int p1), .val (.int p2), .val (.int p3), .val (.int k), .val (.ref aINSTALLMENTS_NOT_ALLOWED), .val t54, .val t58, .val (.ref b60), .val (.int (0 : Int32))] [(.int (1 : Int32))])) (fun _ kq => XS.goto X67.here hx rfl (pc0 := 69) (pc' := 73) rfl (hb hby at_69) (by decide) (by decide) kq) ?_
          have hk68_ := (Nat.le_trans (Nat.le_trans (Nat.le_refl _) E60.1) Kq64.1)
          exact own_endW X67 hS (by rw [eh67]; exact hk68_) hZ hEL (by rw [hh]; rw [eh67]; exact C65) (v := some (.int (nar .boolean (1 : Int32)))) (fun h => by rw [Bd.returns] at h; cases h) hlk (fun hr => retN X67 hx (t := .boolean) Bd.returns (by simp) (hb hby at_73) hr) (by rw [eh67]; exact ⟨rfl, N67⟩) (by decide) (by decide)
        · skip
          by_cases hc69 : k = (4 : Int32)
          · skip
            refine own_by (T' := s₁) (g' := (mkF m 11 #[.val (.int p0), .val (.int p1), .val (.int p2), .val (.int p3), .val (.int k), .unset, .unset, .unset, .unset, .unset] [(.int k)])) (fun _ kq => XS.iload X0.here hx rfl (hb hby at_9) rfl kq) ?_
            refine own_callS X0 hx hZ (y := (⟨"com/example/abeyance/abeyance/records/VerdictAcceptedPinLaw", "pick", "(I)Lcom/example/abeyance/abeyance/records/Refusal;"⟩ : MethodName)) hown (hw _ (List.mem_of_getElem? (i := 1) rfl)) (hw _ (List.mem_of_getElem? (i := 2) rfl)) (hw _ (List.mem_of_getElem? (i := 3) rfl)) (hw _ (List.mem_of_getElem? (i := 4) rfl)) (by decide) (own_rm1 l Z a0 hw [] k aPERCENT_NOT_ALLOWED aTOO_LATE aIN_SERVICE_TOO_EARLY aINSTALLMENTS_NOT_ALLOWED aCHANGE_TOO_LATE aCHANGE_TOO_SHORT aCHANGE_NOT_ALLOWED h0 n0 Z0 (S_PERCENT_NOT_ALLOWED.ext O0.2) (S_TOO_LATE.ext O0.2) (S_IN_SERVICE_TOO_EARLY.ext O0.2) (S_INSTALLMENTS_NOT_ALLOWED.ext O0.2) (S_CHANGE_TOO_LATE.ext O0.2) (S_CHANGE_TOO_SHORT.ext O0.2) (S_CHANGE_NOT_ALLOWED.ext O0.2)) (by decide) (by decide) e0 (g := (mkF m 11 #[.val (.int p0), .val (.int p1), .val (.int p2), .val (.int p3), .val (.int k), .unset, .unset, .unset, .unset, .unset] [(.int k)])) rfl (by rw [hml]; rfl) (argsL := [(.int k)]) (rest := []) (lenOf own_pd__28I_29Lcom_2fexample_2fabeyance_2fabeyance_2frecords_2fRefusal_3b rfl) rfl (W := 0) (by show 2 * 0 + _ ≤ _; exact Nat.le_of_eq rfl) (hb hby at_11) rfl (by decide) (by decide) ?_
            rintro rv70 T70 L70 X70 ⟨hv70, Nq70, eh70⟩
            have N70 := Fr.app N0 Nq70
            rw [if_neg hc1, if_neg hc18, if_neg hc35, if_neg hc52, if_pos hc69] at hv70
            subst hv70
            show own_Fin p e below _ T70 (mkF m 14 #[.val (.int p0), .val (.int p1), .val (.int p2), .val (.int p3), .val (.int k), .unset, .unset, .unset, .unset, .unset] [(.ref aCHANGE_TOO_LATE)])
            refine own_by (T' := T70) (g' := (mkF m 16 #[.val (.int p0), .val (.int p1), .val (.int p2), .val (.int p3), .val (.int k), .val (.ref aCHANGE_TOO_LATE), .unset, .unset, .unset, .unset] [])) (fun _ kq => XS.astore X70.here hx rfl (hb hby at_14) rfl rfl (l' := #[.val (.int p0), .val (.int p1), .val (.int p2), .val (.int p3), .val (.int k), .val (.ref aCHANGE_TOO_LATE), .unset, .unset, .unset, .unset]) rfl kq) ?_
            refine own_by (T' := T70) (g' := (mkF m 17 #[.val (.int p0), .val (.int p1), .val (.int p2), .val (.int p3), .val (.int k), .val (.ref aCHANGE_TOO_LATE), .unset, .unset, .unset, .unset] [(.int p2)])) (fun _ kq => XS.iloadN X70.here hx rfl (hb hby at_16) rfl kq) ?_
            refine own_callSW X70 hx hZ (y := (⟨"com/example/abeyance/abeyance/records/VerdictAcceptedPinLaw", "text", "(I)Ljava/lang/String;"⟩ : MethodName)) hown (hw _ (List.mem_of_getElem? (i := 8) rfl)) (hw _ (List.mem_of_getElem? (i := 9) rfl)) (hw _ (List.mem_of_getElem? (i := 3) rfl)) (hw _ (List.mem_of_getElem? (i := 10) rfl)) (by decide) hS hk0 hEL C0.1 (own_rm2 l Z a0 hw [] p2 zCS h0 n0 (Nat.le_trans Z0 (Keep.refl h0 []).1) S_CS nCS O0) (by decide) (by decide) eh70 (g := (mkF m 17 #[.val (.int p0), .val (.int p1), .val (.int p2), .val (.int p3), .val (.int k), .val (.ref aCHANGE_TOO_LATE), .unset, .unset, .unset, .unset] [(.int p2)])) rfl (by rw [hml]; rfl) (argsL := [(.int p2)]) (rest := []) (lenOf own_pd__28I_29Ljava_2flang_2fString_3b rfl) rfl (W := 0) (by show 2 * 0 + _ ≤ _; exact Nat.le_of_eq rfl) (hb hby at_17) rfl (by decide) (by decide) ?_
            rintro rv71 T71 L71 X71 hS hZ hown CH71 ⟨hv71, Nq71, Kq71⟩
            have N71 := Fr.app N70 Nq71
            obtain ⟨t71, rfl, ht71⟩ : ∃ t : Value, rv71 = some t ∧ t.isRef = true := hv71.elim (fun q => ⟨_, q, rfl⟩) (fun ⟨_, q⟩ => ⟨_, q, rfl⟩)
            show own_Fin p e below _ T71 (mkF m 20 #[.val (.int p0), .val (.int p1), .val (.int p2), .val (.int p3), .val (.int k), .val (.ref aCHANGE_TOO_LATE), .unset, .unset, .unset, .unset] [t71])
            have C72 := C0.trans CH71
            refine own_by (T' := T71) (g' := (mkF m 22 #[.val (.int p0), .val (.int p1), .val (.int p2), .val (.int p3), .val (.int k), .val (.ref aCHANGE_TOO_LATE), .val t71, .unset, .unset, .unset] [])) (fun _ kq => XS.astore X71.here hx rfl (hb hby at_20) rfl ht71 (l' := #[.val (.int p0), .val (.int p1), .val (.int p2), .val (.int p3), .val (.int k), .val (.ref aCHANGE_TOO_LATE), .val t71, .unset, .unset, .unset]) (own_store1 rfl One.u (own_cat ht71) rfl) kq) ?_
            refine own_by (T' := T71) (g' := (mkF m 23 #[.val (.int p0), .val (.int p1), .val (.int p2), .val (.int p3), .val (.int k), .val (.ref aCHANGE_TOO_LATE), .val t71, .unset, .unset, .unset] [(.int p3)])) (fun _ kq => XS.iloadN X71.here hx rfl (hb hby at_22) rfl kq) ?_
            have o73_ := (O0.keep Kq71 all0)
            have k74_ := ((Keep.refl h0 []).trans Kq71 all0)
            refine own_callSW X71 hx hZ (y := (⟨"com/example/abeyance/abeyance/records/VerdictAcceptedPinLaw", "text", "(I)Ljava/lang/String;"⟩ : MethodName)) hown (hw _ (List.mem_of_getElem? (i := 8) rfl)) (hw _ (List.mem_of_getElem? (i := 9) rfl)) (hw _ (List.mem_of_getElem? (i := 3) rfl)) (hw _ (List.mem_of_getElem? (i := 10) rfl)) (by decide) hS (Nat.le_refl _) hEL C72.1 (own_rm2 l Z a0 hw [] p3 zCS T71.heap n0 (Nat.le_trans Z0 k74_.1) S_CS nCS o73_) (by decide) (by decide) rfl (g := (mkF m 23 #[.val (.int p0), .val (.int p1), .val (.int p2), .val (.int p3), .val (.int k), .val (.ref aCHANGE_TOO_LATE), .val t71, .unset, .unset, .unset] [(.int p3)])) rfl (by rw [hml]; rfl) (argsL := [(.int p3)]) (rest := []) (lenOf own_pd__28I_29Ljava_2flang_2fString_3b rfl) rfl (W := 0) (by show 2 * 0 + _ ≤ _; exact Nat.le_of_eq rfl) (hb hby at_23) rfl (by decide) (by decide) ?_
            rintro rv75 T75 L75 X75 hS hZ hown CH75 ⟨hv75, Nq75, Kq75⟩
            have N75 := Fr.app N71 Nq75
            obtain ⟨t75, rfl, ht75⟩ : ∃ t : Value, rv75 = some t ∧ t.isRef = true := hv75.elim (fun q => ⟨_, q, rfl⟩) (fun ⟨_, q⟩ => ⟨_, q, rfl⟩)
            show own_Fin p e below _ T75 (mkF m 26 #[.val (.int p0), .val (.int p1), .val (.int p2), .val (.int p3), .val (.int k), .val (.ref aCHANGE_TOO_LATE), .val t71, .unset, .unset, .unset] [t75])
            have C76 := C72.trans CH75
            refine own_by (T' := T75) (g' := (mkF m 28 #[.val (.int p0), .val (.int p1), .val (.int p2), .val (.int p3), .val (.int k), .val (.ref aCHANGE_TOO_LATE), .val t71, .val t75, .unset, .unset] [])) (fun _ kq => XS.astore X75.here hx rfl (hb hby at_26) rfl ht75 (l' := #[.val (.int p0), .val (.int p1), .val (.int p2), .val (.int p3), .val (.int k), .val (.ref aCHANGE_TOO_LATE), .val t71, .val t75, .unset, .unset]) (own_store1 rfl One.u (own_cat ht75) rfl) kq) ?_
            obtain ⟨T77, h77, X77, e77, E77, A77, D77, U77, st77⟩ := newO X75 hx hZ hown (hw _ (List.mem_of_getElem? (i := 11) rfl)) (hw _ (List.mem_of_getElem? (i := 12) rfl)) (hw _ (List.mem_of_getElem? (i := 13) rfl)) rfl (g := (mkF m 28 #[.val (.int p0), .val (.int p1), .val (.int p2), .val (.int p3), .val (.int k), .val (.ref aCHANGE_TOO_LATE), .val t71, .val t75, .unset, .unset] [])) rfl (hb hby at_28) (by decide) (by decide)
            obtain ⟨b77, g77⟩ : ∃ z, z = T75.heap.size := ⟨_, rfl⟩
            rw [← g77] at A77 D77 U77 st77
            have k78_ := (k74_.trans Kq75 all0)
            have g_b77 : n0 ≤ b77 := Nat.le_trans (Nat.le_trans Z0 k78_.1) (Nat.le_of_eq g77.symm)
            have sz_b77 : h0.size ≤ b77 := Nat.le_trans k78_.1 (Nat.le_of_eq g77.symm)
            have sf_b77 : Safe Z consts_1 T75.vm T75.heap b77 := Safe.new (Nat.le_of_eq g77.symm)
            have C79 := C76.trans (CHr.ext E77 C76.1)
            have F_file_b77 : Fld Z h77 b77 "com/example/abeyance/abeyance/records/Verdict" "file" "Ljava/lang/String;" .null := D77 (Or.inr (hw _ (List.mem_of_getElem? (i := 26) rfl))) (ty := (.object "java/lang/String")) (by decide)
            have F_line_b77 : Fld Z h77 b77 "com/example/abeyance/abeyance/records/Verdict" "line" "I" (.int (0 : Int32)) := D77 (Or.inr (hw _ (List.mem_of_getElem? (i := 28) rfl))) (ty := .int) (by decide)
            have F_participant_b77 : Fld Z h77 b77 "com/example/abeyance/abeyance/records/Verdict" "participant" "Ljava/lang/String;" .null := D77 (Or.inr (hw _ (List.mem_of_getElem? (i := 30) rfl))) (ty := (.object "java/lang/String")) (by decide)
            have F_refusal_b77 : Fld Z h77 b77 "com/example/abeyance/abeyance/records/Verdict" "refusal" "Lcom/example/abeyance/abeyance/records/Refusal;" .null := D77 (Or.inr (hw _ (List.mem_of_getElem? (i := 32) rfl))) (ty := (.object "com/example/abeyance/abeyance/records/Refusal")) (by decide)
            refine own_by (T' := T77) (g' := (mkF m 31 #[.val (.int p0), .val (.int p1), .val (.int p2), .val (.int p3), .val (.int k), .val (.ref aCHANGE_TOO_LATE), .val t71, .val t75, .unset, .unset] [(.ref b77)])) st77 ?_
            refine own_by (T' := T77) (g' := (mkF m 32 #[.val (.int p0), .val (.int p1), .val (.int p2), .val (.int p3), .val (.int k), .val (.ref aCHANGE_TOO_LATE), .val t71, .val t75, .unset, .unset] [(.ref b77), (.ref b77)])) (fun _ kq => XS.dup X77.here hx rfl (hb hby at_31) rfl rfl kq) ?_
            refine own_by (T' := T77) (g' := (mkF m 34 #[.val (.int p0), .val (.int p1), .val (.int p2), .val (.int p3), .val (.int k), .val (.ref aCHANGE_TOO_LATE), .val t71, .val t75, .unset, .unset] [t71, (.ref b77), (.ref b77)])) (fun _ kq => XS.aload X77.here hx rfl (hb hby at_32) rfl ht71 kq) ?_
            refine own_by (T' := T77) (g' := (mkF m 35 #[.val (.int p0), .val (.int p1), .val (.int p2), .val (.int p3), .val (.int k), .val (.ref aCHANGE_TOO_LATE), .val t71, .val t75, .unset, .unset] [(.int p1), t71, (.ref b77), (.ref b77)])) (fun _ kq => XS.iloadN X77.here hx rfl (hb hby at_34) rfl kq) ?_
            refine own_by (T' := T77) (g' := (mkF m 37 #[.val (.int p0), .val (.int p1), .val (.int p2), .val (.int p3), .val (.int k), .val (.ref aCHANGE_TOO_LATE), .val t71, .val t75, .unset, .unset] [t75, (.int p1), t71, (.ref b77), (.ref b77)])) (fun _ kq => XS.aload X77.here hx rfl (hb hby at_35) rfl ht75 kq) ?_
            refine own_by (T' := T77) (g' := (mkF m 39 #[.val (.int p0), .val (.int p1), .val (.int p2), .val (.int p3), .val (.int k), .val (.ref aCHANGE_TOO_LATE), .val t71, .val t75, .unset, .unset] [(.ref aCHANGE_TOO_LATE), t75, (.int p1), t71, (.ref b77), (.ref b77)])) (fun _ kq => XS.aload X77.here hx rfl (hb hby at_37) rfl rfl kq) ?_
            have k80_ := (k78_.ext E77)
            refine own_callI X77 hx hZ (y := (⟨"com/example/abeyance/abeyance/records/Verdict", "<init>", "(Ljava/lang/String;ILjava/lang/String;Lcom/example/abeyance/abeyance/records/Refusal;)V"⟩ : MethodName)) rfl hown (hw _ (List.mem_of_getElem? (i := 14) rfl)) (hw _ (List.mem_of_getElem? (i := 15) rfl)) (hw _ (List.mem_of_getElem? (i := 16) rfl)) (hw _ (List.mem_of_getElem? (i := 13) rfl)) (by decide) (own_rm3 l Z a0 hw [] b77 t71 p1 t75 (.ref aCHANGE_TOO_LATE) h77 n0 (Nat.le_trans Z0 k80_.1) ht71 ht75 rfl A77 g_b77 F_file_b77 F_line_b77 F_participant_b77 F_refusal_b77) (by decide) (by decide) e77 (g := (mkF m 39 #[.val (.int p0), .val (.int p1), .val (.int p2), .val (.int p3), .val (.int k), .val (.ref aCHANGE_TOO_LATE), .val t71, .val t75, .unset, .unset] [(.ref aCHANGE_TOO_LATE), t75, (.int p1), t71, (.ref b77), (.ref b77)])) rfl (by rw [hml]; rfl) (argsL := [t71, (.int p1), t75, (.ref aCHANGE_TOO_LATE)]) (rest := [(.ref b77)]) (lenOf own_pd__28Ljava_2flang_2fString_3bILjava_2flang_2fString_3bLcom_2fexample_2fabeyance_2fabeyance_2frecords_2fRefusal_3b_29V rfl) rfl (W := 1) (by show 2 * 0 + _ ≤ _; exact Nat.le_of_eq rfl) (hb hby at_39) rfl (by decide) (by decide) ?_
            rintro rv81 T81 L81 X81 ⟨rfl, Nq81, Kq81, Eq81, Fq81⟩
            have N81 := Fr.app N75 Nq81
            show own_Fin p e below _ T81 (mkF m 42 #[.val (.int p0), .val (.int p1), .val (.int p2), .val (.int p3), .val (.int k), .val (.ref aCHANGE_TOO_LATE), .val t71, .val t75, .unset, .unset] [(.ref b77)])
            have C82 := C79.trans (CHr.keep Kq81 (sfS (Safe.exa hZ.alike A77 (by decide) (by decide)) sf0) C79.1)
            refine own_by (T' := T81) (g' := (mkF m 44 #[.val (.int p0), .val (.int p1), .val (.int p2), .val (.int p3), .val (.int k), .val (.ref aCHANGE_TOO_LATE), .val t71, .val t75, .val (.ref b77), .unset] [])) (fun _ kq => XS.astore X81.here hx rfl (hb hby at_42) rfl rfl (l' := #[.val (.int p0), .val (.int p1), .val (.int p2), .val (.int p3), .val (.int k), .val (.ref aCHANGE_TOO_LATE), .val t71, .val t75, .val (.ref b77), .unset]) rfl kq) ?_
            refine own_by (T' := T81) (g' := (mkF m 46 #[.val (.int p0), .val (.int p1), .val (.int p2), .val (.int p3), .val (.int k), .val (.ref aCHANGE_TOO_LATE), .val t71, .val t75, .val (.ref b77), .unset] [(.int k)])) (fun _ kq => XS.iload X81.here hx rfl (hb hby at_44) rfl kq) ?_
            refine own_by (T' := T81) (g' := (mkF m 48 #[.val (.int p0), .val (.int p1), .val (.int p2), .val (.int p3), .val (.int k), .val (.ref aCHANGE_TOO_LATE), .val t71, .val t75, .val (.ref b77), .unset] [(.int (7 : Int32)), (.int k)])) (fun _ kq => XS.bipush X81.here hx rfl (hb hby at_46) kq) ?_
            refine own_by (T' := T81) (g' := (mkF m 55 #[.val (.int p0), .val (.int p1), .val (.int p2), .val (.int p3), .val (.int k), .val (.ref aCHANGE_TOO_LATE), .val t71, .val t75, .val (.ref b77), .unset] [])) (fun _ kq => XS.icmpYes X81.here hx rfl (pc0 := 48) (pc' := 55) rfl (hb hby at_48) rfl (feq (own_clash hc69 (by decide))).2 (by decide) (by decide) kq) ?_
            refine own_by (T' := T81) (g' := (mkF m 56 #[.val (.int p0), .val (.int p1), .val (.int p2), .val (.int p3), .val (.int k), .val (.ref aCHANGE_TOO_LATE), .val t71, .val t75, .val (.ref b77), .unset] [(.int (0 : Int32))])) (fun _ kq => XS.iconst X81.here hx rfl (hb hby at_55) kq) ?_
            refine own_by (T' := T81) (g' := (mkF m 58 #[.val (.int p0), .val (.int p1), .val (.int p2), .val (.int p3), .val (.int k), .val (.ref aCHANGE_TOO_LATE), .val t71, .val t75, .val (.ref b77), .val (.int (0 : Int32))] [])) (fun _ kq => XS.istore X81.here hx rfl (hb hby at_56) rfl (l' := #[.val (.int p0), .val (.int p1), .val (.int p2), .val (.int p3), .val (.int k), .val (.ref aCHANGE_TOO_LATE), .val t71, .val t75, .val (.ref b77), .val (.int (0 : Int32))]) rfl kq) ?_
            refine own_by (T' := T81) (g' := (mkF m 60 #[.val (.int p0), .val (.int p1), .val (.int p2), .val (.int p3), .val (.int k), .val (.ref aCHANGE_TOO_LATE), .val t71, .val t75, .val (.ref b77), .val (.int (0 : Int32))] [(.ref b77)])) (fun _ kq => XS.aload X81.here hx rfl (hb hby at_58) rfl rfl kq) ?_
            have k83_ := (k80_.trans Kq81 (allS (Or.inr sz_b77) all0))
            refine own_callV X81 hx hZ (y := (⟨"com/example/abeyance/abeyance/records/Verdict", "accepted", "()Z"⟩ : MethodName)) (z := (⟨"com/example/abeyance/abeyance/records/Verdict", "accepted", "()Z"⟩ : MethodName)) hown (hw _ (List.mem_of_getElem? (i := 33) rfl)) (hw _ (List.mem_of_getElem? (i := 34) rfl)) (own_nf (hw _ (List.mem_of_getElem? (i := 36) rfl))) (hw _ (List.mem_of_getElem? (i := 36) rfl)) (hw _ (List.mem_of_getElem? (i := 35) rfl)) (hw _ (List.mem_of_getElem? (i := 37) rfl)) (hw _ (List.mem_of_getElem? (i := 13) rfl)) (by decide) Eq81 (own_rm6r l Z a0 hw [] b77 aCHANGE_TOO_LATE T81.heap n0 (Nat.le_trans Z0 k83_.1) Fq81) (by decide) (by decide) rfl (g := (mkF m 60 #[.val (.int p0), .val (.int p1), .val (.int p2), .val (.int p3), .val (.int k), .val (.ref aCHANGE_TOO_LATE), .val t71, .val t75, .val (.ref b77), .val (.int (0 : Int32))] [(.ref b77)])) rfl (by rw [hml]; rfl) (argsL := []) (rest := []) (lenOf own_pd__28_29Z rfl) rfl (W := 0) (by show 2 * 0 + _ ≤ _; exact Nat.le_of_eq rfl) (hb hby at_60) rfl (by decide) (by decide) ?_
            rintro rv84 T84 L84 X84 ⟨rfl, Nq84, eh84⟩
            have N84 := Fr.app N81 Nq84
            show own_Fin p e below _ T84 (mkF m 63 #[.val (.int p0), .val (.int p1), .val (.int p2), .val (.int p3), .val (.int k), .val (.ref aCHANGE_TOO_LATE), .val t71, .val t75, .val (.ref b77), .val (.int (0 : Int32))] [(.int (0 : Int32))])
            refine own_by (T' := T84) (g' := (mkF m 65 #[.val (.int p0), .val (.int p1), .val (.int p2), .val (.int p3), .val (.int k), .val (.ref aCHANGE_TOO_LATE), .val t71, .val t75, .val (.ref b77), .val (.int (0 : Int32))] [(.int (0 : Int32)), (.int (0 : Int32))])) (fun _ kq => XS.iload X84.here hx rfl (hb hby at_63) rfl kq) ?_
            refine own_by (T' := T84) (g' := (mkF m 68 #[.val (.int p0), .val (.int p1), .val (.int p2), .val (.int p3), .val (.int k), .val (.ref aCHANGE_TOO_LATE), .val t71, .val t75, .val (.ref b77), .val (.int (0 : Int32))] [])) (fun _ kq => XS.icmpNo X84.here hx rfl (hb hby at_65) rfl (teq (by decide : (0 : Int32) = (0 : Int32))).2 kq) ?_
            refine own_by (T' := T84) (g' := (mkF m 69 #[.val (.int p0), .val (.int p1), .val (.int p2), .val (.int p3), .val (.int k), .val (.ref aCHANGE_TOO_LATE), .val t71, .val t75, .val (.ref b77), .val (.int (0 : Int32))] [(.int (1 : Int32))])) (fun _ kq => XS.iconst X84.here hx rfl (hb hby at_68) kq) ?_
            refine own_by (T' := T84) (g' := (mkF m 73 #[.val (.int p0), .val (.int p1), .val (.int p2), .val (.int p3), .val (.int k), .val (.ref aCHANGE_TOO_LATE), .val t71, .val t75, .val (.ref b77), .val (.int (0 : Int32))] [(.int (1 : Int32))])) (fun _ kq => XS.goto X84.here hx rfl (pc0 := 69) (pc' := 73) rfl (hb hby at_69) (by decide) (by decide) kq) ?_
            have hk85_ := (Nat.le_trans (Nat.le_trans (Nat.le_refl _) E77.1) Kq81.1)
            exact own_endW X84 hS (by rw [eh84]; exact hk85_) hZ hEL (by rw [hh]; rw [eh84]; exact C82) (v := some (.int (nar .boolean (1 : Int32)))) (fun h => by rw [Bd.returns] at h; cases h) hlk (fun hr => retN X84 hx (t := .boolean) Bd.returns (by simp) (hb hby at_73) hr) (by rw [eh84]; exact ⟨rfl, N84⟩) (by decide) (by decide)
          · skip
            by_cases hc86 : k = (5 : Int32)
            · skip
              refine own_by (T' := s₁) (g' := (mkF m 11 #[.val (.int p0), .val (.int p1), .val (.int p2), .val (.int p3), .val (.int k), .unset, .unset, .unset, .unset, .unset] [(.int k)])) (fun _ kq => XS.iload X0.here hx rfl (hb hby at_9) rfl kq) ?_
              refine own_callS X0 hx hZ (y := (⟨"com/example/abeyance/abeyance/records/VerdictAcceptedPinLaw", "pick", "(I)Lcom/example/abeyance/abeyance/records/Refusal;"⟩ : MethodName)) hown (hw _ (List.mem_of_getElem? (i := 1) rfl)) (hw _ (List.mem_of_getElem? (i := 2) rfl)) (hw _ (List.mem_of_getElem? (i := 3) rfl)) (hw _ (List.mem_of_getElem? (i := 4) rfl)) (by decide) (own_rm1 l Z a0 hw [] k aPERCENT_NOT_ALLOWED aTOO_LATE aIN_SERVICE_TOO_EARLY aINSTALLMENTS_NOT_ALLOWED aCHANGE_TOO_LATE aCHANGE_TOO_SHORT aCHANGE_NOT_ALLOWED h0 n0 Z0 (S_PERCENT_NOT_ALLOWED.ext O0.2) (S_TOO_LATE.ext O0.2) (S_IN_SERVICE_TOO_EARLY.ext O0.2) (S_INSTALLMENTS_NOT_ALLOWED.ext O0.2) (S_CHANGE_TOO_LATE.ext O0.2) (S_CHANGE_TOO_SHORT.ext O0.2) (S_CHANGE_NOT_ALLOWED.ext O0.2)) (by decide) (by decide) e0 (g := (mkF m 11 #[.val (.int p0), .val (.int p1), .val (.int p2), .val (.int p3), .val (.int k), .unset, .unset, .unset, .unset, .unset] [(.int k)])) rfl (by rw [hml]; rfl) (argsL := [(.int k)]) (rest := []) (lenOf own_pd__28I_29Lcom_2fexample_2fabeyance_2fabeyance_2frecords_2fRefusal_3b rfl) rfl (W := 0) (by show 2 * 0 + _ ≤ _; exact Nat.le_of_eq rfl) (hb hby at_11) rfl (by decide) (by decide) ?_
              rintro rv87 T87 L87 X87 ⟨hv87, Nq87, eh87⟩
              have N87 := Fr.app N0 Nq87
              rw [if_neg hc1, if_neg hc18, if_neg hc35, if_neg hc52, if_neg hc69, if_pos hc86] at hv87
              subst hv87
              show own_Fin p e below _ T87 (mkF m 14 #[.val (.int p0), .val (.int p1), .val (.int p2), .val (.int p3), .val (.int k), .unset, .unset, .unset, .unset, .unset] [(.ref aCHANGE_TOO_SHORT)])
              refine own_by (T' := T87) (g' := (mkF m 16 #[.val (.int p0), .val (.int p1), .val (.int p2), .val (.int p3), .val (.int k), .val (.ref aCHANGE_TOO_SHORT), .unset, .unset, .unset, .unset] [])) (fun _ kq => XS.astore X87.here hx rfl (hb hby at_14) rfl rfl (l' := #[.val (.int p0), .val (.int p1), .val (.int p2), .val (.int p3), .val (.int k), .val (.ref aCHANGE_TOO_SHORT), .unset, .unset, .unset, .unset]) rfl kq) ?_
              refine own_by (T' := T87) (g' := (mkF m 17 #[.val (.int p0), .val (.int p1), .val (.int p2), .val (.int p3), .val (.int k), .val (.ref aCHANGE_TOO_SHORT), .unset, .unset, .unset, .unset] [(.int p2)])) (fun _ kq => XS.iloadN X87.here hx rfl (hb hby at_16) rfl kq) ?_
              refine own_callSW X87 hx hZ (y := (⟨"com/example/abeyance/abeyance/records/VerdictAcceptedPinLaw", "text", "(I)Ljava/lang/String;"⟩ : MethodName)) hown (hw _ (List.mem_of_getElem? (i := 8) rfl)) (hw _ (List.mem_of_getElem? (i := 9) rfl)) (hw _ (List.mem_of_getElem? (i := 3) rfl)) (hw _ (List.mem_of_getElem? (i := 10) rfl)) (by decide) hS hk0 hEL C0.1 (own_rm2 l Z a0 hw [] p2 zCS h0 n0 (Nat.le_trans Z0 (Keep.refl h0 []).1) S_CS nCS O0) (by decide) (by decide) eh87 (g := (mkF m 17 #[.val (.int p0), .val (.int p1), .val (.int p2), .val (.int p3), .val (.int k), .val (.ref aCHANGE_TOO_SHORT), .unset, .unset, .unset, .unset] [(.int p2)])) rfl (by rw [hml]; rfl) (argsL := [(.int p2)]) (rest := []) (lenOf own_pd__28I_29Ljava_2flang_2fString_3b rfl) rfl (W := 0) (by show 2 * 0 + _ ≤ _; exact Nat.le_of_eq rfl) (hb hby at_17) rfl (by decide) (by decide) ?_
              rintro rv88 T88 L88 X88 hS hZ hown CH88 ⟨hv88, Nq88, Kq88⟩
              have N88 := Fr.app N87 Nq88
              obtain ⟨t88, rfl, ht88⟩ : ∃ t : Value, rv88 = some t ∧ t.isRef = true := hv88.elim (fun q => ⟨_, q, rfl⟩) (fun ⟨_, q⟩ => ⟨_, q, rfl⟩)
              show own_Fin p e below _ T88 (mkF m 20 #[.val (.int p0), .val (.int p1), .val (.int p2), .val (.int p3), .val (.int k), .val (.ref aCHANGE_TOO_SHORT), .unset, .unset, .unset, .unset] [t88])
              have C89 := C0.trans CH88
              refine own_by (T' := T88) (g' := (mkF m 22 #[.val (.int p0), .val (.int p1), .val (.int p2), .val (.int p3), .val (.int k), .val (.ref aCHANGE_TOO_SHORT), .val t88, .unset, .unset, .unset] [])) (fun _ kq => XS.astore X88.here hx rfl (hb hby at_20) rfl ht88 (l' := #[.val (.int p0), .val (.int p1), .val (.int p2), .val (.int p3), .val (.int k), .val (.ref aCHANGE_TOO_SHORT), .val t88, .unset, .unset, .unset]) (own_store1 rfl One.u (own_cat ht88) rfl) kq) ?_
              refine own_by (T' := T88) (g' := (mkF m 23 #[.val (.int p0), .val (.int p1), .val (.int p2), .val (.int p3), .val (.int k), .val (.ref aCHANGE_TOO_SHORT), .val t88, .unset, .unset, .unset] [(.int p3)])) (fun _ kq => XS.iloadN X88.here hx rfl (hb hby at_22) rfl kq) ?_
              have o90_ := (O0.keep Kq88 all0)
              have k91_ := ((Keep.refl h0 []).trans Kq88 all0)
              refine own_callSW X88 hx hZ (y := (⟨"com/example/abeyance/abeyance/records/VerdictAcceptedPinLaw", "text", "(I)Ljava/lang/String;"⟩ : MethodName)) hown (hw _ (List.mem_of_getElem? (i := 8) rfl)) (hw _ (List.mem_of_getElem? (i := 9) rfl)) (hw _ (List.mem_of_getElem? (i := 3) rfl)) (hw _ (List.mem_of_getElem? (i := 10) rfl)) (by decide) hS (Nat.le_refl _) hEL C89.1 (own_rm2 l Z a0 hw [] p3 zCS T88.heap n0 (Nat.le_trans Z0 k91_.1) S_CS nCS o90_) (by decide) (by decide) rfl (g := (mkF m 23 #[.val (.int p0), .val (.int p1), .val (.int p2), .val (.int p3), .val (.int k), .val (.ref aCHANGE_TOO_SHORT), .val t88, .unset, .unset, .unset] [(.int p3)])) rfl (by rw [hml]; rfl) (argsL := [(.int p3)]) (rest := []) (lenOf own_pd__28I_29Ljava_2flang_2fString_3b rfl) rfl (W := 0) (by show 2 * 0 + _ ≤ _; exact Nat.le_of_eq rfl) (hb hby at_23) rfl (by decide) (by decide) ?_
              rintro rv92 T92 L92 X92 hS hZ hown CH92 ⟨hv92, Nq92, Kq92⟩
              have N92 := Fr.app N88 Nq92
              obtain ⟨t92, rfl, ht92⟩ : ∃ t : Value, rv92 = some t ∧ t.isRef = true := hv92.elim (fun q => ⟨_, q, rfl⟩) (fun ⟨_, q⟩ => ⟨_, q, rfl⟩)
              show own_Fin p e below _ T92 (mkF m 26 #[.val (.int p0), .val (.int p1), .val (.int p2), .val (.int p3), .val (.int k), .val (.ref aCHANGE_TOO_SHORT), .val t88, .unset, .unset, .unset] [t92])
              have C93 := C89.trans CH92
              refine own_by (T' := T92) (g' := (mkF m 28 #[.val (.int p0), .val (.int p1), .val (.int p2), .val (.int p3), .val (.int k), .val (.ref aCHANGE_TOO_SHORT), .val t88, .val t92, .unset, .unset] [])) (fun _ kq => XS.astore X92.here hx rfl (hb hby at_26) rfl ht92 (l' := #[.val (.int p0), .val (.int p1), .val (.int p2), .val (.int p3), .val (.int k), .val (.ref aCHANGE_TOO_SHORT), .val t88, .val t92, .unset, .unset]) (own_store1 rfl One.u (own_cat ht92) rfl) kq) ?_
              obtain ⟨T94, h94, X94, e94, E94, A94, D94, U94, st94⟩ := newO X92 hx hZ hown (hw _ (List.mem_of_getElem? (i := 11) rfl)) (hw _ (List.mem_of_getElem? (i := 12) rfl)) (hw _ (List.mem_of_getElem? (i := 13) rfl)) rfl (g := (mkF m 28 #[.val (.int p0), .val (.int p1), .val (.int p2), .val (.int p3), .val (.int k), .val (.ref aCHANGE_TOO_SHORT), .val t88, .val t92, .unset, .unset] [])) rfl (hb hby at_28) (by decide) (by decide)
              obtain ⟨b94, g94⟩ : ∃ z, z = T92.heap.size := ⟨_, rfl⟩
              rw [← g94] at A94 D94 U94 st94
              have k95_ := (k91_.trans Kq92 all0)
              have g_b94 : n0 ≤ b94 := Nat.le_trans (Nat.le_trans Z0 k95_.1) (Nat.le_of_eq g94.symm)
              have sz_b94 : h0.size ≤ b94 := Nat.le_trans k95_.1 (Nat.le_of_eq g94.symm)
              have sf_b94 : Safe Z consts_1 T92.vm T92.heap b94 := Safe.new (Nat.le_of_eq g94.symm)
              have C96 := C93.trans (CHr.ext E94 C93.1)
              have F_file_b94 : Fld Z h94 b94 "com/example/abeyance/abeyance/records/Verdict" "file" "Ljava/lang/String;" .null := D94 (Or.inr (hw _ (List.mem_of_getElem? (i := 26) rfl))) (ty := (.object "java/lang/String")) (by decide)
              have F_line_b94 : Fld Z h94 b94 "com/example/abeyance/abeyance/records/Verdict" "line" "I" (.int (0 : Int32)) := D94 (Or.inr (hw _ (List.mem_of_getElem? (i := 28) rfl))) (ty := .int) (by decide)
              have F_participant_b94 : Fld Z h94 b94 "com/example/abeyance/abeyance/records/Verdict" "participant" "Ljava/lang/String;" .null := D94 (Or.inr (hw _ (List.mem_of_getElem? (i := 30) rfl))) (ty := (.object "java/lang/String")) (by decide)
              have F_refusal_b94 : Fld Z h94 b94 "com/example/abeyance/abeyance/records/Verdict" "refusal" "Lcom/example/abeyance/abeyance/records/Refusal;" .null := D94 (Or.inr (hw _ (List.mem_of_getElem? (i := 32) rfl))) (ty := (.object "com/example/abeyance/abeyance/records/Refusal")) (by decide)
              refine own_by (T' := T94) (g' := (mkF m 31 #[.val (.int p0), .val (.int p1), .val (.int p2), .val (.int p3), .val (.int k), .val (.ref aCHANGE_TOO_SHORT), .val t88, .val t92, .unset, .unset] [(.ref b94)])) st94 ?_
              refine own_by (T' := T94) (g' := (mkF m 32 #[.val (.int p0), .val (.int p1), .val (.int p2), .val (.int p3), .val (.int k), .val (.ref aCHANGE_TOO_SHORT), .val t88, .val t92, .unset, .unset] [(.ref b94), (.ref b94)])) (fun _ kq => XS.dup X94.here hx rfl (hb hby at_31) rfl rfl kq) ?_
              refine own_by (T' := T94) (g' := (mkF m 34 #[.val (.int p0), .val (.int p1), .val (.int p2), .val (.int p3), .val (.int k), .val (.ref aCHANGE_TOO_SHORT), .val t88, .val t92, .unset, .unset] [t88, (.ref b94), (.ref b94)])) (fun _ kq => XS.aload X94.here hx rfl (hb hby at_32) rfl ht88 kq) ?_
              refine own_by (T' := T94) (g' := (mkF m 35 #[.val (.int p0), .val (.int p1), .val (.int p2), .val (.int p3), .val (.int k), .val (.ref aCHANGE_TOO_SHORT), .val t88, .val t92, .unset, .unset] [(.int p1), t88, (.ref b94), (.ref b94)])) (fun _ kq => XS.iloadN X94.here hx rfl (hb hby at_34) rfl kq) ?_
              refine own_by (T' := T94) (g' := (mkF m 37 #[.val (.int p0), .val (.int p1), .val (.int p2), .val (.int p3), .val (.int k), .val (.ref aCHANGE_TOO_SHORT), .val t88, .val t92, .unset, .unset] [t92, (.int p1), t88, (.ref b94), (.ref b94)])) (fun _ kq => XS.aload X94.here hx rfl (hb hby at_35) rfl ht92 kq) ?_
              refine own_by (T' := T94) (g' := (mkF m 39 #[.val (.int p0), .val (.int p1), .val (.int p2), .val (.int p3), .val (.int k), .val (.ref aCHANGE_TOO_SHORT), .val t88, .val t92, .unset, .unset] [(.ref aCHANGE_TOO_SHORT), t92, (.int p1), t88, (.ref b94), (.ref b94)])) (fun _ kq => XS.aload X94.here hx rfl (hb hby at_37) rfl rfl kq) ?_
              have k97_ := (k95_.ext E94)
              refine own_callI X94 hx hZ (y := (⟨"com/example/abeyance/abeyance/records/Verdict", "<init>", "(Ljava/lang/String;ILjava/lang/String;Lcom/example/abeyance/abeyance/records/Refusal;)V"⟩ : MethodName)) rfl hown (hw _ (List.mem_of_getElem? (i := 14) rfl)) (hw _ (List.mem_of_getElem? (i := 15) rfl)) (hw _ (List.mem_of_getElem? (i := 16) rfl)) (hw _ (List.mem_of_getElem? (i := 13) rfl)) (by decide) (own_rm3 l Z a0 hw [] b94 t88 p1 t92 (.ref aCHANGE_TOO_SHORT) h94 n0 (Nat.le_trans Z0 k97_.1) ht88 ht92 rfl A94 g_b94 F_file_b94 F_line_b94 F_participant_b94 F_refusal_b94) (by decide) (by decide) e94 (g := (mkF m 39 #[.val (.int p0), .val (.int p1), .val (.int p2), .val (.int p3), .val (.int k), .val (.ref aCHANGE_TOO_SHORT), .val t88, .val t92, .unset, .unset] [(.ref aCHANGE_TOO_SHORT), t92, (.int p1), t88, (.ref b94), (.ref b94)])) rfl (by rw [hml]; rfl) (argsL := [t88, (.int p1), t92, (.ref aCHANGE_TOO_SHORT)]) (rest := [(.ref b94)]) (lenOf own_pd__28Ljava_2flang_2fString_3bILjava_2flang_2fString_3bLcom_2fexample_2fabeyance_2fabeyance_2frecords_2fRefusal_3b_29V rfl) rfl (W := 1) (by show 2 * 0 + _ ≤ _; exact Nat.le_of_eq rfl) (hb hby at_39) rfl (by decide) (by decide) ?_
              rintro rv98 T98 L98 X98 ⟨rfl, Nq98, Kq98, Eq98, Fq98⟩
              have N98 := Fr.app N92 Nq98
              show own_Fin p e below _ T98 (mkF m 42 #[.val (.int p0), .val (.int p1), .val (.int p2), .val (.int p3), .val (.int k), .val (.ref aCHANGE_TOO_SHORT), .val t88, .val t92, .unset, .unset] [(.ref b94)])
              have C99 := C96.trans (CHr.keep Kq98 (sfS (Safe.exa hZ.alike A94 (by decide) (by decide)) sf0) C96.1)
              refine own_by (T' := T98) (g' := (mkF m 44 #[.val (.int p0), .val (.int p1), .val (.int p2), .val (.int p3), .val (.int k), .val (.ref aCHANGE_TOO_SHORT), .val t88, .val t92, .val (.ref b94), .unset] [])) (fun _ kq => XS.astore X98.here hx rfl (hb hby at_42) rfl rfl (l' := #[.val (.int p0), .val (.int p1), .val (.int p2), .val (.int p3), .val (.int k), .val (.ref aCHANGE_TOO_SHORT), .val t88, .val t92, .val (.ref b94), .unset]) rfl kq) ?_
              refine own_by (T' := T98) (g' := (mkF m 46 #[.val (.int p0), .val (.int p1), .val (.int p2), .val (.int p3), .val (.int k), .val (.ref aCHANGE_TOO_SHORT), .val t88, .val t92, .val (.ref b94), .unset] [(.int k)])) (fun _ kq => XS.iload X98.here hx rfl (hb hby at_44) rfl kq) ?_
              refine own_by (T' := T98) (g' := (mkF m 48 #[.val (.int p0), .val (.int p1), .val (.int p2), .val (.int p3), .val (.int k), .val (.ref aCHANGE_TOO_SHORT), .val t88, .val t92, .val (.ref b94), .unset] [(.int (7 : Int32)), (.int k)])) (fun _ kq => XS.bipush X98.here hx rfl (hb hby at_46) kq) ?_
              refine own_by (T' := T98) (g' := (mkF m 55 #[.val (.int p0), .val (.int p1), .val (.int p2), .val (.int p3), .val (.int k), .val (.ref aCHANGE_TOO_SHORT), .val t88, .val t92, .val (.ref b94), .unset] [])) (fun _ kq => XS.icmpYes X98.here hx rfl (pc0 := 48) (pc' := 55) rfl (hb hby at_48) rfl (feq (own_clash hc86 (by decide))).2 (by decide) (by decide) kq) ?_
              refine own_by (T' := T98) (g' := (mkF m 56 #[.val (.int p0), .val (.int p1), .val (.int p2), .val (.int p3), .val (.int k), .val (.ref aCHANGE_TOO_SHORT), .val t88, .val t92, .val (.ref b94), .unset] [(.int (0 : Int32))])) (fun _ kq => XS.iconst X98.here hx rfl (hb hby at_55) kq) ?_
              refine own_by (T' := T98) (g' := (mkF m 58 #[.val (.int p0), .val (.int p1), .val (.int p2), .val (.int p3), .val (.int k), .val (.ref aCHANGE_TOO_SHORT), .val t88, .val t92, .val (.ref b94), .val (.int (0 : Int32))] [])) (fun _ kq => XS.istore X98.here hx rfl (hb hby at_56) rfl (l' := #[.val (.int p0), .val (.int p1), .val (.int p2), .val (.int p3), .val (.int k), .val (.ref aCHANGE_TOO_SHORT), .val t88, .val t92, .val (.ref b94), .val (.int (0 : Int32))]) rfl kq) ?_
              refine own_by (T' := T98) (g' := (mkF m 60 #[.val (.int p0), .val (.int p1), .val (.int p2), .val (.int p3), .val (.int k), .val (.ref aCHANGE_TOO_SHORT), .val t88, .val t92, .val (.ref b94), .val (.int (0 : Int32))] [(.ref b94)])) (fun _ kq => XS.aload X98.here hx rfl (hb hby at_58) rfl rfl kq) ?_
              have k100_ := (k97_.trans Kq98 (allS (Or.inr sz_b94) all0))
              refine own_callV X98 hx hZ (y := (⟨"com/example/abeyance/abeyance/records/Verdict", "accepted", "()Z"⟩ : MethodName)) (z := (⟨"com/example/abeyance/abeyance/records/Verdict", "accepted", "()Z"⟩ : MethodName)) hown (hw _ (List.mem_of_getElem? (i := 33) rfl)) (hw _ (List.mem_of_getElem? (i := 34) rfl)) (own_nf (hw _ (List.mem_of_getElem? (i := 36) rfl))) (hw _ (List.mem_of_getElem? (i := 36) rfl)) (hw _ (List.mem_of_getElem? (i := 35) rfl)) (hw _ (List.mem_of_getElem? (i := 37) rfl)) (hw _ (List.mem_of_getElem? (i := 13) rfl)) (by decide) Eq98 (own_rm6r l Z a0 hw [] b94 aCHANGE_TOO_SHORT T98.heap n0 (Nat.le_trans Z0 k100_.1) Fq98) (by decide) (by decide) rfl (g := (mkF m 60 #[.val (.int p0), .val (.int p1), .val (.int p2), .val (.int p3), .val (.int k), .val (.ref aCHANGE_TOO_SHORT), .val t88, .val t92, .val (.ref b94), .val (.int (0 : Int32))] [(.ref b94)])) rfl (by rw [hml]; rfl) (argsL := []) (rest := []) (lenOf own_pd__28_29Z rfl) rfl (W := 0) (by show 2 * 0 + _ ≤ _; exact Nat.le_of_eq rfl) (hb hby at_60) rfl (by decide) (by decide) ?_
              rintro rv101 T101 L101 X101 ⟨rfl, Nq101, eh101⟩
              have N101 := Fr.app N98 Nq101
              show own_Fin p e below _ T101 (mkF m 63 #[.val (.int p0), .val (.int p1), .val (.int p2), .val (.int p3), .val (.int k), .val (.ref aCHANGE_TOO_SHORT), .val t88, .val t92, .val (.ref b94), .val (.int (0 : Int32))] [(.int (0 : Int32))])
              refine own_by (T' := T101) (g' := (mkF m 65 #[.val (.int p0), .val (.int p1), .val (.int p2), .val (.int p3), .val (.int k), .val (.ref aCHANGE_TOO_SHORT), .val t88, .val t92, .val (.ref b94), .val (.int (0 : Int32))] [(.int (0 : Int32)), (.int (0 : Int32))])) (fun _ kq => XS.iload X101.here hx rfl (hb hby at_63) rfl kq) ?_
              refine own_by (T' := T101) (g' := (mkF m 68 #[.val (.int p0), .val (.int p1), .val (.int p2), .val (.int p3), .val (.int k), .val (.ref aCHANGE_TOO_SHORT), .val t88, .val t92, .val (.ref b94), .val (.int (0 : Int32))] [])) (fun _ kq => XS.icmpNo X101.here hx rfl (hb hby at_65) rfl (teq (by decide : (0 : Int32) = (0 : Int32))).2 kq) ?_
              refine own_by (T' := T101) (g' := (mkF m 69 #[.val (.int p0), .val (.int p1), .val (.int p2), .val (.int p3), .val (.int k), .val (.ref aCHANGE_TOO_SHORT), .val t88, .val t92, .val (.ref b94), .val (.int (0 : Int32))] [(.int (1 : Int32))])) (fun _ kq => XS.iconst X101.here hx rfl (hb hby at_68) kq) ?_
              refine own_by (T' := T101) (g' := (mkF m 73 #[.val (.int p0), .val (.int p1), .val (.int p2), .val (.int p3), .val (.int k), .val (.ref aCHANGE_TOO_SHORT), .val t88, .val t92, .val (.ref b94), .val (.int (0 : Int32))] [(.int (1 : Int32))])) (fun _ kq => XS.goto X101.here hx rfl (pc0 := 69) (pc' := 73) rfl (hb hby at_69) (by decide) (by decide) kq) ?_
              have hk102_ := (Nat.le_trans (Nat.le_trans (Nat.le_refl _) E94.1) Kq98.1)
              exact own_endW X101 hS (by rw [eh101]; exact hk102_) hZ hEL (by rw [hh]; rw [eh101]; exact C99) (v := some (.int (nar .boolean (1 : Int32)))) (fun h => by rw [Bd.returns] at h; cases h) hlk (fun hr => retN X101 hx (t := .boolean) Bd.returns (by simp) (hb hby at_73) hr) (by rw [eh101]; exact ⟨rfl, N101⟩) (by decide) (by decide)
            · skip
              by_cases hc103 : k = (6 : Int32)
              · skip
                refine own_by (T' := s₁) (g' := (mkF m 11 #[.val (.int p0), .val (.int p1), .val (.int p2), .val (.int p3), .val (.int k), .unset, .unset, .unset, .unset, .unset] [(.int k)])) (fun _ kq => XS.iload X0.here hx rfl (hb hby at_9) rfl kq) ?_
                refine own_callS X0 hx hZ (y := (⟨"com/example/abeyance/abeyance/records/VerdictAcceptedPinLaw", "pick", "(I)Lcom/example/abeyance/abeyance/records/Refusal;"⟩ : MethodName)) hown (hw _ (List.mem_of_getElem? (i := 1) rfl)) (hw _ (List.mem_of_getElem? (i := 2) rfl)) (hw _ (List.mem_of_getElem? (i := 3) rfl)) (hw _ (List.mem_of_getElem? (i := 4) rfl)) (by decide) (own_rm1 l Z a0 hw [] k aPERCENT_NOT_ALLOWED aTOO_LATE aIN_SERVICE_TOO_EARLY aINSTALLMENTS_NOT_ALLOWED aCHANGE_TOO_LATE aCHANGE_TOO_SHORT aCHANGE_NOT_ALLOWED h0 n0 Z0 (S_PERCENT_NOT_ALLOWED.ext O0.2) (S_TOO_LATE.ext O0.2) (S_IN_SERVICE_TOO_EARLY.ext O0.2) (S_INSTALLMENTS_NOT_ALLOWED.ext O0.2) (S_CHANGE_TOO_LATE.ext O0.2) (S_CHANGE_TOO_SHORT.ext O0.2) (S_CHANGE_NOT_ALLOWED.ext O0.2)) (by decide) (by decide) e0 (g := (mkF m 11 #[.val (.int p0), .val (.int p1), .val (.int p2), .val (.int p3), .val (.int k), .unset, .unset, .unset, .unset, .unset] [(.int k)])) rfl (by rw [hml]; rfl) (argsL := [(.int k)]) (rest := []) (lenOf own_pd__28I_29Lcom_2fexample_2fabeyance_2fabeyance_2frecords_2fRefusal_3b rfl) rfl (W := 0) (by show 2 * 0 + _ ≤ _; exact Nat.le_of_eq rfl) (hb hby at_11) rfl (by decide) (by decide) ?_
                rintro rv104 T104 L104 X104 ⟨hv104, Nq104, eh104⟩
                have N104 := Fr.app N0 Nq104
                rw [if_neg hc1, if_neg hc18, if_neg hc35, if_neg hc52, if_neg hc69, if_neg hc86, if_pos hc103] at hv104
                subst hv104
                show own_Fin p e below _ T104 (mkF m 14 #[.val (.int p0), .val (.int p1), .val (.int p2), .val (.int p3), .val (.int k), .unset, .unset, .unset, .unset, .unset] [(.ref aCHANGE_NOT_ALLOWED)])
                refine own_by (T' := T104) (g' := (mkF m 16 #[.val (.int p0), .val (.int p1), .val (.int p2), .val (.int p3), .val (.int k), .val (.ref aCHANGE_NOT_ALLOWED), .unset, .unset, .unset, .unset] [])) (fun _ kq => XS.astore X104.here hx rfl (hb hby at_14) rfl rfl (l' := #[.val (.int p0), .val (.int p1), .val (.int p2), .val (.int p3), .val (.int k), .val (.ref aCHANGE_NOT_ALLOWED), .unset, .unset, .unset, .unset]) rfl kq) ?_
                refine own_by (T' := T104) (g' := (mkF m 17 #[.val (.int p0), .val (.int p1), .val (.int p2), .val (.int p3), .val (.int k), .val (.ref aCHANGE_NOT_ALLOWED), .unset, .unset, .unset, .unset] [(.int p2)])) (fun _ kq => XS.iloadN X104.here hx rfl (hb hby at_16) rfl kq) ?_
                refine own_callSW X104 hx hZ (y := (⟨"com/example/abeyance/abeyance/records/VerdictAcceptedPinLaw", "text", "(I)Ljava/lang/String;"⟩ : MethodName)) hown (hw _ (List.mem_of_getElem? (i := 8) rfl)) (hw _ (List.mem_of_getElem? (i := 9) rfl)) (hw _ (List.mem_of_getElem? (i := 3) rfl)) (hw _ (List.mem_of_getElem? (i := 10) rfl)) (by decide) hS hk0 hEL C0.1 (own_rm2 l Z a0 hw [] p2 zCS h0 n0 (Nat.le_trans Z0 (Keep.refl h0 []).1) S_CS nCS O0) (by decide) (by decide) eh104 (g := (mkF m 17 #[.val (.int p0), .val (.int p1), .val (.int p2), .val (.int p3), .val (.int k), .val (.ref aCHANGE_NOT_ALLOWED), .unset, .unset, .unset, .unset] [(.int p2)])) rfl (by rw [hml]; rfl) (argsL := [(.int p2)]) (rest := []) (lenOf own_pd__28I_29Ljava_2flang_2fString_3b rfl) rfl (W := 0) (by show 2 * 0 + _ ≤ _; exact Nat.le_of_eq rfl) (hb hby at_17) rfl (by decide) (by decide) ?_
                rintro rv105 T105 L105 X105 hS hZ hown CH105 ⟨hv105, Nq105, Kq105⟩
                have N105 := Fr.app N104 Nq105
                obtain ⟨t105, rfl, ht105⟩ : ∃ t : Value, rv105 = some t ∧ t.isRef = true := hv105.elim (fun q => ⟨_, q, rfl⟩) (fun ⟨_, q⟩ => ⟨_, q, rfl⟩)
                show own_Fin p e below _ T105 (mkF m 20 #[.val (.int p0), .val (.int p1), .val (.int p2), .val (.int p3), .val (.int k), .val (.ref aCHANGE_NOT_ALLOWED), .unset, .unset, .unset, .unset] [t105])
                have C106 := C0.trans CH105
                refine own_by (T' := T105) (g' := (mkF m 22 #[.val (.int p0), .val (.int p1), .val (.int p2), .val (.int p3), .val (.int k), .val (.ref aCHANGE_NOT_ALLOWED), .val t105, .unset, .unset, .unset] [])) (fun _ kq => XS.astore X105.here hx rfl (hb hby at_20) rfl ht105 (l' := #[.val (.int p0), .val (.int p1), .val (.int p2), .val (.int p3), .val (.int k), .val (.ref aCHANGE_NOT_ALLOWED), .val t105, .unset, .unset, .unset]) (own_store1 rfl One.u (own_cat ht105) rfl) kq) ?_
                refine own_by (T' := T105) (g' := (mkF m 23 #[.val (.int p0), .val (.int p1), .val (.int p2), .val (.int p3), .val (.int k), .val (.ref aCHANGE_NOT_ALLOWED), .val t105, .unset, .unset, .unset] [(.int p3)])) (fun _ kq => XS.iloadN X105.here hx rfl (hb hby at_22) rfl kq) ?_
                have o107_ := (O0.keep Kq105 all0)
                have k108_ := ((Keep.refl h0 []).trans Kq105 all0)
                refine own_callSW X105 hx hZ (y := (⟨"com/example/abeyance/abeyance/records/VerdictAcceptedPinLaw", "text", "(I)Ljava/lang/String;"⟩ : MethodName)) hown (hw _ (List.mem_of_getElem? (i := 8) rfl)) (hw _ (List.mem_of_getElem? (i := 9) rfl)) (hw _ (List.mem_of_getElem? (i := 3) rfl)) (hw _ (List.mem_of_getElem? (i := 10) rfl)) (by decide) hS (Nat.le_refl _) hEL C106.1 (own_rm2 l Z a0 hw [] p3 zCS T105.heap n0 (Nat.le_trans Z0 k108_.1) S_CS nCS o107_) (by decide) (by decide) rfl (g := (mkF m 23 #[.val (.int p0), .val (.int p1), .val (.int p2), .val (.int p3), .val (.int k), .val (.ref aCHANGE_NOT_ALLOWED), .val t105, .unset, .unset, .unset] [(.int p3)])) rfl (by rw [hml]; rfl) (argsL := [(.int p3)]) (rest := []) (lenOf own_pd__28I_29Ljava_2flang_2fString_3b rfl) rfl (W := 0) (by show 2 * 0 + _ ≤ _; exact Nat.le_of_eq rfl) (hb hby at_23) rfl (by decide) (by decide) ?_
                rintro rv109 T109 L109 X109 hS hZ hown CH109 ⟨hv109, Nq109, Kq109⟩
                have N109 := Fr.app N105 Nq109
                obtain ⟨t109, rfl, ht109⟩ : ∃ t : Value, rv109 = some t ∧ t.isRef = true := hv109.elim (fun q => ⟨_, q, rfl⟩) (fun ⟨_, q⟩ => ⟨_, q, rfl⟩)
                show own_Fin p e below _ T109 (mkF m 26 #[.val (.int p0), .val (.int p1), .val (.int p2), .val (.int p3), .val (.int k), .val (.ref aCHANGE_NOT_ALLOWED), .val t105, .unset, .unset, .unset] [t109])
                have C110 := C106.trans CH109
                refine own_by (T' := T109) (g' := (mkF m 28 #[.val (.int p0), .val (.int p1), .val (.int p2), .val (.int p3), .val (.int k), .val (.ref aCHANGE_NOT_ALLOWED), .val t105, .val t109, .unset, .unset] [])) (fun _ kq => XS.astore X109.here hx rfl (hb hby at_26) rfl ht109 (l' := #[.val (.int p0), .val (.int p1), .val (.int p2), .val (.int p3), .val (.int k), .val (.ref aCHANGE_NOT_ALLOWED), .val t105, .val t109, .unset, .unset]) (own_store1 rfl One.u (own_cat ht109) rfl) kq) ?_
                obtain ⟨T111, h111, X111, e111, E111, A111, D111, U111, st111⟩ := newO X109 hx hZ hown (hw _ (List.mem_of_getElem? (i := 11) rfl)) (hw _ (List.mem_of_getElem? (i := 12) rfl)) (hw _ (List.mem_of_getElem? (i := 13) rfl)) rfl (g := (mkF m 28 #[.val (.int p0), .val (.int p1), .val (.int p2), .val (.int p3), .val (.int k), .val (.ref aCHANGE_NOT_ALLOWED), .val t105, .val t109, .unset, .unset] [])) rfl (hb hby at_28) (by decide) (by decide)
                obtain ⟨b111, g111⟩ : ∃ z, z = T109.heap.size := ⟨_, rfl⟩
                rw [← g111] at A111 D111 U111 st111
                have k112_ := (k108_.trans Kq109 all0)
                have g_b111 : n0 ≤ b111 := Nat.le_trans (Nat.le_trans Z0 k112_.1) (Nat.le_of_eq g111.symm)
                have sz_b111 : h0.size ≤ b111 := Nat.le_trans k112_.1 (Nat.le_of_eq g111.symm)
                have sf_b111 : Safe Z consts_1 T109.vm T109.heap b111 := Safe.new (Nat.le_of_eq g111.symm)
                have C113 := C110.trans (CHr.ext E111 C110.1)
                have F_file_b111 : Fld Z h111 b111 "com/example/abeyance/abeyance/records/Verdict" "file" "Ljava/lang/String;" .null := D111 (Or.inr (hw _ (List.mem_of_getElem? (i := 26) rfl))) (ty := (.object "java/lang/String")) (by decide)
                have F_line_b111 : Fld Z h111 b111 "com/example/abeyance/abeyance/records/Verdict" "line" "I" (.int (0 : Int32)) := D111 (Or.inr (hw _ (List.mem_of_getElem? (i := 28) rfl))) (ty := .int) (by decide)
                have F_participant_b111 : Fld Z h111 b111 "com/example/abeyance/abeyance/records/Verdict" "participant" "Ljava/lang/String;" .null := D111 (Or.inr (hw _ (List.mem_of_getElem? (i := 30) rfl))) (ty := (.object "java/lang/String")) (by decide)
                have F_refusal_b111 : Fld Z h111 b111 "com/example/abeyance/abeyance/records/Verdict" "refusal" "Lcom/example/abeyance/abeyance/records/Refusal;" .null := D111 (Or.inr (hw _ (List.mem_of_getElem? (i := 32) rfl))) (ty := (.object "com/example/abeyance/abeyance/records/Refusal")) (by decide)
                refine own_by (T' := T111) (g' := (mkF m 31 #[.val (.int p0), .val (.int p1), .val (.int p2), .val (.int p3), .val (.int k), .val (.ref aCHANGE_NOT_ALLOWED), .val t105, .val t109, .unset, .unset] [(.ref b111)])) st111 ?_
                refine own_by (T' := T111) (g' := (mkF m 32 #[.val (.int p0), .val (.int p1), .val (.int p2), .val (.int p3), .val (.int k), .val (.ref aCHANGE_NOT_ALLOWED), .val t105, .val t109, .unset, .unset] [(.ref b111), (.ref b111)])) (fun _ kq => XS.dup X111.here hx rfl (hb hby at_31) rfl rfl kq) ?_
                refine own_by (T' := T111) (g' := (mkF m 34 #[.val (.int p0), .val (.int p1), .val (.int p2), .val (.int p3), .val (.int k), .val (.ref aCHANGE_NOT_ALLOWED), .val t105, .val t109, .unset, .unset] [t105, (.ref b111), (.ref b111)])) (fun _ kq => XS.aload X111.here hx rfl (hb hby at_32) rfl ht105 kq) ?_
                refine own_by (T' := T111) (g' := (mkF m 35 #[.val (.int p0), .val (.int p1), .val (.int p2), .val (.int p3), .val (.int k), .val (.ref aCHANGE_NOT_ALLOWED), .val t105, .val t109, .unset, .unset] [(.int p1), t105, (.ref b111), (.ref b111)])) (fun _ kq => XS.iloadN X111.here hx rfl (hb hby at_34) rfl kq) ?_
                refine own_by (T' := T111) (g' := (mkF m 37 #[.val (.int p0), .val (.int p1), .val (.int p2), .val (.int p3), .val (.int k), .val (.ref aCHANGE_NOT_ALLOWED), .val t105, .val t109, .unset, .unset] [t109, (.int p1), t105, (.ref b111), (.ref b111)])) (fun _ kq => XS.aload X111.here hx rfl (hb hby at_35) rfl ht109 kq) ?_
                refine own_by (T' := T111) (g' := (mkF m 39 #[.val (.int p0), .val (.int p1), .val (.int p2), .val (.int p3), .val (.int k), .val (.ref aCHANGE_NOT_ALLOWED), .val t105, .val t109, .unset, .unset] [(.ref aCHANGE_NOT_ALLOWED), t109, (.int p1), t105, (.ref b111), (.ref b111)])) (fun _ kq => XS.aload X111.here hx rfl (hb hby at_37) rfl rfl kq) ?_
                have k114_ := (k112_.ext E111)
                refine own_callI X111 hx hZ (y := (⟨"com/example/abeyance/abeyance/records/Verdict", "<init>", "(Ljava/lang/String;ILjava/lang/String;Lcom/example/abeyance/abeyance/records/Refusal;)V"⟩ : MethodName)) rfl hown (hw _ (List.mem_of_getElem? (i := 14) rfl)) (hw _ (List.mem_of_getElem? (i := 15) rfl)) (hw _ (List.mem_of_getElem? (i := 16) rfl)) (hw _ (List.mem_of_getElem? (i := 13) rfl)) (by decide) (own_rm3 l Z a0 hw [] b111 t105 p1 t109 (.ref aCHANGE_NOT_ALLOWED) h111 n0 (Nat.le_trans Z0 k114_.1) ht105 ht109 rfl A111 g_b111 F_file_b111 F_line_b111 F_participant_b111 F_refusal_b111) (by decide) (by decide) e111 (g := (mkF m 39 #[.val (.int p0), .val (.int p1), .val (.int p2), .val (.int p3), .val (.int k), .val (.ref aCHANGE_NOT_ALLOWED), .val t105, .val t109, .unset, .unset] [(.ref aCHANGE_NOT_ALLOWED), t109, (.int p1), t105, (.ref b111), (.ref b111)])) rfl (by rw [hml]; rfl) (argsL := [t105, (.int p1), t109, (.ref aCHANGE_NOT_ALLOWED)]) (rest := [(.ref b111)]) (lenOf own_pd__28Ljava_2flang_2fString_3bILjava_2flang_2fString_3bLcom_2fexample_2fabeyance_2fabeyance_2frecords_2fRefusal_3b_29V rfl) rfl (W := 1) (by show 2 * 0 + _ ≤ _; exact Nat.le_of_eq rfl) (hb hby at_39) rfl (by decide) (by decide) ?_
                rintro rv115 T115 L115 X115 ⟨rfl, Nq115, Kq115, Eq115, Fq115⟩
                have N115 := Fr.app N109 Nq115
                show own_Fin p e below _ T115 (mkF m 42 #[.val (.int p0), .val (.int p1), .val (.int p2), .val (.int p3), .val (.int k), .val (.ref aCHANGE_NOT_ALLOWED), .val t105, .val t109, .unset, .unset] [(.ref b111)])
                have C116 := C113.trans (CHr.keep Kq115 (sfS (Safe.exa hZ.alike A111 (by decide) (by decide)) sf0) C113.1)
                refine own_by (T' := T115) (g' := (mkF m 44 #[.val (.int p0), .val (.int p1), .val (.int p2), .val (.int p3), .val (.int k), .val (.ref aCHANGE_NOT_ALLOWED), .val t105, .val t109, .val (.ref b111), .unset] [])) (fun _ kq => XS.astore X115.here hx rfl (hb hby at_42) rfl rfl (l' := #[.val (.int p0), .val (.int p1), .val (.int p2), .val (.int p3), .val (.int k), .val (.ref aCHANGE_NOT_ALLOWED), .val t105, .val t109, .val (.ref b111), .unset]) rfl kq) ?_
                refine own_by (T' := T115) (g' := (mkF m 46 #[.val (.int p0), .val (.int p1), .val (.int p2), .val (.int p3), .val (.int k), .val (.ref aCHANGE_NOT_ALLOWED), .val t105, .val t109, .val (.ref b111), .unset] [(.int k)])) (fun _ kq => XS.iload X115.here hx rfl (hb hby at_44) rfl kq) ?_
                refine own_by (T' := T115) (g' := (mkF m 48 #[.val (.int p0), .val (.int p1), .val (.int p2), .val (.int p3), .val (.int k), .val (.ref aCHANGE_NOT_ALLOWED), .val t105, .val t109, .val (.ref b111), .unset] [(.int (7 : Int32)), (.int k)])) (fun _ kq => XS.bipush X115.here hx rfl (hb hby at_46) kq) ?_
                refine own_by (T' := T115) (g' := (mkF m 55 #[.val (.int p0), .val (.int p1), .val (.int p2), .val (.int p3), .val (.int k), .val (.ref aCHANGE_NOT_ALLOWED), .val t105, .val t109, .val (.ref b111), .unset] [])) (fun _ kq => XS.icmpYes X115.here hx rfl (pc0 := 48) (pc' := 55) rfl (hb hby at_48) rfl (feq (own_clash hc103 (by decide))).2 (by decide) (by decide) kq) ?_
                refine own_by (T' := T115) (g' := (mkF m 56 #[.val (.int p0), .val (.int p1), .val (.int p2), .val (.int p3), .val (.int k), .val (.ref aCHANGE_NOT_ALLOWED), .val t105, .val t109, .val (.ref b111), .unset] [(.int (0 : Int32))])) (fun _ kq => XS.iconst X115.here hx rfl (hb hby at_55) kq) ?_
                refine own_by (T' := T115) (g' := (mkF m 58 #[.val (.int p0), .val (.int p1), .val (.int p2), .val (.int p3), .val (.int k), .val (.ref aCHANGE_NOT_ALLOWED), .val t105, .val t109, .val (.ref b111), .val (.int (0 : Int32))] [])) (fun _ kq => XS.istore X115.here hx rfl (hb hby at_56) rfl (l' := #[.val (.int p0), .val (.int p1), .val (.int p2), .val (.int p3), .val (.int k), .val (.ref aCHANGE_NOT_ALLOWED), .val t105, .val t109, .val (.ref b111), .val (.int (0 : Int32))]) rfl kq) ?_
                refine own_by (T' := T115) (g' := (mkF m 60 #[.val (.int p0), .val (.int p1), .val (.int p2), .val (.int p3), .val (.int k), .val (.ref aCHANGE_NOT_ALLOWED), .val t105, .val t109, .val (.ref b111), .val (.int (0 : Int32))] [(.ref b111)])) (fun _ kq => XS.aload X115.here hx rfl (hb hby at_58) rfl rfl kq) ?_
                have k117_ := (k114_.trans Kq115 (allS (Or.inr sz_b111) all0))
                refine own_callV X115 hx hZ (y := (⟨"com/example/abeyance/abeyance/records/Verdict", "accepted", "()Z"⟩ : MethodName)) (z := (⟨"com/example/abeyance/abeyance/records/Verdict", "accepted", "()Z"⟩ : MethodName)) hown (hw _ (List.mem_of_getElem? (i := 33) rfl)) (hw _ (List.mem_of_getElem? (i := 34) rfl)) (own_nf (hw _ (List.mem_of_getElem? (i := 36) rfl))) (hw _ (List.mem_of_getElem? (i := 36) rfl)) (hw _ (List.mem_of_getElem? (i := 35) rfl)) (hw _ (List.mem_of_getElem? (i := 37) rfl)) (hw _ (List.mem_of_getElem? (i := 13) rfl)) (by decide) Eq115 (own_rm6r l Z a0 hw [] b111 aCHANGE_NOT_ALLOWED T115.heap n0 (Nat.le_trans Z0 k117_.1) Fq115) (by decide) (by decide) rfl (g := (mkF m 60 #[.val (.int p0), .val (.int p1), .val (.int p2), .val (.int p3), .val (.int k), .val (.ref aCHANGE_NOT_ALLOWED), .val t105, .val t109, .val (.ref b111), .val (.int (0 : Int32))] [(.ref b111)])) rfl (by rw [hml]; rfl) (argsL := []) (rest := []) (lenOf own_pd__28_29Z rfl) rfl (W := 0) (by show 2 * 0 + _ ≤ _; exact Nat.le_of_eq rfl) (hb hby at_60) rfl (by decide) (by decide) ?_
                rintro rv118 T118 L118 X118 ⟨rfl, Nq118, eh118⟩
                have N118 := Fr.app N115 Nq118
                show own_Fin p e below _ T118 (mkF m 63 #[.val (.int p0), .val (.int p1), .val (.int p2), .val (.int p3), .val (.int k), .val (.ref aCHANGE_NOT_ALLOWED), .val t105, .val t109, .val (.ref b111), .val (.int (0 : Int32))] [(.int (0 : Int32))])
                refine own_by (T' := T118) (g' := (mkF m 65 #[.val (.int p0), .val (.int p1), .val (.int p2), .val (.int p3), .val (.int k), .val (.ref aCHANGE_NOT_ALLOWED), .val t105, .val t109, .val (.ref b111), .val (.int (0 : Int32))] [(.int (0 : Int32)), (.int (0 : Int32))])) (fun _ kq => XS.iload X118.here hx rfl (hb hby at_63) rfl kq) ?_
                refine own_by (T' := T118) (g' := (mkF m 68 #[.val (.int p0), .val (.int p1), .val (.int p2), .val (.int p3), .val (.int k), .val (.ref aCHANGE_NOT_ALLOWED), .val t105, .val t109, .val (.ref b111), .val (.int (0 : Int32))] [])) (fun _ kq => XS.icmpNo X118.here hx rfl (hb hby at_65) rfl (teq (by decide : (0 : Int32) = (0 : Int32))).2 kq) ?_
                refine own_by (T' := T118) (g' := (mkF m 69 #[.val (.int p0), .val (.int p1), .val (.int p2), .val (.int p3), .val (.int k), .val (.ref aCHANGE_NOT_ALLOWED), .val t105, .val t109, .val (.ref b111), .val (.int (0 : Int32))] [(.int (1 : Int32))])) (fun _ kq => XS.iconst X118.here hx rfl (hb hby at_68) kq) ?_
                refine own_by (T' := T118) (g' := (mkF m 73 #[.val (.int p0), .val (.int p1), .val (.int p2), .val (.int p3), .val (.int k), .val (.ref aCHANGE_NOT_ALLOWED), .val t105, .val t109, .val (.ref b111), .val (.int (0 : Int32))] [(.int (1 : Int32))])) (fun _ kq => XS.goto X118.here hx rfl (pc0 := 69) (pc' := 73) rfl (hb hby at_69) (by decide) (by decide) kq) ?_
                have hk119_ := (Nat.le_trans (Nat.le_trans (Nat.le_refl _) E111.1) Kq115.1)
                exact own_endW X118 hS (by rw [eh118]; exact hk119_) hZ hEL (by rw [hh]; rw [eh118]; exact C116) (v := some (.int (nar .boolean (1 : Int32)))) (fun h => by rw [Bd.returns] at h; cases h) hlk (fun hr => retN X118 hx (t := .boolean) Bd.returns (by simp) (hb hby at_73) hr) (by rw [eh118]; exact ⟨rfl, N118⟩) (by decide) (by decide)
              · skip
                refine own_by (T' := s₁) (g' := (mkF m 11 #[.val (.int p0), .val (.int p1), .val (.int p2), .val (.int p3), .val (.int k), .unset, .unset, .unset, .unset, .unset] [(.int k)])) (fun _ kq => XS.iload X0.here hx rfl (hb hby at_9) rfl kq) ?_
                refine own_callS X0 hx hZ (y := (⟨"com/example/abeyance/abeyance/records/VerdictAcceptedPinLaw", "pick", "(I)Lcom/example/abeyance/abeyance/records/Refusal;"⟩ : MethodName)) hown (hw _ (List.mem_of_getElem? (i := 1) rfl)) (hw _ (List.mem_of_getElem? (i := 2) rfl)) (hw _ (List.mem_of_getElem? (i := 3) rfl)) (hw _ (List.mem_of_getElem? (i := 4) rfl)) (by decide) (own_rm1 l Z a0 hw [] k aPERCENT_NOT_ALLOWED aTOO_LATE aIN_SERVICE_TOO_EARLY aINSTALLMENTS_NOT_ALLOWED aCHANGE_TOO_LATE aCHANGE_TOO_SHORT aCHANGE_NOT_ALLOWED h0 n0 Z0 (S_PERCENT_NOT_ALLOWED.ext O0.2) (S_TOO_LATE.ext O0.2) (S_IN_SERVICE_TOO_EARLY.ext O0.2) (S_INSTALLMENTS_NOT_ALLOWED.ext O0.2) (S_CHANGE_TOO_LATE.ext O0.2) (S_CHANGE_TOO_SHORT.ext O0.2) (S_CHANGE_NOT_ALLOWED.ext O0.2)) (by decide) (by decide) e0 (g := (mkF m 11 #[.val (.int p0), .val (.int p1), .val (.int p2), .val (.int p3), .val (.int k), .unset, .unset, .unset, .unset, .unset] [(.int k)])) rfl (by rw [hml]; rfl) (argsL := [(.int k)]) (rest := []) (lenOf own_pd__28I_29Lcom_2fexample_2fabeyance_2fabeyance_2frecords_2fRefusal_3b rfl) rfl (W := 0) (by show 2 * 0 + _ ≤ _; exact Nat.le_of_eq rfl) (hb hby at_11) rfl (by decide) (by decide) ?_
                rintro rv120 T120 L120 X120 ⟨hv120, Nq120, eh120⟩
                have N120 := Fr.app N0 Nq120
                rw [if_neg hc1, if_neg hc18, if_neg hc35, if_neg hc52, if_neg hc69, if_neg hc86, if_neg hc103] at hv120
                subst hv120
                show own_Fin p e below _ T120 (mkF m 14 #[.val (.int p0), .val (.int p1), .val (.int p2), .val (.int p3), .val (.int k), .unset, .unset, .unset, .unset, .unset] [.null])
                refine own_by (T' := T120) (g' := (mkF m 16 #[.val (.int p0), .val (.int p1), .val (.int p2), .val (.int p3), .val (.int k), .val .null, .unset, .unset, .unset, .unset] [])) (fun _ kq => XS.astore X120.here hx rfl (hb hby at_14) rfl rfl (l' := #[.val (.int p0), .val (.int p1), .val (.int p2), .val (.int p3), .val (.int k), .val .null, .unset, .unset, .unset, .unset]) rfl kq) ?_
                refine own_by (T' := T120) (g' := (mkF m 17 #[.val (.int p0), .val (.int p1), .val (.int p2), .val (.int p3), .val (.int k), .val .null, .unset, .unset, .unset, .unset] [(.int p2)])) (fun _ kq => XS.iloadN X120.here hx rfl (hb hby at_16) rfl kq) ?_
                refine own_callSW X120 hx hZ (y := (⟨"com/example/abeyance/abeyance/records/VerdictAcceptedPinLaw", "text", "(I)Ljava/lang/String;"⟩ : MethodName)) hown (hw _ (List.mem_of_getElem? (i := 8) rfl)) (hw _ (List.mem_of_getElem? (i := 9) rfl)) (hw _ (List.mem_of_getElem? (i := 3) rfl)) (hw _ (List.mem_of_getElem? (i := 10) rfl)) (by decide) hS hk0 hEL C0.1 (own_rm2 l Z a0 hw [] p2 zCS h0 n0 (Nat.le_trans Z0 (Keep.refl h0 []).1) S_CS nCS O0) (by decide) (by decide) eh120 (g := (mkF m 17 #[.val (.int p0), .val (.int p1), .val (.int p2), .val (.int p3), .val (.int k), .val .null, .unset, .unset, .unset, .unset] [(.int p2)])) rfl (by rw [hml]; rfl) (argsL := [(.int p2)]) (rest := []) (lenOf own_pd__28I_29Ljava_2flang_2fString_3b rfl) rfl (W := 0) (by show 2 * 0 + _ ≤ _; exact Nat.le_of_eq rfl) (hb hby at_17) rfl (by decide) (by decide) ?_
                rintro rv121 T121 L121 X121 hS hZ hown CH121 ⟨hv121, Nq121, Kq121⟩
                have N121 := Fr.app N120 Nq121
                obtain ⟨t121, rfl, ht121⟩ : ∃ t : Value, rv121 = some t ∧ t.isRef = true := hv121.elim (fun q => ⟨_, q, rfl⟩) (fun ⟨_, q⟩ => ⟨_, q, rfl⟩)
                show own_Fin p e below _ T121 (mkF m 20 #[.val (.int p0), .val (.int p1), .val (.int p2), .val (.int p3), .val (.int k), .val .null, .unset, .unset, .unset, .unset] [t121])
                have C122 := C0.trans CH121
                refine own_by (T' := T121) (g' := (mkF m 22 #[.val (.int p0), .val (.int p1), .val (.int p2), .val (.int p3), .val (.int k), .val .null, .val t121, .unset, .unset, .unset] [])) (fun _ kq => XS.astore X121.here hx rfl (hb hby at_20) rfl ht121 (l' := #[.val (.int p0), .val (.int p1), .val (.int p2), .val (.int p3), .val (.int k), .val .null, .val t121, .unset, .unset, .unset]) (own_store1 rfl One.u (own_cat ht121) rfl) kq) ?_
                refine own_by (T' := T121) (g' := (mkF m 23 #[.val (.int p0), .val (.int p1), .val (.int p2), .val (.int p3), .val (.int k), .val .null, .val t121, .unset, .unset, .unset] [(.int p3)])) (fun _ kq => XS.iloadN X121.here hx rfl (hb hby at_22) rfl kq) ?_
                have o123_ := (O0.keep Kq121 all0)
                have k124_ := ((Keep.refl h0 []).trans Kq121 all0)
                refine own_callSW X121 hx hZ (y := (⟨"com/example/abeyance/abeyance/records/VerdictAcceptedPinLaw", "text", "(I)Ljava/lang/String;"⟩ : MethodName)) hown (hw _ (List.mem_of_getElem? (i := 8) rfl)) (hw _ (List.mem_of_getElem? (i := 9) rfl)) (hw _ (List.mem_of_getElem? (i := 3) rfl)) (hw _ (List.mem_of_getElem? (i := 10) rfl)) (by decide) hS (Nat.le_refl _) hEL C122.1 (own_rm2 l Z a0 hw [] p3 zCS T121.heap n0 (Nat.le_trans Z0 k124_.1) S_CS nCS o123_) (by decide) (by decide) rfl (g := (mkF m 23 #[.val (.int p0), .val (.int p1), .val (.int p2), .val (.int p3), .val (.int k), .val .null, .val t121, .unset, .unset, .unset] [(.int p3)])) rfl (by rw [hml]; rfl) (argsL := [(.int p3)]) (rest := []) (lenOf own_pd__28I_29Ljava_2flang_2fString_3b rfl) rfl (W := 0) (by show 2 * 0 + _ ≤ _; exact Nat.le_of_eq rfl) (hb hby at_23) rfl (by decide) (by decide) ?_
                rintro rv125 T125 L125 X125 hS hZ hown CH125 ⟨hv125, Nq125, Kq125⟩
                have N125 := Fr.app N121 Nq125
                obtain ⟨t125, rfl, ht125⟩ : ∃ t : Value, rv125 = some t ∧ t.isRef = true := hv125.elim (fun q => ⟨_, q, rfl⟩) (fun ⟨_, q⟩ => ⟨_, q, rfl⟩)
                show own_Fin p e below _ T125 (mkF m 26 #[.val (.int p0), .val (.int p1), .val (.int p2), .val (.int p3), .val (.int k), .val .null, .val t121, .unset, .unset, .unset] [t125])
                have C126 := C122.trans CH125
                refine own_by (T' := T125) (g' := (mkF m 28 #[.val (.int p0), .val (.int p1), .val (.int p2), .val (.int p3), .val (.int k), .val .null, .val t121, .val t125, .unset, .unset] [])) (fun _ kq => XS.astore X125.here hx rfl (hb hby at_26) rfl ht125 (l' := #[.val (.int p0), .val (.int p1), .val (.int p2), .val (.int p3), .val (.int k), .val .null, .val t121, .val t125, .unset, .unset]) (own_store1 rfl One.u (own_cat ht125) rfl) kq) ?_
                obtain ⟨T127, h127, X127, e127, E127, A127, D127, U127, st127⟩ := newO X125 hx hZ hown (hw _ (List.mem_of_getElem? (i := 11) rfl)) (hw _ (List.mem_of_getElem? (i := 12) rfl)) (hw _ (List.mem_of_getElem? (i := 13) rfl)) rfl (g := (mkF m 28 #[.val (.int p0), .val (.int p1), .val (.int p2), .val (.int p3), .val (.int k), .val .null, .val t121, .val t125, .unset, .unset] [])) rfl (hb hby at_28) (by decide) (by decide)
                obtain ⟨b127, g127⟩ : ∃ z, z = T125.heap.size := ⟨_, rfl⟩
                rw [← g127] at A127 D127 U127 st127
                have k128_ := (k124_.trans Kq125 all0)
                have g_b127 : n0 ≤ b127 := Nat.le_trans (Nat.le_trans Z0 k128_.1) (Nat.le_of_eq g127.symm)
                have sz_b127 : h0.size ≤ b127 := Nat.le_trans k128_.1 (Nat.le_of_eq g127.symm)
                have sf_b127 : Safe Z consts_1 T125.vm T125.heap b127 := Safe.new (Nat.le_of_eq g127.symm)
                have C129 := C126.trans (CHr.ext E127 C126.1)
                have F_file_b127 : Fld Z h127 b127 "com/example/abeyance/abeyance/records/Verdict" "file" "Ljava/lang/String;" .null := D127 (Or.inr (hw _ (List.mem_of_getElem? (i := 26) rfl))) (ty := (.object "java/lang/String")) (by decide)
                have F_line_b127 : Fld Z h127 b127 "com/example/abeyance/abeyance/records/Verdict" "line" "I" (.int (0 : Int32)) := D127 (Or.inr (hw _ (List.mem_of_getElem? (i := 28) rfl))) (ty := .int) (by decide)
                have F_participant_b127 : Fld Z h127 b127 "com/example/abeyance/abeyance/records/Verdict" "participant" "Ljava/lang/String;" .null := D127 (Or.inr (hw _ (List.mem_of_getElem? (i := 30) rfl))) (ty := (.object "java/lang/String")) (by decide)
                have F_refusal_b127 : Fld Z h127 b127 "com/example/abeyance/abeyance/records/Verdict" "refusal" "Lcom/example/abeyance/abeyance/records/Refusal;" .null := D127 (Or.inr (hw _ (List.mem_of_getElem? (i := 32) rfl))) (ty := (.object "com/example/abeyance/abeyance/records/Refusal")) (by decide)
                refine own_by (T' := T127) (g' := (mkF m 31 #[.val (.int p0), .val (.int p1), .val (.int p2), .val (.int p3), .val (.int k), .val .null, .val t121, .val t125, .unset, .unset] [(.ref b127)])) st127 ?_
                refine own_by (T' := T127) (g' := (mkF m 32 #[.val (.int p0), .val (.int p1), .val (.int p2), .val (.int p3), .val (.int k), .val .null, .val t121, .val t125, .unset, .unset] [(.ref b127), (.ref b127)])) (fun _ kq => XS.dup X127.here hx rfl (hb hby at_31) rfl rfl kq) ?_
                refine own_by (T' := T127) (g' := (mkF m 34 #[.val (.int p0), .val (.int p1), .val (.int p2), .val (.int p3), .val (.int k), .val .null, .val t121, .val t125, .unset, .unset] [t121, (.ref b127), (.ref b127)])) (fun _ kq => XS.aload X127.here hx rfl (hb hby at_32) rfl ht121 kq) ?_
                refine own_by (T' := T127) (g' := (mkF m 35 #[.val (.int p0), .val (.int p1), .val (.int p2), .val (.int p3), .val (.int k), .val .null, .val t121, .val t125, .unset, .unset] [(.int p1), t121, (.ref b127), (.ref b127)])) (fun _ kq => XS.iloadN X127.here hx rfl (hb hby at_34) rfl kq) ?_
                refine own_by (T' := T127) (g' := (mkF m 37 #[.val (.int p0), .val (.int p1), .val (.int p2), .val (.int p3), .val (.int k), .val .null, .val t121, .val t125, .unset, .unset] [t125, (.int p1), t121, (.ref b127), (.ref b127)])) (fun _ kq => XS.aload X127.here hx rfl (hb hby at_35) rfl ht125 kq) ?_
                refine own_by (T' := T127) (g' := (mkF m 39 #[.val (.int p0), .val (.int p1), .val (.int p2), .val (.int p3), .val (.int k), .val .null, .val t121, .val t125, .unset, .unset] [.null, t125, (.int p1), t121, (.ref b127), (.ref b127)])) (fun _ kq => XS.aload X127.here hx rfl (hb hby at_37) rfl rfl kq) ?_
                have k130_ := (k128_.ext E127)
                refine own_callI X127 hx hZ (y := (⟨"com/example/abeyance/abeyance/records/Verdict", "<init>", "(Ljava/lang/String;ILjava/lang/String;Lcom/example/abeyance/abeyance/records/Refusal;)V"⟩ : MethodName)) rfl hown (hw _ (List.mem_of_getElem? (i := 14) rfl)) (hw _ (List.mem_of_getElem? (i := 15) rfl)) (hw _ (List.mem_of_getElem? (i := 16) rfl)) (hw _ (List.mem_of_getElem? (i := 13) rfl)) (by decide) (own_rm3 l Z a0 hw [] b127 t121 p1 t125 .null h127 n0 (Nat.le_trans Z0 k130_.1) ht121 ht125 rfl A127 g_b127 F_file_b127 F_line_b127 F_participant_b127 F_refusal_b127) (by decide) (by decide) e127 (g := (mkF m 39 #[.val (.int p0), .val (.int p1), .val (.int p2), .val (.int p3), .val (.int k), .val .null, .val t121, .val t125, .unset, .unset] [.null, t125, (.int p1), t121, (.ref b127), (.ref b127)])) rfl (by rw [hml]; rfl) (argsL := [t121, (.int p1), t125, .null]) (rest := [(.ref b127)]) (lenOf own_pd__28Ljava_2flang_2fString_3bILjava_2flang_2fString_3bLcom_2fexample_2fabeyance_2fabeyance_2frecords_2fRefusal_3b_29V rfl) rfl (W := 1) (by show 2 * 0 + _ ≤ _; exact Nat.le_of_eq rfl) (hb hby at_39) rfl (by decide) (by decide) ?_
                rintro rv131 T131 L131 X131 ⟨rfl, Nq131, Kq131, Eq131, Fq131⟩
                have N131 := Fr.app N125 Nq131
                show own_Fin p e below _ T131 (mkF m 42 #[.val (.int p0), .val (.int p1), .val (.int p2), .val (.int p3), .val (.int k), .val .null, .val t121, .val t125, .unset, .unset] [(.ref b127)])
                have C132 := C129.trans (CHr.keep Kq131 (sfS (Safe.exa hZ.alike A127 (by decide) (by decide)) sf0) C129.1)
                refine own_by (T' := T131) (g' := (mkF m 44 #[.val (.int p0), .val (.int p1), .val (.int p2), .val (.int p3), .val (.int k), .val .null, .val t121, .val t125, .val (.ref b127), .unset] [])) (fun _ kq => XS.astore X131.here hx rfl (hb hby at_42) rfl rfl (l' := #[.val (.int p0), .val (.int p1), .val (.int p2), .val (.int p3), .val (.int k), .val .null, .val t121, .val t125, .val (.ref b127), .unset]) rfl kq) ?_
                refine own_by (T' := T131) (g' := (mkF m 46 #[.val (.int p0), .val (.int p1), .val (.int p2), .val (.int p3), .val (.int k), .val .null, .val t121, .val t125, .val (.ref b127), .unset] [(.int k)])) (fun _ kq => XS.iload X131.here hx rfl (hb hby at_44) rfl kq) ?_
                refine own_by (T' := T131) (g' := (mkF m 48 #[.val (.int p0), .val (.int p1), .val (.int p2), .val (.int p3), .val (.int k), .val .null, .val t121, .val t125, .val (.ref b127), .unset] [(.int (7 : Int32)), (.int k)])) (fun _ kq => XS.bipush X131.here hx rfl (hb hby at_46) kq) ?_
                refine own_by (T' := T131) (g' := (mkF m 51 #[.val (.int p0), .val (.int p1), .val (.int p2), .val (.int p3), .val (.int k), .val .null, .val t121, .val t125, .val (.ref b127), .unset] [])) (fun _ kq => XS.icmpNo X131.here hx rfl (hb hby at_48) rfl (teq (own_seven hr hc1 hc18 hc35 hc52 hc69 hc86 hc103)).2 kq) ?_
                refine own_by (T' := T131) (g' := (mkF m 52 #[.val (.int p0), .val (.int p1), .val (.int p2), .val (.int p3), .val (.int k), .val .null, .val t121, .val t125, .val (.ref b127), .unset] [(.int (1 : Int32))])) (fun _ kq => XS.iconst X131.here hx rfl (hb hby at_51) kq) ?_
                refine own_by (T' := T131) (g' := (mkF m 56 #[.val (.int p0), .val (.int p1), .val (.int p2), .val (.int p3), .val (.int k), .val .null, .val t121, .val t125, .val (.ref b127), .unset] [(.int (1 : Int32))])) (fun _ kq => XS.goto X131.here hx rfl (pc0 := 52) (pc' := 56) rfl (hb hby at_52) (by decide) (by decide) kq) ?_
                refine own_by (T' := T131) (g' := (mkF m 58 #[.val (.int p0), .val (.int p1), .val (.int p2), .val (.int p3), .val (.int k), .val .null, .val t121, .val t125, .val (.ref b127), .val (.int (1 : Int32))] [])) (fun _ kq => XS.istore X131.here hx rfl (hb hby at_56) rfl (l' := #[.val (.int p0), .val (.int p1), .val (.int p2), .val (.int p3), .val (.int k), .val .null, .val t121, .val t125, .val (.ref b127), .val (.int (1 : Int32))]) rfl kq) ?_
                refine own_by (T' := T131) (g' := (mkF m 60 #[.val (.int p0), .val (.int p1), .val (.int p2), .val (.int p3), .val (.int k), .val .null, .val t121, .val t125, .val (.ref b127), .val (.int (1 : Int32))] [(.ref b127)])) (fun _ kq => XS.aload X131.here hx rfl (hb hby at_58) rfl rfl kq) ?_
                have k133_ := (k130_.trans Kq131 (allS (Or.inr sz_b127) all0))
                refine own_callV X131 hx hZ (y := (⟨"com/example/abeyance/abeyance/records/Verdict", "accepted", "()Z"⟩ : MethodName)) (z := (⟨"com/example/abeyance/abeyance/records/Verdict", "accepted", "()Z"⟩ : MethodName)) hown (hw _ (List.mem_of_getElem? (i := 33) rfl)) (hw _ (List.mem_of_getElem? (i := 34) rfl)) (own_nf (hw _ (List.mem_of_getElem? (i := 36) rfl))) (hw _ (List.mem_of_getElem? (i := 36) rfl)) (hw _ (List.mem_of_getElem? (i := 35) rfl)) (hw _ (List.mem_of_getElem? (i := 37) rfl)) (hw _ (List.mem_of_getElem? (i := 13) rfl)) (by decide) Eq131 (own_rm6n l Z a0 hw [] b127  T131.heap n0 (Nat.le_trans Z0 k133_.1) Fq131) (by decide) (by decide) rfl (g := (mkF m 60 #[.val (.int p0), .val (.int p1), .val (.int p2), .val (.int p3), .val (.int k), .val .null, .val t121, .val t125, .val (.ref b127), .val (.int (1 : Int32))] [(.ref b127)])) rfl (by rw [hml]; rfl) (argsL := []) (rest := []) (lenOf own_pd__28_29Z rfl) rfl (W := 0) (by show 2 * 0 + _ ≤ _; exact Nat.le_of_eq rfl) (hb hby at_60) rfl (by decide) (by decide) ?_
                rintro rv134 T134 L134 X134 ⟨rfl, Nq134, eh134⟩
                have N134 := Fr.app N131 Nq134
                show own_Fin p e below _ T134 (mkF m 63 #[.val (.int p0), .val (.int p1), .val (.int p2), .val (.int p3), .val (.int k), .val .null, .val t121, .val t125, .val (.ref b127), .val (.int (1 : Int32))] [(.int (1 : Int32))])
                refine own_by (T' := T134) (g' := (mkF m 65 #[.val (.int p0), .val (.int p1), .val (.int p2), .val (.int p3), .val (.int k), .val .null, .val t121, .val t125, .val (.ref b127), .val (.int (1 : Int32))] [(.int (1 : Int32)), (.int (1 : Int32))])) (fun _ kq => XS.iload X134.here hx rfl (hb hby at_63) rfl kq) ?_
                refine own_by (T' := T134) (g' := (mkF m 68 #[.val (.int p0), .val (.int p1), .val (.int p2), .val (.int p3), .val (.int k), .val .null, .val t121, .val t125, .val (.ref b127), .val (.int (1 : Int32))] [])) (fun _ kq => XS.icmpNo X134.here hx rfl (hb hby at_65) rfl (teq (by decide : (1 : Int32) = (1 : Int32))).2 kq) ?_
                refine own_by (T' := T134) (g' := (mkF m 69 #[.val (.int p0), .val (.int p1), .val (.int p2), .val (.int p3), .val (.int k), .val .null, .val t121, .val t125, .val (.ref b127), .val (.int (1 : Int32))] [(.int (1 : Int32))])) (fun _ kq => XS.iconst X134.here hx rfl (hb hby at_68) kq) ?_
                refine own_by (T' := T134) (g' := (mkF m 73 #[.val (.int p0), .val (.int p1), .val (.int p2), .val (.int p3), .val (.int k), .val .null, .val t121, .val t125, .val (.ref b127), .val (.int (1 : Int32))] [(.int (1 : Int32))])) (fun _ kq => XS.goto X134.here hx rfl (pc0 := 69) (pc' := 73) rfl (hb hby at_69) (by decide) (by decide) kq) ?_
                have hk135_ := (Nat.le_trans (Nat.le_trans (Nat.le_refl _) E127.1) Kq131.1)
                exact own_endW X134 hS (by rw [eh134]; exact hk135_) hZ hEL (by rw [hh]; rw [eh134]; exact C132) (v := some (.int (nar .boolean (1 : Int32)))) (fun h => by rw [Bd.returns] at h; cases h) hlk (fun hr => retN X134 hx (t := .boolean) Bd.returns (by simp) (hb hby at_73) hr) (by rw [eh134]; exact ⟨rfl, N134⟩) (by decide) (by decide)
set_option maxRecDepth 65536 in
set_option maxHeartbeats 40000000 in
theorem own_comes {Post : Tables → Env → Array Value → State → Outcome → State → Prop} (hpost : ∀ tb e args s v u, (limb_1_1.after args s (.returned v) u = true ∧ limb_1_2.after args s (.returned v) u = true ∧ True) → ReturnedEndW s (.returned v) u (Jvm.fieldLocs frame_1_writes args s ++ Jvm.arrayLocs frame_1_arrays args s ++ Jvm.staticLocs frame_1_statics s) 24 1152 → Post tb e args s (.returned v) u) :
    ArmFor flags0 classFile x code maxLocals ret World_1 tables_1 room_1 Calls_1 rest_1 Pre_1 Post := by
  intro l hfl _ _ p e ha hc hk s m args below hf hA hF happ hP
  obtain ⟨hcalls, hrest, hpre⟩ := hP
  obtain ⟨-, -, -, hnamed, -, -, -, hat⟩ := (Spec.applies_iff hf).mp happ
  obtain ⟨hg, hn⟩ := and_e (Cond.before_iff.mp (show (Jvm.Cond.and given_1 narrow_1).before args s = true from hpre))
  obtain ⟨g0, g1⟩ := and_e hg
  obtain ⟨g2, g3⟩ := and_e g1
  obtain ⟨g4, g5⟩ := and_e g3
  obtain ⟨g6, g7⟩ := and_e g5
  obtain ⟨w0, w1, w2, w3, rfl⟩ : ∃ w0 w1 w2 w3 : Value, args = #[w0, w1, w2, w3] := by
    have hs : args.size = 4 := by simpa [Jvm.Cond.value, given_1] using g0
    obtain ⟨L⟩ := args
    match L, hs with
    | [w0, w1, w2, w3], _ => exact ⟨w0, w1, w2, w3, rfl⟩
  have hw := fun d (hd : d ∈ tables_1) => atoms_spec (ws := Jvm.Cond.code x code maxLocals ret :: tables_1) hat d (List.mem_cons_of_mem _ hd)
  have hfit : Fit s := fun {y c} hc i hi => by
    obtain ⟨ha, rfl⟩ := Array.getElem?_eq_some_iff.mp hc
    have q := List.all_eq_true.mp ((Array.all_eq_true_iff_forall_mem.mp hF) _ (Array.getElem_mem ha)) i (List.mem_range.mpr hi)
    simpa [Array.getElem?_eq_getElem hi] using q
  obtain ⟨i0, ei0⟩ := is_v g2
  obtain rfl : w0 = (.int i0) := Option.some.inj ei0
  obtain ⟨i1, ei1⟩ := is_v g4
  obtain rfl : w1 = (.int i1) := Option.some.inj ei1
  obtain ⟨i2, ei2⟩ := is_v g6
  obtain rfl : w2 = (.int i2) := Option.some.inj ei2
  obtain ⟨i3, ei3⟩ := is_v g7
  obtain rfl : w3 = (.int i3) := Option.some.inj ei3
  obtain ⟨g8, g9⟩ := and_e hn
  obtain ⟨g10, g11⟩ := and_e g9
  obtain ⟨g12, g13⟩ := and_e g11
  obtain ⟨g14, g15⟩ := and_e g13
  obtain ⟨g16, g17⟩ := and_e g15
  obtain ⟨g18, g19⟩ := and_e g17
  obtain ⟨a_PERCENT_NOT_ALLOWED, ea_PERCENT_NOT_ALLOWED⟩ := exa_v g8
  have E_PERCENT_NOT_ALLOWED := Exa.start ea_PERCENT_NOT_ALLOWED g8
  have S_PERCENT_NOT_ALLOWED := Sta.start ea_PERCENT_NOT_ALLOWED (Or.inr ⟨(hw _ (List.mem_of_getElem? (i := 6) rfl)), (hw _ (List.mem_of_getElem? (i := 7) rfl))⟩)
  obtain ⟨a_CHANGE_TOO_LATE, ea_CHANGE_TOO_LATE⟩ := exa_v g10
  have E_CHANGE_TOO_LATE := Exa.start ea_CHANGE_TOO_LATE g10
  have S_CHANGE_TOO_LATE := Sta.start ea_CHANGE_TOO_LATE (Or.inr ⟨(hw _ (List.mem_of_getElem? (i := 6) rfl)), (hw _ (List.mem_of_getElem? (i := 39) rfl))⟩)
  obtain ⟨a_IN_SERVICE_TOO_EARLY, ea_IN_SERVICE_TOO_EARLY⟩ := exa_v g12
  have E_IN_SERVICE_TOO_EARLY := Exa.start ea_IN_SERVICE_TOO_EARLY g12
  have S_IN_SERVICE_TOO_EARLY := Sta.start ea_IN_SERVICE_TOO_EARLY (Or.inr ⟨(hw _ (List.mem_of_getElem? (i := 6) rfl)), (hw _ (List.mem_of_getElem? (i := 41) rfl))⟩)
  obtain ⟨a_TOO_LATE, ea_TOO_LATE⟩ := exa_v g14
  have E_TOO_LATE := Exa.start ea_TOO_LATE g14
  have S_TOO_LATE := Sta.start ea_TOO_LATE (Or.inr ⟨(hw _ (List.mem_of_getElem? (i := 6) rfl)), (hw _ (List.mem_of_getElem? (i := 74) rfl))⟩)
  obtain ⟨a_INSTALLMENTS_NOT_ALLOWED, ea_INSTALLMENTS_NOT_ALLOWED⟩ := exa_v g16
  have E_INSTALLMENTS_NOT_ALLOWED := Exa.start ea_INSTALLMENTS_NOT_ALLOWED g16
  have S_INSTALLMENTS_NOT_ALLOWED := Sta.start ea_INSTALLMENTS_NOT_ALLOWED (Or.inr ⟨(hw _ (List.mem_of_getElem? (i := 6) rfl)), (hw _ (List.mem_of_getElem? (i := 76) rfl))⟩)
  obtain ⟨a_CHANGE_TOO_SHORT, ea_CHANGE_TOO_SHORT⟩ := exa_v g18
  have E_CHANGE_TOO_SHORT := Exa.start ea_CHANGE_TOO_SHORT g18
  have S_CHANGE_TOO_SHORT := Sta.start ea_CHANGE_TOO_SHORT (Or.inr ⟨(hw _ (List.mem_of_getElem? (i := 6) rfl)), (hw _ (List.mem_of_getElem? (i := 78) rfl))⟩)
  obtain ⟨a_CHANGE_NOT_ALLOWED, ea_CHANGE_NOT_ALLOWED⟩ := exa_v g19
  have E_CHANGE_NOT_ALLOWED := Exa.start ea_CHANGE_NOT_ALLOWED g19
  have S_CHANGE_NOT_ALLOWED := Sta.start ea_CHANGE_NOT_ALLOWED (Or.inr ⟨(hw _ (List.mem_of_getElem? (i := 6) rfl)), (hw _ (List.mem_of_getElem? (i := 80) rfl))⟩)
  obtain ⟨hsets, hown0⟩ := atoms_of _ (rest_1_c_eq ▸ (show rest_1_c.before _ s = true from hrest))
  have hr0 := Cond.before_iff.mp hown0
  obtain ⟨zCS, eCS⟩ := is_v (Cond.before_iff.mp (hsets _ (List.mem_of_getElem? (i := 1) rfl)))
  have S_CS := Sta.start eCS (Or.inl (hsets _ (List.mem_of_getElem? (i := 0) rfl)))
  have hcw : Jvm.Lit.compactW.before _ s = true := (hsets _ (List.mem_of_getElem? (i := 2) rfl))
  have nCS : ¬ zCS = 0 := fun q => by subst q; have hq := not_v (Cond.before_iff.mp (hsets _ (List.mem_of_getElem? (i := 2) rfl))); simp [Jvm.Cond.value, eCS, Term.int_eval] at hq
  have CH0 : CHv s consts_1 s.vm s.heap := CHv.start (own_hEL hw) (fun p hp => hcalls.1 p hp) hcw (hw _ (List.mem_of_getElem? (i := 55) rfl)) (hw _ (List.mem_of_getElem? (i := 43) rfl))
  obtain ⟨n, o, h1, h2, h3, _, L, rfl, ⟨rfl, N⟩, -, hq⟩ := own_rm0 l s _ hw tables_1 i0 i1 i2 i3 a_PERCENT_NOT_ALLOWED a_TOO_LATE a_IN_SERVICE_TOO_EARLY a_INSTALLMENTS_NOT_ALLOWED a_CHANGE_TOO_LATE a_CHANGE_TOO_SHORT a_CHANGE_NOT_ALLOWED zCS s.heap s.heap.size (Nat.le_refl _) S_PERCENT_NOT_ALLOWED S_TOO_LATE S_IN_SERVICE_TOO_EARLY S_INSTALLMENTS_NOT_ALLOWED S_CHANGE_TOO_LATE S_CHANGE_TOO_SHORT S_CHANGE_NOT_ALLOWED S_CS nCS (Old.start s) p e ha hc hk s m _ below hf ((Spec.applies_iff_loose hf).mp happ).1 ⟨rfl, State.Warmed39.refl s, rfl, CH0⟩ trivial
  refine ⟨n, _, h1, h2, h3, hpost _ _ _ _ _ _ ⟨Cond.after_iff.mpr rfl, Cond.after_iff.mpr (eq_i res_at (Term.int_eval (1)) rfl), trivial⟩ ⟨hq.1, hq.2.1, hq.2.2.1, (hq.2.2.2.sift fun y hy => Or.inr (N y hy)).mono (by decide) (by decide)⟩⟩
theorem main_1_1 : Claimed_1_1 := own_comes fun _ _ _ _ _ _ h hF => ⟨h.1, hF⟩
theorem main_1_2 : Claimed_1_2 := own_comes fun _ _ _ _ _ _ h hF => ⟨h.2.1, hF⟩
end Jvm.Pilot.@@N@@
namespace Jvm.Pilot.@@N@@
open Jvm Jvm.ClassFile Sem Op Lib Jvm.Free Jvm.Stand Jvm.Pilot.@@N@@.Jvm.D
/-! MADE BY PROGRAM (witnessworld.py) out of the Statement's table words and the real class files: 24 classes; the members and pool entries that the words name. The judged class is class 1, her method 3. -/
namespace start1
open Jvm.ClassFile
def u (s : String) : CpInfo := .utf8 (stringToUtf16 s)
/-- a pool by its gaps: so many unusable entries, then the entry; so many at the end -/
def gap : Nat → List CpInfo → List CpInfo
  | 0, r => r
  | n + 1, r => .unusable :: gap n r
def poolList (es : List (Nat × CpInfo)) (last : Nat) : List CpInfo := es.foldr (fun e r => gap e.1 (e.2 :: r)) (gap last [])
def pool (es : List (Nat × CpInfo)) (last : Nat) : Array CpInfo := ⟨poolList es last⟩
def fileOf (pool : Array CpInfo) (this : Nat) (attrs : Array Attribute := #[]) (ms : Array MethodInfo := #[]) (fl : Nat := 33) (sup : Nat := 0) (ifs : Array Nat := #[]) (fds : Array FieldInfo := #[]) : ClassFile where
  minorVersion := 0
  majorVersion := 65
  constantPool := pool
  accessFlags := fl
  thisClass := this
  superClass := sup
  interfaces := ifs
  fields := fds
  methods := ms
  attributes := attrs
def plain (name : String) (sup : Option ClassId) : Class where
  name := name
  kind := .ordinary
  loader := none
  accessFlags := 33
  super := sup
  interfaces := #[]
  cf := none
  fields := #[]
  methods := #[]
  instanceTypes := #[]
  staticTypes := #[]
  resolved := #[]
  callSites := []
  init := .initialized
  statics := none
  mirror := none

def pool0 : Array CpInfo := pool [(5, u "<init>"), (0, u "()V"), (1, .class_ 10), (1, u "java/lang/Object")] 113

def k0c0 : Code := { maxStack := 0, maxLocals := 1, code := object_method_1_code, exceptionTable := #[], attributes := #[] }
def k0m0 : Method := { name := "<init>", desc := "()V", sig := { parameters := [], returnType := none }, accessFlags := 1, code := some k0c0 }
/-- java/lang/Object -/
def k0 : Class := { plain "java/lang/Object" none with
  accessFlags := 33
  interfaces := #[]
  cf := some (fileOf pool0 8 #[] #[{ accessFlags := 1, nameIndex := 5, descriptorIndex := 6, attributes := #[] }] 33 0 #[] #[])
  fields := #[]
  methods := #[k0m0]
  instanceTypes := #[]
  staticTypes := #[]
  resolved := Array.replicate 124 none
  statics := none }

def pool1 : Array CpInfo := pool [(2, .class_ 4), (1, u "java/lang/Object"), (0, u "<init>"), (0, u "()V"), (0, .fieldref 8 9), (0, .class_ 10), (0, .nameAndType 11 12), (0, u "com/example/abeyance/abeyance/records/Refusal"), (0, u "PERCENT_NOT_ALLOWED"), (0, u "Lcom/example/abeyance/abeyance/records/Refusal;"), (0, .fieldref 8 14), (0, .nameAndType 15 12), (0, u "TOO_LATE"), (0, .fieldref 8 17), (0, .nameAndType 18 12), (0, u "IN_SERVICE_TOO_EARLY"), (0, .fieldref 8 20), (0, .nameAndType 21 12), (0, u "INSTALLMENTS_NOT_ALLOWED"), (0, .fieldref 8 23), (0, .nameAndType 24 12), (0, u "CHANGE_TOO_LATE"), (0, .fieldref 8 26), (0, .nameAndType 27 12), (0, u "CHANGE_TOO_SHORT"), (0, .fieldref 8 29), (0, .nameAndType 30 12), (0, u "CHANGE_NOT_ALLOWED"), (0, .class_ 32), (0, u "java/lang/String"), (0, .methodref 31 34), (0, .nameAndType 5 35), (0, u "([C)V"), (0, .integer 2147483647), (0, .methodref 38 39), (0, .class_ 40), (0, .nameAndType 41 42), (0, u "com/example/abeyance/abeyance/records/VerdictAcceptedPinLaw"), (0, u "pick"), (0, u "(I)Lcom/example/abeyance/abeyance/records/Refusal;"), (0, .methodref 38 44), (0, .nameAndType 45 46), (0, u "text"), (0, u "(I)Ljava/lang/String;"), (0, .class_ 48), (0, u "com/example/abeyance/abeyance/records/Verdict"), (0, .methodref 47 50), (0, .nameAndType 5 51), (0, u "(Ljava/lang/String;ILjava/lang/String;Lcom/example/abeyance/abeyance/records/Refusal;)V"), (0, .methodref 47 53), (0, .nameAndType 54 55), (0, u "accepted"), (0, u "()Z"), (3, u "law"), (0, u "(IIII)Z")] 2

def k1m0 : Method := { name := "<init>", desc := "()V", sig := { parameters := [], returnType := none }, accessFlags := 2, code := none }
def k1c1 : Code := { maxStack := 2, maxLocals := 1, code := method_2_code, exceptionTable := #[], attributes := #[] }
def k1m1 : Method := { name := "pick", desc := "(I)Lcom/example/abeyance/abeyance/records/Refusal;", sig := { parameters := [.int], returnType := some (.object "com/example/abeyance/abeyance/records/Refusal") }, accessFlags := 10, code := some k1c1 }
def k1c2 : Code := { maxStack := 4, maxLocals := 3, code := method_3_code, exceptionTable := #[], attributes := #[] }
def k1m2 : Method := { name := "text", desc := "(I)Ljava/lang/String;", sig := { parameters := [.int], returnType := some (.object "java/lang/String") }, accessFlags := 10, code := some k1c2 }
def k1c3 : Code := { maxStack := 6, maxLocals := 10, code := code, exceptionTable := #[], attributes := #[] }
def k1m3 : Method := { name := "law", desc := "(IIII)Z", sig := { parameters := [.int, .int, .int, .int], returnType := some .boolean }, accessFlags := 9, code := some k1c3 }
/-- com/example/abeyance/abeyance/records/VerdictAcceptedPinLaw -/
def k1 : Class := { plain "com/example/abeyance/abeyance/records/VerdictAcceptedPinLaw" (some 0) with
  accessFlags := 49
  interfaces := #[]
  cf := some (fileOf pool1 38 #[] #[{ accessFlags := 2, nameIndex := 5, descriptorIndex := 6, attributes := #[] }, { accessFlags := 10, nameIndex := 41, descriptorIndex := 42, attributes := #[] }, { accessFlags := 10, nameIndex := 45, descriptorIndex := 46, attributes := #[] }, { accessFlags := 9, nameIndex := 59, descriptorIndex := 60, attributes := #[] }] 49 2 #[] #[])
  fields := #[]
  methods := #[k1m0, k1m1, k1m2, k1m3]
  instanceTypes := #[]
  staticTypes := #[]
  resolved := Array.replicate 63 none
  statics := none }

def pool2 : Array CpInfo := pool [(1, .class_ 2), (0, u "java/lang/constant/Constable"), (0, .class_ 4), (0, u "java/lang/Object")] 6

/-- java/lang/constant/Constable -/
def k2 : Class := { plain "java/lang/constant/Constable" (some 0) with
  accessFlags := 1537
  interfaces := #[]
  cf := some (fileOf pool2 1 #[] #[] 1537 3 #[] #[])
  fields := #[]
  methods := #[]
  instanceTypes := #[]
  staticTypes := #[]
  resolved := Array.replicate 11 none
  statics := none }

def pool3 : Array CpInfo := pool [(1, .class_ 2), (0, u "java/lang/Comparable"), (0, .class_ 4), (0, u "java/lang/Object")] 7

/-- java/lang/Comparable -/
def k3 : Class := { plain "java/lang/Comparable" (some 0) with
  accessFlags := 1537
  interfaces := #[]
  cf := some (fileOf pool3 1 #[] #[] 1537 3 #[] #[])
  fields := #[]
  methods := #[]
  instanceTypes := #[]
  staticTypes := #[]
  resolved := Array.replicate 12 none
  statics := none }

def pool4 : Array CpInfo := pool [(1, .class_ 2), (0, u "java/io/Serializable"), (0, .class_ 4), (0, u "java/lang/Object")] 2

/-- java/io/Serializable -/
def k4 : Class := { plain "java/io/Serializable" (some 0) with
  accessFlags := 1537
  interfaces := #[]
  cf := some (fileOf pool4 1 #[] #[] 1537 3 #[] #[])
  fields := #[]
  methods := #[]
  instanceTypes := #[]
  staticTypes := #[]
  resolved := Array.replicate 7 none
  statics := none }

def pool5 : Array CpInfo := pool [(2, .class_ 4), (1, u "java/lang/Enum"), (0, u "name"), (0, u "Ljava/lang/String;"), (2, u "ordinal"), (0, u "I"), (1, .class_ 14), (1, u "java/lang/Object"), (4, u "hash"), (86, .class_ 108), (1, u "java/lang/Enum$EnumDesc"), (2, .class_ 112), (0, u "java/lang/constant/Constable"), (0, .class_ 114), (0, u "java/lang/Comparable"), (0, .class_ 116), (0, u "java/io/Serializable")] 87

/-- java/lang/Enum -/
def k5 : Class := { plain "java/lang/Enum" (some 0) with
  accessFlags := 1057
  interfaces := #[2, 3, 4]
  cf := some (fileOf pool5 2 #[.nestMembers #[106]] #[] 1057 12 #[111, 113, 115] #[{ accessFlags := 18, nameIndex := 5, descriptorIndex := 6, attributes := #[] }, { accessFlags := 18, nameIndex := 9, descriptorIndex := 10, attributes := #[] }, { accessFlags := 2, nameIndex := 19, descriptorIndex := 10, attributes := #[] }])
  fields := #[{ name := "name", type := (.object "java/lang/String"), accessFlags := 18, slot := 0, constantValue := 0 }, { name := "ordinal", type := .int, accessFlags := 18, slot := 1, constantValue := 0 }, { name := "hash", type := .int, accessFlags := 2, slot := 2, constantValue := 0 }]
  methods := #[]
  instanceTypes := #[(.object "java/lang/String"), .int, .int]
  staticTypes := #[]
  resolved := Array.replicate 204 none
  statics := none }

def pool6 : Array CpInfo := pool [(1, .class_ 2), (0, u "com/example/abeyance/abeyance/Keywords$Hyphenated"), (0, .class_ 4), (0, u "java/lang/Object"), (3, .class_ 9), (0, u "com/example/abeyance/abeyance/Keywords")] 2

/-- com/example/abeyance/abeyance/Keywords$Hyphenated -/
def k6 : Class := { plain "com/example/abeyance/abeyance/Keywords$Hyphenated" (some 0) with
  accessFlags := 1537
  interfaces := #[]
  cf := some (fileOf pool6 1 #[.nestHost 8] #[] 1537 3 #[] #[])
  fields := #[]
  methods := #[]
  instanceTypes := #[]
  staticTypes := #[]
  resolved := Array.replicate 12 none
  statics := none }

def pool7 : Array CpInfo := pool [(1, .class_ 2), (0, u "com/example/abeyance/abeyance/records/Refusal"), (2, u "PERCENT_NOT_ALLOWED"), (0, u "Lcom/example/abeyance/abeyance/records/Refusal;"), (2, u "TOO_LATE"), (2, u "IN_SERVICE_TOO_EARLY"), (2, u "INSTALLMENTS_NOT_ALLOWED"), (2, u "CHANGE_TOO_LATE"), (2, u "CHANGE_TOO_SHORT"), (2, u "CHANGE_NOT_ALLOWED"), (2, u "$VALUES"), (0, u "[Lcom/example/abeyance/abeyance/records/Refusal;"), (6, .class_ 37), (1, u "java/lang/Enum"), (18, .class_ 57), (0, u "com/example/abeyance/abeyance/Keywords$Hyphenated")] 15

/-- com/example/abeyance/abeyance/records/Refusal -/
def k7 : Class := { plain "com/example/abeyance/abeyance/records/Refusal" (some 5) with
  accessFlags := 16433
  interfaces := #[6]
  cf := some (fileOf pool7 1 #[] #[] 16433 35 #[56] #[{ accessFlags := 16409, nameIndex := 5, descriptorIndex := 6, attributes := #[] }, { accessFlags := 16409, nameIndex := 9, descriptorIndex := 6, attributes := #[] }, { accessFlags := 16409, nameIndex := 12, descriptorIndex := 6, attributes := #[] }, { accessFlags := 16409, nameIndex := 15, descriptorIndex := 6, attributes := #[] }, { accessFlags := 16409, nameIndex := 18, descriptorIndex := 6, attributes := #[] }, { accessFlags := 16409, nameIndex := 21, descriptorIndex := 6, attributes := #[] }, { accessFlags := 16409, nameIndex := 24, descriptorIndex := 6, attributes := #[] }, { accessFlags := 4122, nameIndex := 27, descriptorIndex := 28, attributes := #[] }])
  fields := #[{ name := "PERCENT_NOT_ALLOWED", type := (.object "com/example/abeyance/abeyance/records/Refusal"), accessFlags := 16409, slot := 0, constantValue := 0 }, { name := "TOO_LATE", type := (.object "com/example/abeyance/abeyance/records/Refusal"), accessFlags := 16409, slot := 1, constantValue := 0 }, { name := "IN_SERVICE_TOO_EARLY", type := (.object "com/example/abeyance/abeyance/records/Refusal"), accessFlags := 16409, slot := 2, constantValue := 0 }, { name := "INSTALLMENTS_NOT_ALLOWED", type := (.object "com/example/abeyance/abeyance/records/Refusal"), accessFlags := 16409, slot := 3, constantValue := 0 }, { name := "CHANGE_TOO_LATE", type := (.object "com/example/abeyance/abeyance/records/Refusal"), accessFlags := 16409, slot := 4, constantValue := 0 }, { name := "CHANGE_TOO_SHORT", type := (.object "com/example/abeyance/abeyance/records/Refusal"), accessFlags := 16409, slot := 5, constantValue := 0 }, { name := "CHANGE_NOT_ALLOWED", type := (.object "com/example/abeyance/abeyance/records/Refusal"), accessFlags := 16409, slot := 6, constantValue := 0 }, { name := "$VALUES", type := (.array (.object "com/example/abeyance/abeyance/records/Refusal")), accessFlags := 4122, slot := 7, constantValue := 0 }]
  methods := #[]
  instanceTypes := #[(.object "java/lang/String"), .int, .int]
  staticTypes := #[(.object "com/example/abeyance/abeyance/records/Refusal"), (.object "com/example/abeyance/abeyance/records/Refusal"), (.object "com/example/abeyance/abeyance/records/Refusal"), (.object "com/example/abeyance/abeyance/records/Refusal"), (.object "com/example/abeyance/abeyance/records/Refusal"), (.object "com/example/abeyance/abeyance/records/Refusal"), (.object "com/example/abeyance/abeyance/records/Refusal"), (.array (.object "com/example/abeyance/abeyance/records/Refusal"))]
  resolved := Array.replicate 73 none
  statics := some 0 }

def pool8 : Array CpInfo := pool [(1, .methodref 2 3), (0, .class_ 4), (0, .nameAndType 5 6), (0, u "java/lang/Object"), (0, u "<init>"), (0, u "()V"), (0, .class_ 8), (0, u "java/lang/Record")] 13

def k8c0 : Code := { maxStack := 1, maxLocals := 1, code := jdk_30_method_1_code, exceptionTable := #[], attributes := #[] }
def k8m0 : Method := { name := "<init>", desc := "()V", sig := { parameters := [], returnType := none }, accessFlags := 4, code := some k8c0 }
/-- java/lang/Record -/
def k8 : Class := { plain "java/lang/Record" (some 0) with
  accessFlags := 1057
  interfaces := #[]
  cf := some (fileOf pool8 7 #[] #[{ accessFlags := 4, nameIndex := 5, descriptorIndex := 6, attributes := #[] }] 1057 2 #[] #[])
  fields := #[]
  methods := #[k8m0]
  instanceTypes := #[]
  staticTypes := #[]
  resolved := Array.replicate 22 none
  statics := none }

def pool9 : Array CpInfo := pool [(1, .methodref 2 3), (0, .class_ 4), (0, .nameAndType 5 6), (0, u "java/lang/Record"), (0, u "<init>"), (0, u "()V"), (0, .fieldref 8 9), (0, .class_ 10), (0, .nameAndType 11 12), (0, u "com/example/abeyance/abeyance/records/Verdict"), (0, u "file"), (0, u "Ljava/lang/String;"), (0, .fieldref 8 14), (0, .nameAndType 15 16), (0, u "line"), (0, u "I"), (0, .fieldref 8 18), (0, .nameAndType 19 12), (0, u "participant"), (0, .fieldref 8 21), (0, .nameAndType 22 23), (0, u "refusal"), (0, u "Lcom/example/abeyance/abeyance/records/Refusal;"), (12, u "(Ljava/lang/String;ILjava/lang/String;Lcom/example/abeyance/abeyance/records/Refusal;)V"), (3, u "accepted"), (0, u "()Z")] 28

def k9c0 : Code := { maxStack := 2, maxLocals := 5, code := prog_90_method_1_code, exceptionTable := #[], attributes := #[] }
def k9m0 : Method := { name := "<init>", desc := "(Ljava/lang/String;ILjava/lang/String;Lcom/example/abeyance/abeyance/records/Refusal;)V", sig := { parameters := [(.object "java/lang/String"), .int, (.object "java/lang/String"), (.object "com/example/abeyance/abeyance/records/Refusal")], returnType := none }, accessFlags := 1, code := some k9c0 }
def k9c1 : Code := { maxStack := 1, maxLocals := 1, code := prog_90_method_2_code, exceptionTable := #[], attributes := #[] }
def k9m1 : Method := { name := "accepted", desc := "()Z", sig := { parameters := [], returnType := some .boolean }, accessFlags := 1, code := some k9c1 }
/-- com/example/abeyance/abeyance/records/Verdict -/
def k9 : Class := { plain "com/example/abeyance/abeyance/records/Verdict" (some 8) with
  accessFlags := 49
  interfaces := #[]
  cf := some (fileOf pool9 8 #[] #[{ accessFlags := 1, nameIndex := 5, descriptorIndex := 36, attributes := #[] }, { accessFlags := 1, nameIndex := 40, descriptorIndex := 41, attributes := #[] }] 49 2 #[] #[{ accessFlags := 18, nameIndex := 11, descriptorIndex := 12, attributes := #[] }, { accessFlags := 18, nameIndex := 15, descriptorIndex := 16, attributes := #[] }, { accessFlags := 18, nameIndex := 19, descriptorIndex := 12, attributes := #[] }, { accessFlags := 18, nameIndex := 22, descriptorIndex := 23, attributes := #[] }])
  fields := #[{ name := "file", type := (.object "java/lang/String"), accessFlags := 18, slot := 0, constantValue := 0 }, { name := "line", type := .int, accessFlags := 18, slot := 1, constantValue := 0 }, { name := "participant", type := (.object "java/lang/String"), accessFlags := 18, slot := 2, constantValue := 0 }, { name := "refusal", type := (.object "com/example/abeyance/abeyance/records/Refusal"), accessFlags := 18, slot := 3, constantValue := 0 }]
  methods := #[k9m0, k9m1]
  instanceTypes := #[(.object "java/lang/String"), .int, (.object "java/lang/String"), (.object "com/example/abeyance/abeyance/records/Refusal")]
  staticTypes := #[]
  resolved := Array.replicate 70 none
  statics := none }

def pool10 : Array CpInfo := pool [(2, .class_ 4), (1, u "java/lang/CharSequence"), (42, .class_ 48), (0, u "java/lang/CharSequence$1CodePointIterator"), (10, .class_ 60), (0, u "java/lang/CharSequence$1CharIterator"), (5, .class_ 67), (0, u "java/lang/Object")] 63

/-- java/lang/CharSequence -/
def k10 : Class := { plain "java/lang/CharSequence" (some 0) with
  accessFlags := 1537
  interfaces := #[]
  cf := some (fileOf pool10 2 #[.nestMembers #[47, 59]] #[] 1537 66 #[] #[])
  fields := #[]
  methods := #[]
  instanceTypes := #[]
  staticTypes := #[]
  resolved := Array.replicate 131 none
  statics := none }

def pool11 : Array CpInfo := pool [(1, .class_ 2), (0, u "java/lang/constant/ConstantDesc"), (0, .class_ 4), (0, u "java/lang/Object")] 32

/-- java/lang/constant/ConstantDesc -/
def k11 : Class := { plain "java/lang/constant/ConstantDesc" (some 0) with
  accessFlags := 1537
  interfaces := #[]
  cf := some (fileOf pool11 1 #[] #[] 1537 3 #[] #[])
  fields := #[]
  methods := #[]
  instanceTypes := #[]
  staticTypes := #[]
  resolved := Array.replicate 37 none
  statics := none }

def pool12 : Array CpInfo := pool [(1, .methodref 2 3), (0, .class_ 4), (0, .nameAndType 5 6), (0, u "java/lang/Object"), (0, u "<init>"), (0, u "()V"), (0, .string 8), (0, u ""), (0, .fieldref 10 11), (0, .class_ 12), (0, .nameAndType 13 14), (0, u "java/lang/String"), (0, u "value"), (0, u "[B"), (0, .fieldref 10 16), (0, .nameAndType 17 18), (0, u "coder"), (0, u "B"), (2, u "hash"), (0, u "I"), (2, u "hashIsZero"), (0, u "Z"), (0, .methodref 10 28), (0, .nameAndType 5 29), (0, u "([CIILjava/lang/Void;)V"), (8, .fieldref 10 39), (0, .nameAndType 40 26), (0, u "COMPACT_STRINGS"), (1, .class_ 44), (1, u "java/lang/StringUTF16"), (0, u "compress"), (1, .methodref 42 48), (0, .nameAndType 49 50), (0, u "coderFromArrayLen"), (0, u "([BI)B"), (126, .methodref 42 178), (0, .nameAndType 45 179), (0, u "([CII)[B"), (395, .class_ 576), (0, u "java/lang/CharSequence"), (22, u "CASE_INSENSITIVE_ORDER"), (0, u "Ljava/util/Comparator;"), (409, u "([C)V"), (90, u "serialPersistentFields"), (0, u "[Ljava/io/ObjectStreamField;"), (0, .class_ 1104), (0, u "java/lang/String$CaseInsensitiveComparator"), (1, .class_ 1107), (0, u "java/io/Serializable"), (0, .class_ 1109), (0, u "java/lang/Comparable"), (0, .class_ 1111), (0, u "java/lang/constant/Constable"), (0, .class_ 1113), (0, u "java/lang/constant/ConstantDesc"), (2, u "serialVersionUID"), (0, u "J"), (3, u "REPL"), (0, u "C"), (2, u "LATIN1"), (1, u "UTF16")] 323

def k12m0 : Method := { name := "<init>", desc := "()V", sig := { parameters := [], returnType := none }, accessFlags := 1, code := none }
def k12c1 : Code := { maxStack := 5, maxLocals := 2, code := jdk_42_method_3_code, exceptionTable := #[], attributes := #[] }
def k12m1 : Method := { name := "<init>", desc := "([C)V", sig := { parameters := [(.array .char)], returnType := none }, accessFlags := 1, code := some k12c1 }
def k12c2 : Code := { maxStack := 4, maxLocals := 6, code := jdk_42_method_149_code, exceptionTable := #[], attributes := #[] }
def k12m2 : Method := { name := "<init>", desc := "([CIILjava/lang/Void;)V", sig := { parameters := [(.array .char), .int, .int, (.object "java/lang/Void")], returnType := none }, accessFlags := 2, code := some k12c2 }
/-- java/lang/String -/
def k12 : Class := { plain "java/lang/String" (some 0) with
  accessFlags := 49
  interfaces := #[4, 3, 10, 2, 11]
  cf := some (fileOf pool12 10 #[.nestMembers #[1103]] #[{ accessFlags := 1, nameIndex := 5, descriptorIndex := 6, attributes := #[] }, { accessFlags := 1, nameIndex := 5, descriptorIndex := 1010, attributes := #[] }, { accessFlags := 2, nameIndex := 5, descriptorIndex := 29, attributes := #[] }] 49 2 #[1106, 1108, 575, 1110, 1112] #[{ accessFlags := 18, nameIndex := 13, descriptorIndex := 14, attributes := #[] }, { accessFlags := 18, nameIndex := 17, descriptorIndex := 18, attributes := #[] }, { accessFlags := 2, nameIndex := 21, descriptorIndex := 22, attributes := #[] }, { accessFlags := 2, nameIndex := 25, descriptorIndex := 26, attributes := #[] }, { accessFlags := 26, nameIndex := 1116, descriptorIndex := 1117, attributes := #[] }, { accessFlags := 24, nameIndex := 40, descriptorIndex := 26, attributes := #[] }, { accessFlags := 26, nameIndex := 1101, descriptorIndex := 1102, attributes := #[] }, { accessFlags := 26, nameIndex := 1121, descriptorIndex := 1122, attributes := #[] }, { accessFlags := 25, nameIndex := 599, descriptorIndex := 600, attributes := #[] }, { accessFlags := 24, nameIndex := 1125, descriptorIndex := 18, attributes := #[] }, { accessFlags := 24, nameIndex := 1127, descriptorIndex := 18, attributes := #[] }])
  fields := #[{ name := "value", type := (.array .byte), accessFlags := 18, slot := 0, constantValue := 0 }, { name := "coder", type := .byte, accessFlags := 18, slot := 1, constantValue := 0 }, { name := "hash", type := .int, accessFlags := 2, slot := 2, constantValue := 0 }, { name := "hashIsZero", type := .boolean, accessFlags := 2, slot := 3, constantValue := 0 }, { name := "serialVersionUID", type := .long, accessFlags := 26, slot := 0, constantValue := 0 }, { name := "COMPACT_STRINGS", type := .boolean, accessFlags := 24, slot := 1, constantValue := 0 }, { name := "serialPersistentFields", type := (.array (.object "java/io/ObjectStreamField")), accessFlags := 26, slot := 2, constantValue := 0 }, { name := "REPL", type := .char, accessFlags := 26, slot := 3, constantValue := 0 }, { name := "CASE_INSENSITIVE_ORDER", type := (.object "java/util/Comparator"), accessFlags := 25, slot := 4, constantValue := 0 }, { name := "LATIN1", type := .byte, accessFlags := 24, slot := 5, constantValue := 0 }, { name := "UTF16", type := .byte, accessFlags := 24, slot := 6, constantValue := 0 }]
  methods := #[k12m0, k12m1, k12m2]
  instanceTypes := #[(.array .byte), .byte, .int, .boolean]
  staticTypes := #[.long, .boolean, (.array (.object "java/io/ObjectStreamField")), .char, (.object "java/util/Comparator"), .byte, .byte]
  resolved := Array.replicate 1451 none
  statics := some 1 }

def pool13 : Array CpInfo := pool [(6, .class_ 8), (1, u "java/lang/Object"), (0, u "<init>"), (0, u "()V"), (1, .class_ 14), (1, u "java/lang/StringUTF16"), (31, u "$assertionsDisabled"), (0, u "Z"), (13, u "HI_BYTE_SHIFT"), (0, u "I"), (2, u "LO_BYTE_SHIFT"), (49, .methodref 12 116), (0, .nameAndType 117 118), (0, u "compress"), (0, u "([CI[BII)I"), (3, u "([CII)[B"), (138, u "coderFromArrayLen"), (0, u "([BI)B"), (106, .class_ 371), (1, u "java/lang/StringUTF16$LinesSpliterator"), (58, u "MAX_LENGTH"), (196, .class_ 628), (0, u "java/lang/StringUTF16$CodePointsSpliterator"), (0, .class_ 630), (0, u "java/lang/StringUTF16$CharsSpliterator")] 4

def k13m0 : Method := { name := "<init>", desc := "()V", sig := { parameters := [], returnType := none }, accessFlags := 0, code := none }
def k13c1 : Code := { maxStack := 2, maxLocals := 2, code := jdk_52_method_15_code, exceptionTable := #[], attributes := #[] }
def k13m1 : Method := { name := "coderFromArrayLen", desc := "([BI)B", sig := { parameters := [(.array .byte), .int], returnType := some .byte }, accessFlags := 8, code := some k13c1 }
def k13c2 : Code := { maxStack := 5, maxLocals := 6, code := jdk_52_method_16_code, exceptionTable := #[], attributes := #[] }
def k13m2 : Method := { name := "compress", desc := "([CII)[B", sig := { parameters := [(.array .char), .int, .int], returnType := some (.array .byte) }, accessFlags := 9, code := some k13c2 }
def k13c3 : Code := { maxStack := 3, maxLocals := 7, code := jdk_52_method_21_code, exceptionTable := #[], attributes := #[] }
def k13m3 : Method := { name := "compress", desc := "([CI[BII)I", sig := { parameters := [(.array .char), .int, (.array .byte), .int, .int], returnType := some .int }, accessFlags := 9, code := some k13c3 }
/-- java/lang/StringUTF16 -/
def k13 : Class := { plain "java/lang/StringUTF16" (some 0) with
  accessFlags := 48
  interfaces := #[]
  cf := some (fileOf pool13 12 #[.nestMembers #[627, 629, 369]] #[{ accessFlags := 0, nameIndex := 9, descriptorIndex := 10, attributes := #[] }, { accessFlags := 8, nameIndex := 261, descriptorIndex := 262, attributes := #[] }, { accessFlags := 9, nameIndex := 117, descriptorIndex := 122, attributes := #[] }, { accessFlags := 9, nameIndex := 117, descriptorIndex := 118, attributes := #[] }] 48 6 #[] #[{ accessFlags := 26, nameIndex := 61, descriptorIndex := 62, attributes := #[] }, { accessFlags := 26, nameIndex := 65, descriptorIndex := 62, attributes := #[] }, { accessFlags := 24, nameIndex := 430, descriptorIndex := 62, attributes := #[] }, { accessFlags := 4120, nameIndex := 46, descriptorIndex := 47, attributes := #[] }])
  fields := #[{ name := "HI_BYTE_SHIFT", type := .int, accessFlags := 26, slot := 0, constantValue := 0 }, { name := "LO_BYTE_SHIFT", type := .int, accessFlags := 26, slot := 1, constantValue := 0 }, { name := "MAX_LENGTH", type := .int, accessFlags := 24, slot := 2, constantValue := 0 }, { name := "$assertionsDisabled", type := .boolean, accessFlags := 4120, slot := 3, constantValue := 0 }]
  methods := #[k13m0, k13m1, k13m2, k13m3]
  instanceTypes := #[]
  staticTypes := #[.int, .int, .int, .boolean]
  resolved := Array.replicate 635 none
  statics := none }

def pool14 : Array CpInfo := pool [(4, .class_ 6), (1, u "java/lang/Object"), (0, u "<init>"), (0, u "()V"), (5, .class_ 16), (1, u "java/lang/StringLatin1"), (104, u "$assertionsDisabled"), (0, u "Z"), (98, .class_ 223), (1, u "java/lang/StringLatin1$LinesSpliterator"), (166, .class_ 391), (0, u "java/lang/StringLatin1$CharsSpliterator")] 3

def k14m0 : Method := { name := "<init>", desc := "()V", sig := { parameters := [], returnType := none }, accessFlags := 0, code := none }
/-- java/lang/StringLatin1 -/
def k14 : Class := { plain "java/lang/StringLatin1" (some 0) with
  accessFlags := 48
  interfaces := #[]
  cf := some (fileOf pool14 14 #[.nestMembers #[390, 221]] #[{ accessFlags := 0, nameIndex := 7, descriptorIndex := 8, attributes := #[] }] 48 4 #[] #[{ accessFlags := 4120, nameIndex := 121, descriptorIndex := 122, attributes := #[] }])
  fields := #[{ name := "$assertionsDisabled", type := .boolean, accessFlags := 4120, slot := 0, constantValue := 0 }]
  methods := #[k14m0]
  instanceTypes := #[]
  staticTypes := #[.boolean]
  resolved := Array.replicate 395 none
  statics := none }

def pool15 : Array CpInfo := pool [(2, .class_ 4), (1, u "java/lang/Object"), (0, u "<init>"), (0, u "()V"), (17, .class_ 26), (1, u "jdk/internal/util/Preconditions"), (28, .class_ 56), (0, u "jdk/internal/util/Preconditions$4"), (57, .class_ 115), (0, u "jdk/internal/util/Preconditions$1"), (7, u "SIOOBE_FORMATTER"), (0, u "Ljava/util/function/BiFunction;"), (0, .class_ 126), (0, u "jdk/internal/util/Preconditions$2"), (3, u "AIOOBE_FORMATTER"), (0, .class_ 132), (0, u "jdk/internal/util/Preconditions$3"), (3, u "IOOBE_FORMATTER")] 57

def k15m0 : Method := { name := "<init>", desc := "()V", sig := { parameters := [], returnType := none }, accessFlags := 1, code := none }
/-- jdk/internal/util/Preconditions -/
def k15 : Class := { plain "jdk/internal/util/Preconditions" (some 0) with
  accessFlags := 33
  interfaces := #[]
  cf := some (fileOf pool15 24 #[.nestMembers #[55, 131, 125, 114]] #[{ accessFlags := 1, nameIndex := 5, descriptorIndex := 6, attributes := #[] }] 33 2 #[] #[{ accessFlags := 25, nameIndex := 123, descriptorIndex := 124, attributes := #[] }, { accessFlags := 25, nameIndex := 130, descriptorIndex := 124, attributes := #[] }, { accessFlags := 25, nameIndex := 136, descriptorIndex := 124, attributes := #[] }])
  fields := #[{ name := "SIOOBE_FORMATTER", type := (.object "java/util/function/BiFunction"), accessFlags := 25, slot := 0, constantValue := 0 }, { name := "AIOOBE_FORMATTER", type := (.object "java/util/function/BiFunction"), accessFlags := 25, slot := 1, constantValue := 0 }, { name := "IOOBE_FORMATTER", type := (.object "java/util/function/BiFunction"), accessFlags := 25, slot := 2, constantValue := 0 }]
  methods := #[k15m0]
  instanceTypes := #[]
  staticTypes := #[(.object "java/util/function/BiFunction"), (.object "java/util/function/BiFunction"), (.object "java/util/function/BiFunction")]
  resolved := Array.replicate 194 none
  statics := some 2 }

def pool16 : Array CpInfo := pool [(9, u "<init>"), (6, .class_ 18), (1, u "java/lang/Object"), (0, u "()V"), (1, .class_ 23), (1, u "jdk/internal/util/ArraysSupport"), (0, u "LOG2_ARRAY_LONG_INDEX_SCALE"), (0, u "I"), (2, u "U"), (0, u "Ljdk/internal/misc/Unsafe;"), (8, u "BIG_ENDIAN"), (0, u "Z"), (8, u "LOG2_BYTE_BIT_SIZE"), (4, u "LOG2_ARRAY_INT_INDEX_SCALE"), (54, u "JLA"), (0, u "Ljdk/internal/access/JavaLangAccess;"), (11, u "LOG2_ARRAY_BOOLEAN_INDEX_SCALE"), (9, u "LOG2_ARRAY_BYTE_INDEX_SCALE"), (5, u "LOG2_ARRAY_CHAR_INDEX_SCALE"), (5, u "LOG2_ARRAY_SHORT_INDEX_SCALE"), (18, u "LOG2_ARRAY_FLOAT_INDEX_SCALE"), (24, u "LOG2_ARRAY_DOUBLE_INDEX_SCALE"), (89, u "T_BOOLEAN"), (2, u "T_CHAR"), (1, u "T_FLOAT"), (1, u "T_DOUBLE"), (1, u "T_BYTE"), (1, u "T_SHORT"), (1, u "T_INT"), (1, u "T_LONG"), (1, u "SOFT_MAX_ARRAY_LENGTH")] 83

def k16m0 : Method := { name := "<init>", desc := "()V", sig := { parameters := [], returnType := none }, accessFlags := 2, code := none }
/-- jdk/internal/util/ArraysSupport -/
def k16 : Class := { plain "jdk/internal/util/ArraysSupport" (some 0) with
  accessFlags := 33
  interfaces := #[]
  cf := some (fileOf pool16 21 #[] #[{ accessFlags := 2, nameIndex := 9, descriptorIndex := 19, attributes := #[] }] 33 16 #[] #[{ accessFlags := 24, nameIndex := 28, descriptorIndex := 29, attributes := #[] }, { accessFlags := 26, nameIndex := 38, descriptorIndex := 39, attributes := #[] }, { accessFlags := 25, nameIndex := 121, descriptorIndex := 25, attributes := #[] }, { accessFlags := 25, nameIndex := 131, descriptorIndex := 25, attributes := #[] }, { accessFlags := 25, nameIndex := 137, descriptorIndex := 25, attributes := #[] }, { accessFlags := 25, nameIndex := 143, descriptorIndex := 25, attributes := #[] }, { accessFlags := 25, nameIndex := 53, descriptorIndex := 25, attributes := #[] }, { accessFlags := 25, nameIndex := 24, descriptorIndex := 25, attributes := #[] }, { accessFlags := 25, nameIndex := 162, descriptorIndex := 25, attributes := #[] }, { accessFlags := 25, nameIndex := 187, descriptorIndex := 25, attributes := #[] }, { accessFlags := 26, nameIndex := 48, descriptorIndex := 25, attributes := #[] }, { accessFlags := 25, nameIndex := 277, descriptorIndex := 25, attributes := #[] }, { accessFlags := 25, nameIndex := 280, descriptorIndex := 25, attributes := #[] }, { accessFlags := 25, nameIndex := 282, descriptorIndex := 25, attributes := #[] }, { accessFlags := 25, nameIndex := 284, descriptorIndex := 25, attributes := #[] }, { accessFlags := 25, nameIndex := 286, descriptorIndex := 25, attributes := #[] }, { accessFlags := 25, nameIndex := 288, descriptorIndex := 25, attributes := #[] }, { accessFlags := 25, nameIndex := 290, descriptorIndex := 25, attributes := #[] }, { accessFlags := 25, nameIndex := 292, descriptorIndex := 25, attributes := #[] }, { accessFlags := 26, nameIndex := 108, descriptorIndex := 109, attributes := #[] }, { accessFlags := 25, nameIndex := 294, descriptorIndex := 25, attributes := #[] }])
  fields := #[{ name := "U", type := (.object "jdk/internal/misc/Unsafe"), accessFlags := 24, slot := 0, constantValue := 0 }, { name := "BIG_ENDIAN", type := .boolean, accessFlags := 26, slot := 1, constantValue := 0 }, { name := "LOG2_ARRAY_BOOLEAN_INDEX_SCALE", type := .int, accessFlags := 25, slot := 2, constantValue := 0 }, { name := "LOG2_ARRAY_BYTE_INDEX_SCALE", type := .int, accessFlags := 25, slot := 3, constantValue := 0 }, { name := "LOG2_ARRAY_CHAR_INDEX_SCALE", type := .int, accessFlags := 25, slot := 4, constantValue := 0 }, { name := "LOG2_ARRAY_SHORT_INDEX_SCALE", type := .int, accessFlags := 25, slot := 5, constantValue := 0 }, { name := "LOG2_ARRAY_INT_INDEX_SCALE", type := .int, accessFlags := 25, slot := 6, constantValue := 0 }, { name := "LOG2_ARRAY_LONG_INDEX_SCALE", type := .int, accessFlags := 25, slot := 7, constantValue := 0 }, { name := "LOG2_ARRAY_FLOAT_INDEX_SCALE", type := .int, accessFlags := 25, slot := 8, constantValue := 0 }, { name := "LOG2_ARRAY_DOUBLE_INDEX_SCALE", type := .int, accessFlags := 25, slot := 9, constantValue := 0 }, { name := "LOG2_BYTE_BIT_SIZE", type := .int, accessFlags := 26, slot := 10, constantValue := 0 }, { name := "T_BOOLEAN", type := .int, accessFlags := 25, slot := 11, constantValue := 0 }, { name := "T_CHAR", type := .int, accessFlags := 25, slot := 12, constantValue := 0 }, { name := "T_FLOAT", type := .int, accessFlags := 25, slot := 13, constantValue := 0 }, { name := "T_DOUBLE", type := .int, accessFlags := 25, slot := 14, constantValue := 0 }, { name := "T_BYTE", type := .int, accessFlags := 25, slot := 15, constantValue := 0 }, { name := "T_SHORT", type := .int, accessFlags := 25, slot := 16, constantValue := 0 }, { name := "T_INT", type := .int, accessFlags := 25, slot := 17, constantValue := 0 }, { name := "T_LONG", type := .int, accessFlags := 25, slot := 18, constantValue := 0 }, { name := "JLA", type := (.object "jdk/internal/access/JavaLangAccess"), accessFlags := 26, slot := 19, constantValue := 0 }, { name := "SOFT_MAX_ARRAY_LENGTH", type := .int, accessFlags := 25, slot := 20, constantValue := 0 }]
  methods := #[k16m0]
  instanceTypes := #[]
  staticTypes := #[(.object "jdk/internal/misc/Unsafe"), .boolean, .int, .int, .int, .int, .int, .int, .int, .int, .int, .int, .int, .int, .int, .int, .int, .int, .int, (.object "jdk/internal/access/JavaLangAccess"), .int]
  resolved := Array.replicate 378 none
  statics := none }

def pool17 : Array CpInfo := pool [(1, u "java/lang/Cloneable"), (0, .class_ 1), (0, u "java/lang/Object"), (0, .class_ 3)] 3

/-- java/lang/Cloneable -/
def k17 : Class := { plain "java/lang/Cloneable" (some 0) with
  accessFlags := 1537
  interfaces := #[]
  cf := some (fileOf pool17 2 #[] #[] 1537 4 #[] #[])
  fields := #[]
  methods := #[]
  instanceTypes := #[]
  staticTypes := #[]
  resolved := Array.replicate 8 none
  statics := none }

/-- the primitive byte -/
def k18 : Class := { plain "byte" none with kind := .primitive 'B', accessFlags := 0x411 }
/-- [B -/
def k19 : Class := { plain "[B" (some 0) with kind := .array 18 .byte, interfaces := #[17, 4], accessFlags := 1041 }

/-- the primitive char -/
def k20 : Class := { plain "char" none with kind := .primitive 'C', accessFlags := 0x411 }
/-- [C -/
def k21 : Class := { plain "[C" (some 0) with kind := .array 20 .char, interfaces := #[17, 4], accessFlags := 1041 }

/-- the primitive int -/
def k22 : Class := { plain "int" none with kind := .primitive 'I', accessFlags := 0x411 }
/-- [I -/
def k23 : Class := { plain "[I" (some 0) with kind := .array 22 .int, interfaces := #[17, 4], accessFlags := 1041 }

def heap : Heap := #[{ cls := 7, slots := #[.ref 3, .ref 6, .ref 5, .ref 7, .ref 4, .ref 8, .ref 9, .null], vm := .statics 7 },
  { cls := 12, slots := #[.long 0, .int 1, .null, .int 0, .null, .int 0, .int 0], vm := .statics 12 },
  { cls := 15, slots := #[.null, .null, .null], vm := .statics 15 },
  { cls := 7, slots := #[.null, .int 0, .int 0], vm := .none },
  { cls := 7, slots := #[.null, .int 0, .int 0], vm := .none },
  { cls := 7, slots := #[.null, .int 0, .int 0], vm := .none },
  { cls := 7, slots := #[.null, .int 0, .int 0], vm := .none },
  { cls := 7, slots := #[.null, .int 0, .int 0], vm := .none },
  { cls := 7, slots := #[.null, .int 0, .int 0], vm := .none },
  { cls := 7, slots := #[.null, .int 0, .int 0], vm := .none }]
def classes : Array Class := #[k0, k1, k2, k3, k4, k5, k6, k7, k8, k9, k10, k11, k12, k13, k14, k15, k16, k17, k18, k19, k20, k21, k22, k23]
def interned : List (Array UInt16 × Addr) := []
def slotsUsed : Nat := 39
def theMethod : MethodId := ⟨1, 3⟩
def args0 : Array Value := #[.int 5, .int 5, .int 5, .int 5]
def aboutOver (below : List Frame) : State where
  vm := { classes := classes, interned := interned.toArray }
  heap := heap
  slotsUsed := slotsUsed
  threads := #[{ frames := .invoking theMethod args0 :: below }]
def below0 : List Frame := [.native { method := ⟨0, 0⟩, args := #[] }]
def about1 : State := aboutOver below0
def p0 : Program := .bare "" "" ""
def e0 : Env := launch0.env 0 0 0
theorem w_frames : about1.frames = Frame.invoking theMethod args0 :: below0 := rfl
set_option maxRecDepth 65536 in
theorem w_args : argsFit about1.vm theMethod args0 = true := by decide +kernel
set_option maxRecDepth 65536 in
theorem w_heap : heapFits about1 = true := by decide +kernel
set_option maxRecDepth 65536 in
theorem w_runnable : about1.curStatus? = some .runnable := by decide +kernel
set_option maxRecDepth 65536 in
theorem w_alone : about1.alone = true := by decide +kernel
set_option maxRecDepth 65536 in
theorem w_named : about1.methodNamed? x = some theMethod := by decide +kernel
set_option maxRecDepth 65536 in
theorem w_hears : about1.hears theMethod below0 = true := by decide +kernel
set_option maxRecDepth 65536 in
theorem w_ripe : about1.ripe theMethod args0 below0 = true := by decide +kernel
theorem w_running : about1.status = .running := rfl
set_option maxRecDepth 65536 in
theorem w_room : about1.hasRoom e0.platform room_1 = true :=
  launch0.hasRoom_least _ room_1 (by decide +kernel) (by decide +kernel) (by decide +kernel) (by decide +kernel) (by decide +kernel) (by decide +kernel)
theorem allAtoms_all (ts : List Jvm.Cond) (a : Array Jvm.Value) (st : Jvm.State) : (allAtoms ts).before a st = ts.all (fun c => c.before a st) := by
  induction ts with
  | nil => rfl
  | cons c t ih =>
    show (Jvm.Cond.and c (allAtoms t)).before a st = _
    rw [Jvm.Cond.before_and, ih, List.all_cons]
def words1 : List Jvm.Cond := Jvm.Cond.code x code maxLocals ret :: tables_1
/-- a 'code' word, met by the world's own term for the bytes: nothing is compared byte by byte -/
theorem code_word {y : MethodName} {bytes : ByteArray} {mx : Nat} {rt : Option FieldType} {a : Array Value} {s : State} {m : MethodId} {meth : Method} {c : Code} (h1 : s.methodNamed? y = some m) (h2 : s.vm.method? m = some meth) (h3 : meth.code = some c) (h4 : c.code = bytes)
    (h5 : (c.maxLocals == mx && c.exceptionTable.isEmpty && decide (c.maxStack ≤ mostOperands) && decide (meth.sig.returnType = rt) && !meth.locks && decide (parseMethodDescriptor y.desc = some meth.sig)) = true) : (Jvm.Cond.code y bytes mx rt).before a s = true := by
  simp only [Bool.and_eq_true, beq_iff_eq, Bool.not_eq_true', decide_eq_true_eq] at h5
  obtain ⟨⟨⟨⟨⟨g1, g2⟩, g3⟩, g4⟩, g5⟩, g6⟩ := h5
  simp [Cond.before, Cond.holds, Cond.value, h1, h2, h3, h4, g1, g2, g3, g4, g5, g6]
def isCode : Jvm.Cond → Bool
  | .code _ _ _ _ => true
  | _ => false
theorem all_split {L : List Jvm.Cond} {P : Jvm.Cond → Bool} (h1 : L.all (fun c => isCode c || P c) = true) (h2 : ∀ c ∈ L.filter isCode, P c = true) : L.all P = true := by
  refine List.all_eq_true.mpr fun c hc => ?_
  have h := List.all_eq_true.mp h1 c hc
  rcases Bool.eq_false_or_eq_true (isCode c) with hi | hi
  · exact h2 c (List.mem_filter.mpr ⟨hc, hi⟩)
  · simpa [hi] using h
set_option maxRecDepth 65536 in
theorem w_c0 : (Jvm.Cond.code x code maxLocals ret).before args0 about1 = true := code_word (m := ⟨1, 3⟩) (meth := k1m3) (c := k1c3) (by decide +kernel) rfl rfl rfl (by decide +kernel)
set_option maxRecDepth 65536 in
theorem w_c1 : (Jvm.Cond.code ({ cls := "com/example/abeyance/abeyance/records/VerdictAcceptedPinLaw", name := "pick", desc := "(I)Lcom/example/abeyance/abeyance/records/Refusal;" } : Jvm.MethodName) method_2_code (1 : Nat) (Option.some (Jvm.ClassFile.FieldType.object "com/example/abeyance/abeyance/records/Refusal"))).before args0 about1 = true := code_word (m := ⟨1, 1⟩) (meth := k1m1) (c := k1c1) (by decide +kernel) rfl rfl rfl (by decide +kernel)
set_option maxRecDepth 65536 in
theorem w_c2 : (Jvm.Cond.code ({ cls := "com/example/abeyance/abeyance/records/VerdictAcceptedPinLaw", name := "text", desc := "(I)Ljava/lang/String;" } : Jvm.MethodName) method_3_code (3 : Nat) (Option.some (Jvm.ClassFile.FieldType.object "java/lang/String"))).before args0 about1 = true := code_word (m := ⟨1, 2⟩) (meth := k1m2) (c := k1c2) (by decide +kernel) rfl rfl rfl (by decide +kernel)
set_option maxRecDepth 65536 in
theorem w_c3 : (Jvm.Cond.code ({ cls := "com/example/abeyance/abeyance/records/Verdict", name := "<init>", desc := "(Ljava/lang/String;ILjava/lang/String;Lcom/example/abeyance/abeyance/records/Refusal;)V" } : Jvm.MethodName) prog_90_method_1_code (5 : Nat) (Option.none : Option Jvm.ClassFile.FieldType)).before args0 about1 = true := code_word (m := ⟨9, 0⟩) (meth := k9m0) (c := k9c0) (by decide +kernel) rfl rfl rfl (by decide +kernel)
set_option maxRecDepth 65536 in
theorem w_c4 : (Jvm.Cond.code ({ cls := "java/lang/Record", name := "<init>", desc := "()V" } : Jvm.MethodName) jdk_30_method_1_code (1 : Nat) (Option.none : Option Jvm.ClassFile.FieldType)).before args0 about1 = true := code_word (m := ⟨8, 0⟩) (meth := k8m0) (c := k8c0) (by decide +kernel) rfl rfl rfl (by decide +kernel)
set_option maxRecDepth 65536 in
theorem w_c5 : (Jvm.Cond.code ({ cls := "java/lang/Object", name := "<init>", desc := "()V" } : Jvm.MethodName) object_method_1_code (1 : Nat) (Option.none : Option Jvm.ClassFile.FieldType)).before args0 about1 = true := code_word (m := ⟨0, 0⟩) (meth := k0m0) (c := k0c0) (by decide +kernel) rfl rfl rfl (by decide +kernel)
set_option maxRecDepth 65536 in
theorem w_c6 : (Jvm.Cond.code ({ cls := "com/example/abeyance/abeyance/records/Verdict", name := "accepted", desc := "()Z" } : Jvm.MethodName) prog_90_method_2_code (1 : Nat) (Option.some Jvm.ClassFile.FieldType.boolean)).before args0 about1 = true := code_word (m := ⟨9, 1⟩) (meth := k9m1) (c := k9c1) (by decide +kernel) rfl rfl rfl (by decide +kernel)
set_option maxRecDepth 65536 in
theorem w_c7 : (Jvm.Cond.code ({ cls := "java/lang/String", name := "<init>", desc := "([C)V" } : Jvm.MethodName) jdk_42_method_3_code (2 : Nat) (Option.none : Option Jvm.ClassFile.FieldType)).before args0 about1 = true := code_word (m := ⟨12, 1⟩) (meth := k12m1) (c := k12c1) (by decide +kernel) rfl rfl rfl (by decide +kernel)
set_option maxRecDepth 65536 in
theorem w_c8 : (Jvm.Cond.code ({ cls := "java/lang/String", name := "<init>", desc := "([CIILjava/lang/Void;)V" } : Jvm.MethodName) jdk_42_method_149_code (6 : Nat) (Option.none : Option Jvm.ClassFile.FieldType)).before args0 about1 = true := code_word (m := ⟨12, 2⟩) (meth := k12m2) (c := k12c2) (by decide +kernel) rfl rfl rfl (by decide +kernel)
set_option maxRecDepth 65536 in
theorem w_c9 : (Jvm.Cond.code ({ cls := "java/lang/StringUTF16", name := "compress", desc := "([CII)[B" } : Jvm.MethodName) jdk_52_method_16_code (6 : Nat) (Option.some (Jvm.ClassFile.FieldType.array Jvm.ClassFile.FieldType.byte))).before args0 about1 = true := code_word (m := ⟨13, 2⟩) (meth := k13m2) (c := k13c2) (by decide +kernel) rfl rfl rfl (by decide +kernel)
set_option maxRecDepth 65536 in
theorem w_c10 : (Jvm.Cond.code ({ cls := "java/lang/StringUTF16", name := "compress", desc := "([CI[BII)I" } : Jvm.MethodName) jdk_52_method_21_code (7 : Nat) (Option.some Jvm.ClassFile.FieldType.int)).before args0 about1 = true := code_word (m := ⟨13, 3⟩) (meth := k13m3) (c := k13c3) (by decide +kernel) rfl rfl rfl (by decide +kernel)
set_option maxRecDepth 65536 in
theorem w_c11 : (Jvm.Cond.code ({ cls := "java/lang/StringUTF16", name := "coderFromArrayLen", desc := "([BI)B" } : Jvm.MethodName) jdk_52_method_15_code (2 : Nat) (Option.some Jvm.ClassFile.FieldType.byte)).before args0 about1 = true := code_word (m := ⟨13, 1⟩) (meth := k13m1) (c := k13c1) (by decide +kernel) rfl rfl rfl (by decide +kernel)
def codes1 : List Jvm.Cond := [Jvm.Cond.code x code maxLocals ret, Jvm.Cond.code ({ cls := "com/example/abeyance/abeyance/records/VerdictAcceptedPinLaw", name := "pick", desc := "(I)Lcom/example/abeyance/abeyance/records/Refusal;" } : Jvm.MethodName) method_2_code (1 : Nat) (Option.some (Jvm.ClassFile.FieldType.object "com/example/abeyance/abeyance/records/Refusal")), Jvm.Cond.code ({ cls := "com/example/abeyance/abeyance/records/VerdictAcceptedPinLaw", name := "text", desc := "(I)Ljava/lang/String;" } : Jvm.MethodName) method_3_code (3 : Nat) (Option.some (Jvm.ClassFile.FieldType.object "java/lang/String")), Jvm.Cond.code ({ cls := "com/example/abeyance/abeyance/records/Verdict", name := "<init>", desc := "(Ljava/lang/String;ILjava/lang/String;Lcom/example/abeyance/abeyance/records/Refusal;)V" } : Jvm.MethodName) prog_90_method_1_code (5 : Nat) (Option.none : Option Jvm.ClassFile.FieldType), Jvm.Cond.code ({ cls := "java/lang/Record", name := "<init>", desc := "()V" } : Jvm.MethodName) jdk_30_method_1_code (1 : Nat) (Option.none : Option Jvm.ClassFile.FieldType), Jvm.Cond.code ({ cls := "java/lang/Object", name := "<init>", desc := "()V" } : Jvm.MethodName) object_method_1_code (1 : Nat) (Option.none : Option Jvm.ClassFile.FieldType), Jvm.Cond.code ({ cls := "com/example/abeyance/abeyance/records/Verdict", name := "accepted", desc := "()Z" } : Jvm.MethodName) prog_90_method_2_code (1 : Nat) (Option.some Jvm.ClassFile.FieldType.boolean), Jvm.Cond.code ({ cls := "java/lang/String", name := "<init>", desc := "([C)V" } : Jvm.MethodName) jdk_42_method_3_code (2 : Nat) (Option.none : Option Jvm.ClassFile.FieldType), Jvm.Cond.code ({ cls := "java/lang/String", name := "<init>", desc := "([CIILjava/lang/Void;)V" } : Jvm.MethodName) jdk_42_method_149_code (6 : Nat) (Option.none : Option Jvm.ClassFile.FieldType), Jvm.Cond.code ({ cls := "java/lang/StringUTF16", name := "compress", desc := "([CII)[B" } : Jvm.MethodName) jdk_52_method_16_code (6 : Nat) (Option.some (Jvm.ClassFile.FieldType.array Jvm.ClassFile.FieldType.byte)), Jvm.Cond.code ({ cls := "java/lang/StringUTF16", name := "compress", desc := "([CI[BII)I" } : Jvm.MethodName) jdk_52_method_21_code (7 : Nat) (Option.some Jvm.ClassFile.FieldType.int), Jvm.Cond.code ({ cls := "java/lang/StringUTF16", name := "coderFromArrayLen", desc := "([BI)B" } : Jvm.MethodName) jdk_52_method_15_code (2 : Nat) (Option.some Jvm.ClassFile.FieldType.byte)]
set_option maxRecDepth 65536 in
theorem codes_eq : words1.filter isCode = codes1 := rfl
theorem w_codes : ∀ c ∈ words1.filter isCode, c.before args0 about1 = true := by
  rw [codes_eq]
  intro c hc
  simp only [codes1, List.mem_cons, List.not_mem_nil, or_false] at hc
  rcases hc with rfl | rfl | rfl | rfl | rfl | rfl | rfl | rfl | rfl | rfl | rfl | rfl
  · exact w_c0
  · exact w_c1
  · exact w_c2
  · exact w_c3
  · exact w_c4
  · exact w_c5
  · exact w_c6
  · exact w_c7
  · exact w_c8
  · exact w_c9
  · exact w_c10
  · exact w_c11
set_option maxRecDepth 65536 in
theorem w_t1 : (words1.take 24).all (fun c => isCode c || c.before args0 about1) = true := by decide +kernel
set_option maxRecDepth 65536 in
theorem w_t2 : ((words1.drop 24).take 24).all (fun c => isCode c || c.before args0 about1) = true := by decide +kernel
set_option maxRecDepth 65536 in
theorem w_t3 : (((words1.drop 24).drop 24).take 24).all (fun c => isCode c || c.before args0 about1) = true := by decide +kernel
set_option maxRecDepth 65536 in
theorem w_t4 : (((words1.drop 24).drop 24).drop 24).all (fun c => isCode c || c.before args0 about1) = true := by decide +kernel
theorem w_tables : (allAtoms (Jvm.Cond.code x code maxLocals ret :: tables_1)).before args0 about1 = true := by
  rw [allAtoms_all]
  show words1.all (fun c => c.before args0 about1) = true
  refine all_split ?_ w_codes
  rw [← List.take_append_drop 24 words1, List.all_append, w_t1, ← List.take_append_drop 24 (words1.drop 24), List.all_append, w_t2, ← List.take_append_drop 24 ((words1.drop 24).drop 24), List.all_append, w_t3, w_t4]
  rfl
set_option maxRecDepth 65536 in
theorem w_rest : rest_1_c.before args0 about1 = true := by decide +kernel
set_option maxRecDepth 65536 in
theorem w_case : (Jvm.Cond.and given_1 narrow_1).before args0 about1 = true := by decide +kernel
set_option maxRecDepth 65536 in
theorem w_consts : constsHeld consts_1 about1 := Jvm.Lit.constsHeldB_iff.mp (by decide +kernel)
theorem w_applies : (headSpec (Jvm.Cond.code x code maxLocals ret :: tables_1) room_1).applies x e0.platform about1 = true :=
  (Spec.applies_iff w_frames).mpr ⟨w_running, w_runnable, w_alone, w_named, w_hears, w_ripe, w_room, w_tables⟩
theorem atStart : AtStart classFile x code maxLocals ret World_1 tables_1 room_1 Calls_1 rest_1 Pre_1 launch0 p0 e0 about1 theMethod args0 below0 :=
  ⟨lists_1, trivial, launch0.admits_env _ _ _, launch0.least_env, fairChoices_fair.cas, fairChoices_fair.clock, w_frames, w_args, w_heap, w_applies, ⟨w_consts, trivial⟩, w_rest, w_case⟩
end start1
theorem witness_1 : WitnessClaimed_1 := ⟨start1.p0, start1.e0, start1.about1, start1.theMethod, start1.args0, start1.below0, start1.atStart⟩
end Jvm.Pilot.@@N@@
