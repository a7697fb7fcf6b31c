import JvmDerived
import JvmDerived.Pilot.@@N@@Statement
import JvmDerived.Pilot.@@N@@Code
set_option linter.unusedVariables false
set_option linter.unusedSimpArgs false
/- laws to paste: Road.backV (cut by pick.py; bodies as the Statement names them) -/
namespace Jvm.Pilot.@@N@@
namespace StrChars
open Jvm Sem ClassFile Op Lib Jvm.Stand Jvm.Free.XT Jvm.Free.ALB Jvm.Free.JM Jvm.Free
open Jvm.Lib.Cold (StaticIs)
/-- a char array whose places are chars -/
def Ch (a : Addr) (A : Cell) (U : State) : Prop := Arr .char a A U ∧ Typed .char A
theorem Ch.mv {a : Addr} {A : Cell} {U U' : State} (h : Ch a A U) (hal : U.vm.Alike U'.vm) (hh : U'.heap = U.heap) : Ch a A U' := ⟨h.1.mv hal hh, h.2⟩
theorem Ch.keep {a : Addr} {A : Cell} {U U' : State} (h : Ch a A U) (hal : U.vm.Alike U'.vm) (hk : U'.heap[a]? = some A) : Ch a A U' := ⟨h.1.keep hal hk, h.2⟩
/-- what place i of a char[]'s cell holds -/
def cv (A : Cell) (i : Nat) : Int32 := match A.slots[i]? with | some (.int x) => x | _ => 0
theorem Ch.get {a : Addr} {A : Cell} {U : State} (h : Ch a A U) {i : Nat} (hi : i < A.slots.size) : A.slots[i]? = some (.int (cv A i)) := by
  have e := Array.getElem?_eq_getElem hi
  have f := h.2 i _ e
  unfold cv; rw [e]
  generalize A.slots[i] = v at f
  cases v <;> simp [fits] at f ⊢
/-- the byte that i2b leaves of a char -/
def lo8 (x : Int32) : Int32 := x.toInt8.toInt32
theorem fits_lo8 (y : Int32) : fits .byte (.int (lo8 y)) = true := by
  have h1 := y.toInt8.le_toInt
  have h2 := y.toInt8.toInt_lt
  simp only [lo8, fits, Bool.and_eq_true, decide_eq_true_eq, Int32.le_iff_toInt_le, Int8.toInt_toInt32, show (-128 : Int32).toInt = -128 from by decide, show (127 : Int32).toInt = 127 from by decide]
  omega
/-- A' is A but that each place j of lo .. hi - 1 holds f j -/
def Laid (A A' : Cell) (lo hi : Nat) (f : Nat → Value) : Prop := A'.cls = A.cls ∧ A'.vm = A.vm ∧ A'.slots.size = A.slots.size ∧ ∀ i, A'.slots[i]? = if lo ≤ i ∧ i < hi then some (f i) else A.slots[i]?
theorem Laid.zero (A : Cell) (lo : Nat) (f : Nat → Value) : Laid A A lo (lo + 0) f := ⟨rfl, rfl, rfl, fun i => by rw [if_neg (by omega)]⟩
theorem Laid.step {A Ak : Cell} {lo k : Nat} {f : Nat → Value} {v : Value} (h : Laid A Ak lo k f) (hlo : lo ≤ k) (hk : k < Ak.slots.size) (hv : v = f k) : Laid A (Ak.setSlot k v) lo (k + 1) f := by
  refine ⟨h.1, h.2.1, by simpa [Cell.setSlot] using h.2.2.1, fun i => ?_⟩
  by_cases e : k = i
  · subst e; rw [Cell.slots_setSlot_self v hk, if_pos (by omega), hv]
  · rw [Cell.slots_setSlot_ne v e, h.2.2.2 i]
    by_cases q : lo ≤ i ∧ i < k
    · rw [if_pos q, if_pos (by omega)]
    · rw [if_neg q, if_neg (by omega)]
def U16 : String := "java/lang/StringUTF16"
namespace Cmp5
def yN : MethodName := ⟨"java/lang/StringUTF16", "compress", "([CI[BII)I"⟩
abbrev yB : ByteArray := jdk_52_method_21_code
theorem d0 : decode yB 0 = .ok (.iconst 0, 1) := by decide +kernel
theorem d1 : decode yB 1 = .ok (.istore 5, 2) := by decide +kernel
theorem d3 : decode yB 3 = .ok (.iload 5, 2) := by decide +kernel
theorem d5 : decode yB 5 = .ok (.iload 4, 2) := by decide +kernel
theorem d7 : decode yB 7 = .ok (.if_icmp (.ge) 37, 3) := by decide +kernel
theorem d10 : decode yB 10 = .ok (.aload_n 0, 1) := by decide +kernel
theorem d11 : decode yB 11 = .ok (.iload_n 1, 1) := by decide +kernel
theorem d12 : decode yB 12 = .ok (.caload, 1) := by decide +kernel
theorem d13 : decode yB 13 = .ok (.istore 6, 2) := by decide +kernel
theorem d15 : decode yB 15 = .ok (.iload 6, 2) := by decide +kernel
theorem d17 : decode yB 17 = .ok (.sipush 255, 3) := by decide +kernel
theorem d20 : decode yB 20 = .ok (.if_icmp (.le) 6, 3) := by decide +kernel
theorem d26 : decode yB 26 = .ok (.aload_n 2, 1) := by decide +kernel
theorem d27 : decode yB 27 = .ok (.iload_n 3, 1) := by decide +kernel
theorem d28 : decode yB 28 = .ok (.iload 6, 2) := by decide +kernel
theorem d30 : decode yB 30 = .ok (.i2b, 1) := by decide +kernel
theorem d31 : decode yB 31 = .ok (.bastore, 1) := by decide +kernel
theorem d32 : decode yB 32 = .ok (.iinc 1 1, 3) := by decide +kernel
theorem d35 : decode yB 35 = .ok (.iinc 3 1, 3) := by decide +kernel
theorem d38 : decode yB 38 = .ok (.iinc 5 1, 3) := by decide +kernel
theorem d41 : decode yB 41 = .ok (.goto (-38), 3) := by decide +kernel
theorem d44 : decode yB 44 = .ok (.iload 4, 2) := by decide +kernel
theorem d46 : decode yB 46 = .ok (.ireturn, 1) := by decide +kernel
def site : List Cond := []
def tab : Cond := tabOf yN yB 7 (some .int) site
def P (b : Addr) (A : Cell) (d : Addr) (B : Cell) (o q len : Nat) (args : Array Value) (s : State) : Prop := args = #[.ref b, .int (Int32.ofNat o), .ref d, .int (Int32.ofNat q), .int (Int32.ofNat len)] ∧ Ch b A s ∧ Arr .byte d B s ∧ b ≠ d ∧ o + len ≤ A.slots.size ∧ q + len ≤ B.slots.size ∧ ∀ i, i < len → ¬ 255 < cv A (o + i)
def E (b : Addr) (A : Cell) (d : Addr) (B : Cell) (o q len : Nat) (r : Option Value) (s u : State) : Prop := r = some (.int (Int32.ofNat len)) ∧ ∃ B', Put d B' s u ∧ Laid B B' q (q + len) (fun j => Value.int (lo8 (cv A (o + (j - q)))))
/-- no char of the range above 255: len; the places written hold each char's low byte -/
theorem law (l : Launch) (b : Addr) (A : Cell) (d : Addr) (B : Cell) (o q len : Nat) : Law l yN 5 5 0 0 yB 7 (some .int) site (P b A d B o q len) (E b A d B o q len) (copyLocs d q len) 0 0 := by
  refine Law.of_walk (plainFor_of_name (by decide +kernel)) (by decide +kernel) (by decide +kernel) (by decide) (fun _ _ h => by rw [h.1]; rfl) (fun _ U U' hal hh h => ⟨h.1, h.2.1.mv hal hh, h.2.2.1.mv hal hh, h.2.2.2⟩) (fun r U U' V V' h1 hal h2 h => ⟨h.1, h.2.elim fun B' q => ⟨B', q.1.mv h1 h2, q.2⟩⟩) ?_
  intro p e s m args below meth c s₁ X0 hexec hbytes hml hret hlk hnm hown hh0 W hP
  obtain ⟨rfl, hA, hB, hne, l1, l2, hp⟩ := hP
  have c1 : Steps p.tables e below (s₁.setTop (entryFrame m #[.ref b, .int (Int32.ofNat o), .ref d, .int (Int32.ofNat q), .int (Int32.ofNat len)] 7)) (s₁.setTop (mkF m 0 #[.val (.ref b), .val (.int (Int32.ofNat o)), .val (.ref d), .val (.int (Int32.ofNat q)), .val (.int (Int32.ofNat len)), .unset, .unset] [])) := entry rfl
  have hA0 := hA.1.mv X0.warmed.alike hh0
  have hB0 := hB.mv X0.warmed.alike hh0
  have a31 := hA.1.2.2.2
  have c2 : Steps p.tables e below (s₁.setTop (entryFrame m #[.ref b, .int (Int32.ofNat o), .ref d, .int (Int32.ofNat q), .int (Int32.ofNat len)] 7)) (s₁.setTop (mkF m 3 #[.val (.ref b), .val (.int (Int32.ofNat o)), .val (.ref d), .val (.int (Int32.ofNat q)), .val (.int (Int32.ofNat len)), .val (.int 0), .unset] [])) := c1.trans (by
    refine iconstV X0.here hexec rfl 0 (hb hbytes d0) (by decide) ?_
    refine XS.istore X0.here hexec rfl (hb hbytes d1) rfl rfl ?_
    exact Steps.refl _)
  have loop : ∀ (r i : Nat), i + r = len → ∀ (z : Slot), (z = .unset ∨ ∃ w, z = .val w ∧ w.category = 1) → ∀ (Tl : State) (Bk : Cell), Stand p l e { frames := 0, locals := 0, cells := 0, slots := 0 } s m #[.ref b, .int (Int32.ofNat o), .ref d, .int (Int32.ofNat q), .int (Int32.ofNat len)] below meth c Tl ([] ++ copyLocs d q i) 0 0 → Put d Bk s₁ Tl → Laid B Bk q (q + i) (fun j => Value.int (lo8 (cv A (o + (j - q))))) →
      Steps p.tables e below (s₁.setTop (entryFrame m #[.ref b, .int (Int32.ofNat o), .ref d, .int (Int32.ofNat q), .int (Int32.ofNat len)] 7)) (Tl.setTop (mkF m 3 #[.val (.ref b), .val (.int (Int32.ofNat (o + i))), .val (.ref d), .val (.int (Int32.ofNat (q + i))), .val (.int (Int32.ofNat len)), .val (.int (Int32.ofNat i)), z] [])) → ∃ (T' : State) (B' : Cell) (z' : Slot), Stand p l e { frames := 0, locals := 0, cells := 0, slots := 0 } s m #[.ref b, .int (Int32.ofNat o), .ref d, .int (Int32.ofNat q), .int (Int32.ofNat len)] below meth c T' ([] ++ copyLocs d q len) 0 0 ∧ Put d B' s₁ T' ∧ Laid B B' q (q + len) (fun j => Value.int (lo8 (cv A (o + (j - q))))) ∧
      Steps p.tables e below (s₁.setTop (entryFrame m #[.ref b, .int (Int32.ofNat o), .ref d, .int (Int32.ofNat q), .int (Int32.ofNat len)] 7)) (T'.setTop (mkF m 3 #[.val (.ref b), .val (.int (Int32.ofNat (o + len))), .val (.ref d), .val (.int (Int32.ofNat (q + len))), .val (.int (Int32.ofNat len)), .val (.int (Int32.ofNat len)), z'] [])) := by
    intro r
    induction r with
    | zero =>
      intro i hi z hz Tl Bk Xl pl fl cl
      have hil : i = len := by omega
      rw [hil] at Xl fl cl
      exact ⟨Tl, Bk, z, Xl, pl, fl, cl⟩
    | succ r ih =>
      intro i hi z hz Tl Bk Xl pl fl cl
      have all := X0.warmed.alike.symm.trans Xl.warmed.alike
      have hAl := hA0.keep all (pl.other hne hA0.1)
      have hBk := hB0.like all pl.1 fl.1 fl.2.1 fl.2.2.1
      have hlt : q + i < Bk.slots.size := by rw [fl.2.2.1]; omega
      have c3 : Steps p.tables e below (s₁.setTop (entryFrame m #[.ref b, .int (Int32.ofNat o), .ref d, .int (Int32.ofNat q), .int (Int32.ofNat len)] 7)) (Tl.setTop (mkF m 12 #[.val (.ref b), .val (.int (Int32.ofNat (o + i))), .val (.ref d), .val (.int (Int32.ofNat (q + i))), .val (.int (Int32.ofNat len)), .val (.int (Int32.ofNat i)), z] [.int (Int32.ofNat (o + i)), .ref b])) := cl.trans (by
        refine XS.iload Xl.here hexec rfl (hb hbytes d3) rfl ?_
        refine XS.iload Xl.here hexec rfl (hb hbytes d5) rfl ?_
        refine XS.icmpNo Xl.here hexec rfl (hb hbytes d7) rfl (ii_ge_f (lt32 (by omega) (by omega))) ?_
        refine XS.aloadN Xl.here hexec rfl (hb hbytes d10) rfl rfl ?_
        refine XS.iloadN Xl.here hexec rfl (hb hbytes d11) rfl ?_
        exact Steps.refl _)
      have c4 : Steps p.tables e below (s₁.setTop (entryFrame m #[.ref b, .int (Int32.ofNat o), .ref d, .int (Int32.ofNat q), .int (Int32.ofNat len)] 7)) (Tl.setTop (mkF m 13 #[.val (.ref b), .val (.int (Int32.ofNat (o + i))), .val (.ref d), .val (.int (Int32.ofNat (q + i))), .val (.int (Int32.ofNat len)), .val (.int (Int32.ofNat i)), z] [.int (cv A (o + i))])) := c3.trans (by
        refine Xl.aget hexec hAl rfl (hA.get (i := o + i) (by omega)) rfl rfl (hb hbytes d12) ?_
        exact Steps.refl _)
      have c5 : Steps p.tables e below (s₁.setTop (entryFrame m #[.ref b, .int (Int32.ofNat o), .ref d, .int (Int32.ofNat q), .int (Int32.ofNat len)] 7)) (Tl.setTop (mkF m 15 #[.val (.ref b), .val (.int (Int32.ofNat (o + i))), .val (.ref d), .val (.int (Int32.ofNat (q + i))), .val (.int (Int32.ofNat len)), .val (.int (Int32.ofNat i)), .val (.int (cv A (o + i)))] [])) := c4.trans (by
        refine XS.istoreS Xl.here hexec rfl (hb hbytes d13) rfl rfl hz ?_
        exact Steps.refl _)
      have c6 : Steps p.tables e below (s₁.setTop (entryFrame m #[.ref b, .int (Int32.ofNat o), .ref d, .int (Int32.ofNat q), .int (Int32.ofNat len)] 7)) (Tl.setTop (mkF m 31 #[.val (.ref b), .val (.int (Int32.ofNat (o + i))), .val (.ref d), .val (.int (Int32.ofNat (q + i))), .val (.int (Int32.ofNat len)), .val (.int (Int32.ofNat i)), .val (.int (cv A (o + i)))] [.int (lo8 (cv A (o + i))), .int (Int32.ofNat (q + i)), .ref d])) := c5.trans (by
        refine XS.iload Xl.here hexec rfl (hb hbytes d15) rfl ?_
        refine sipushV Xl.here hexec rfl 255 (hb hbytes d17) (by decide) ?_
        refine XS.icmpYes Xl.here hexec rfl (pc0 := 20) rfl (hb hbytes d20) rfl (ii_le_t (hp i (by omega))) (by decide) rfl ?_
        refine XS.aloadN Xl.here hexec rfl (hb hbytes d26) rfl rfl ?_
        refine XS.iloadN Xl.here hexec rfl (hb hbytes d27) rfl ?_
        refine XS.iload Xl.here hexec rfl (hb hbytes d28) rfl ?_
        refine i2b Xl.here hexec rfl (hb hbytes d30) rfl ?_
        exact Steps.refl _)
      obtain ⟨T7, X7, p7, st7⟩ := Xl.aput hexec hBk rfl hlt rfl (fits_lo8 (cv A (o + i))) (g := (mkF m 31 #[.val (.ref b), .val (.int (Int32.ofNat (o + i))), .val (.ref d), .val (.int (Int32.ofNat (q + i))), .val (.int (Int32.ofNat len)), .val (.int (Int32.ofNat i)), .val (.int (cv A (o + i)))] [.int (lo8 (cv A (o + i))), .int (Int32.ofNat (q + i)), .ref d])) rfl (rest := []) rfl (hb hbytes d31)
      have c8 : Steps p.tables e below (s₁.setTop (entryFrame m #[.ref b, .int (Int32.ofNat o), .ref d, .int (Int32.ofNat q), .int (Int32.ofNat len)] 7)) (T7.setTop (mkF m 32 #[.val (.ref b), .val (.int (Int32.ofNat (o + i))), .val (.ref d), .val (.int (Int32.ofNat (q + i))), .val (.int (Int32.ofNat len)), .val (.int (Int32.ofNat i)), .val (.int (cv A (o + i)))] [])) := c6.trans (st7 _ (Steps.refl _))
      have c9 : Steps p.tables e below (s₁.setTop (entryFrame m #[.ref b, .int (Int32.ofNat o), .ref d, .int (Int32.ofNat q), .int (Int32.ofNat len)] 7)) (T7.setTop (mkF m 3 #[.val (.ref b), .val (.int (Int32.ofNat (o + i) + 1)), .val (.ref d), .val (.int (Int32.ofNat (q + i) + 1)), .val (.int (Int32.ofNat len)), .val (.int (Int32.ofNat i + 1)), .val (.int (cv A (o + i)))] [])) := c8.trans (by
        refine iincV X7.here hexec rfl 1 (hb hbytes d32) (by decide) rfl rfl ?_
        refine iincV X7.here hexec rfl 1 (hb hbytes d35) (by decide) rfl rfl ?_
        refine iincV X7.here hexec rfl 1 (hb hbytes d38) (by decide) rfl rfl ?_
        refine XS.goto X7.here hexec rfl (pc0 := 41) rfl (hb hbytes d41) (by decide) rfl ?_
        exact Steps.refl _)
      have c10 : Steps p.tables e below (s₁.setTop (entryFrame m #[.ref b, .int (Int32.ofNat o), .ref d, .int (Int32.ofNat q), .int (Int32.ofNat len)] 7)) (T7.setTop (mkF m 3 #[.val (.ref b), .val (.int (Int32.ofNat (o + (i + 1)))), .val (.ref d), .val (.int (Int32.ofNat (q + (i + 1)))), .val (.int (Int32.ofNat len)), .val (.int (Int32.ofNat (i + 1))), .val (.int (cv A (o + i)))] [])) := by
        have := c9
        rw [succ32, succ32, succ32] at this
        exact this
      exact ih (i + 1) (by omega) _ (Or.inr ⟨_, rfl, rfl⟩) T7 _ (by rw [copyLocs_step, ← List.append_assoc]; exact X7) (pl.trans p7) (fl.step (by omega) hlt (by simp)) c10
  obtain ⟨T9, B9, z9, X9, p9, f9, g9⟩ := loop len 0 (by omega) .unset (Or.inl rfl) s₁ B (by simpa [copyLocs] using X0) ⟨hB0.1, fun _ _ => rfl, rfl⟩ (Laid.zero _ _ _) c2
  have c11 : Steps p.tables e below (s₁.setTop (entryFrame m #[.ref b, .int (Int32.ofNat o), .ref d, .int (Int32.ofNat q), .int (Int32.ofNat len)] 7)) (T9.setTop (mkF m 46 #[.val (.ref b), .val (.int (Int32.ofNat (o + len))), .val (.ref d), .val (.int (Int32.ofNat (q + len))), .val (.int (Int32.ofNat len)), .val (.int (Int32.ofNat len)), z9] [.int (Int32.ofNat len)])) := g9.trans (by
    refine XS.iload X9.here hexec rfl (hb hbytes d3) rfl ?_
    refine XS.iload X9.here hexec rfl (hb hbytes d5) rfl ?_
    refine XS.icmpYes X9.here hexec rfl (pc0 := 7) rfl (hb hbytes d7) rfl (ii_ge_t (nlt32 (by omega) (Nat.le_refl _))) (by decide) rfl ?_
    refine XS.iload X9.here hexec rfl (hb hbytes d44) rfl ?_
    exact Steps.refl _)
  exact ⟨T9, some (.int (Int32.ofNat len)), _, _, _, X9, by simp, rfl, rfl, (fun h => by cases h), ⟨rfl, B9, p9.from hh0, f9⟩, fun fs hl => c11.trans (X9.ireturnOut hexec hret rfl (Or.inl rfl) (hb hbytes d46) hl)⟩
end Cmp5
namespace Cmp3
def yN : MethodName := ⟨"java/lang/StringUTF16", "compress", "([CII)[B"⟩
abbrev yB : ByteArray := jdk_52_method_16_code
theorem d0 : decode yB 0 = .ok (.iload_n 2, 1) := by decide +kernel
theorem d1 : decode yB 1 = .ok (.newarray .byte, 2) := by decide +kernel
theorem d3 : decode yB 3 = .ok (.astore_n 3, 1) := by decide +kernel
theorem d4 : decode yB 4 = .ok (.aload_n 0, 1) := by decide +kernel
theorem d5 : decode yB 5 = .ok (.iload_n 1, 1) := by decide +kernel
theorem d6 : decode yB 6 = .ok (.aload_n 3, 1) := by decide +kernel
theorem d7 : decode yB 7 = .ok (.iconst 0, 1) := by decide +kernel
theorem d8 : decode yB 8 = .ok (.iload_n 2, 1) := by decide +kernel
theorem d9 : decode yB 9 = .ok (.invokestatic 115, 3) := by decide +kernel
theorem d12 : decode yB 12 = .ok (.istore 4, 2) := by decide +kernel
theorem d14 : decode yB 14 = .ok (.iload 4, 2) := by decide +kernel
theorem d16 : decode yB 16 = .ok (.iload_n 2, 1) := by decide +kernel
theorem d17 : decode yB 17 = .ok (.if_icmp (.eq) 40, 3) := by decide +kernel
theorem d57 : decode yB 57 = .ok (.aload_n 3, 1) := by decide +kernel
theorem d58 : decode yB 58 = .ok (.areturn, 1) := by decide +kernel
def site : List Cond := [.arrayClass .byte, Cmp5.tab] ++ staticW U16 115 Cmp5.yN
def tab : Cond := tabOf yN yB 6 (some (.array .byte)) site
def P (b : Addr) (A : Cell) (o len : Nat) (args : Array Value) (s : State) : Prop := args = #[.ref b, .int (Int32.ofNat o), .int (Int32.ofNat len)] ∧ Ch b A s ∧ o + len ≤ A.slots.size ∧ len ≤ 536870912 ∧ ∀ i, i < len → ¬ 255 < cv A (o + i)
def E (b : Addr) (A : Cell) (o len : Nat) (r : Option Value) (s u : State) : Prop := NewArr .byte "[B" len (fun j => .int (lo8 (cv A (o + j)))) r s u ∧ u.heap.size = s.heap.size + 1
/-- no char of the range above 255: a new byte[] of their low bytes -/
theorem law (l : Launch) (b : Addr) (A : Cell) (o len : Nat) : Law l yN 3 3 1 18 yB 6 (some (.array .byte)) site (P b A o len) (E b A o len) [] 1 len := by
  refine Law.of_walk (plainFor_of_name (by decide +kernel)) (by decide +kernel) (by decide +kernel) (by decide) (fun _ _ h => by rw [h.1]; rfl) (fun _ U U' hal hh h => ⟨h.1, h.2.1.mv hal hh, h.2.2⟩) (fun r U U' V V' h1 hal h2 h => ⟨NewArr.mv r U U' V V' h1 hal h2 h.1, by rw [h1, h2]; exact h.2⟩) ?_
  intro p e s m args below meth c s₁ X0 hexec hbytes hml hret hlk hnm hown hh0 W hP
  obtain ⟨rfl, hA, l1, l2, hp⟩ := hP
  have a31 := hA.1.2.2.2
  have c1 : Steps p.tables e below (s₁.setTop (entryFrame m #[.ref b, .int (Int32.ofNat o), .int (Int32.ofNat len)] 6)) (s₁.setTop (mkF m 0 #[.val (.ref b), .val (.int (Int32.ofNat o)), .val (.int (Int32.ofNat len)), .unset, .unset, .unset] [])) := entry rfl
  have c2 : Steps p.tables e below (s₁.setTop (entryFrame m #[.ref b, .int (Int32.ofNat o), .int (Int32.ofNat len)] 6)) (s₁.setTop (mkF m 1 #[.val (.ref b), .val (.int (Int32.ofNat o)), .val (.int (Int32.ofNat len)), .unset, .unset, .unset] [.int (Int32.ofNat len)])) := c1.trans (by
    refine XS.iloadN X0.here hexec rfl (hb hbytes d0) rfl ?_
    exact Steps.refl _)
  obtain ⟨T3, B3, X3, ba3, bs3, bv3, bh3, bf3, st3⟩ := X0.anew hexec (atype := .byte) (wk W (.arrayClass .byte)) rfl (by show len * 1 ≤ _; omega) (by omega) (g := (mkF m 1 #[.val (.ref b), .val (.int (Int32.ofNat o)), .val (.int (Int32.ofNat len)), .unset, .unset, .unset] [.int (Int32.ofNat len)])) rfl (hb hbytes d1) (rest := []) rfl (Nat.le_refl _) (by show 0 + len ≤ len; omega)
  rw [hh0] at ba3 st3
  have kp3 : XT.Kept s T3 := (XT.Kept.of_eq hh0).push bh3
  have hA3 := hA.keep X3.warmed.alike (kp3 _ _ hA.1.1)
  have hne : b ≠ s.heap.size := hA.1.ne
  have c4 : Steps p.tables e below (s₁.setTop (entryFrame m #[.ref b, .int (Int32.ofNat o), .int (Int32.ofNat len)] 6)) (T3.setTop (mkF m 3 #[.val (.ref b), .val (.int (Int32.ofNat o)), .val (.int (Int32.ofNat len)), .unset, .unset, .unset] [.ref s.heap.size])) := c2.trans (st3 _ (Steps.refl _))
  have c5 : Steps p.tables e below (s₁.setTop (entryFrame m #[.ref b, .int (Int32.ofNat o), .int (Int32.ofNat len)] 6)) (T3.setTop (mkF m 9 #[.val (.ref b), .val (.int (Int32.ofNat o)), .val (.int (Int32.ofNat len)), .val (.ref s.heap.size), .unset, .unset] [.int (Int32.ofNat len), .int 0, .ref s.heap.size, .int (Int32.ofNat o), .ref b])) := c4.trans (by
    refine XS.astoreN X3.here hexec rfl (hb hbytes d3) rfl rfl rfl ?_
    refine XS.aloadN X3.here hexec rfl (hb hbytes d4) rfl rfl ?_
    refine XS.iloadN X3.here hexec rfl (hb hbytes d5) rfl ?_
    refine XS.aloadN X3.here hexec rfl (hb hbytes d6) rfl rfl ?_
    refine iconstV X3.here hexec rfl 0 (hb hbytes d7) (by decide) ?_
    refine XS.iloadN X3.here hexec rfl (hb hbytes d8) rfl ?_
    exact Steps.refl _)
  obtain ⟨v6, T6, X6, E6, g6⟩ := X3.callS hexec (Cmp5.law l b A s.heap.size B3 o 0 len) hown (wks W (staticW U16 115 Cmp5.yN)) (wk W Cmp5.tab) (W := 0) (Nat.le_of_ble_eq_true rfl) (Nat.le_of_ble_eq_true rfl) (Nat.le_refl _) (by show 0 + len + 0 ≤ len; omega) (g := (mkF m 9 #[.val (.ref b), .val (.int (Int32.ofNat o)), .val (.int (Int32.ofNat len)), .val (.ref s.heap.size), .unset, .unset] [.int (Int32.ofNat len), .int (Int32.ofNat 0), .ref s.heap.size, .int (Int32.ofNat o), .ref b])) rfl (by rw [hml]; rfl) c5 (argsL := [.ref b, .int (Int32.ofNat o), .ref s.heap.size, .int (Int32.ofNat 0), .int (Int32.ofNat len)]) (rest := []) rfl rfl (by show 2 * 0 + 0 ≤ _; decide) (hb hbytes d9) (⟨rfl, hA3, ba3, hne, l1, by rw [bs3]; simp, hp⟩)
  obtain ⟨rfl, B6, p6, f6⟩ := E6
  have c7 : Steps p.tables e below (s₁.setTop (entryFrame m #[.ref b, .int (Int32.ofNat o), .int (Int32.ofNat len)] 6)) (T6.setTop (mkF m 12 #[.val (.ref b), .val (.int (Int32.ofNat o)), .val (.int (Int32.ofNat len)), .val (.ref s.heap.size), .unset, .unset] [.int (Int32.ofNat len)])) := g6
  have c8 : Steps p.tables e below (s₁.setTop (entryFrame m #[.ref b, .int (Int32.ofNat o), .int (Int32.ofNat len)] 6)) (T6.setTop (mkF m 58 #[.val (.ref b), .val (.int (Int32.ofNat o)), .val (.int (Int32.ofNat len)), .val (.ref s.heap.size), .val (.int (Int32.ofNat len)), .unset] [.ref s.heap.size])) := c7.trans (by
    refine XS.istore X6.here hexec rfl (hb hbytes d12) rfl rfl ?_
    refine XS.iload X6.here hexec rfl (hb hbytes d14) rfl ?_
    refine XS.iloadN X6.here hexec rfl (hb hbytes d16) rfl ?_
    refine XS.icmpYes X6.here hexec rfl (pc0 := 17) rfl (hb hbytes d17) rfl (ii_eq_t rfl) (by decide) rfl ?_
    refine XS.aloadN X6.here hexec rfl (hb hbytes d57) rfl rfl ?_
    exact Steps.refl _)
  have X8 := X6.wide (L' := []) (cells' := 1) (slots' := len) (fun x hx hlt => by
    simp only [List.nil_append, copyLocs, List.mem_map, List.mem_range] at hx
    obtain ⟨i, -, rfl⟩ := hx
    exact absurd hlt (Nat.lt_irrefl _)) (Nat.le_refl _) (by omega)
  exact ⟨T6, some (.ref s.heap.size), _, _, _, X8, rfl, rfl, rfl, (fun h => by cases h), ⟨⟨rfl, B6, ba3.like (X3.warmed.alike.symm.trans X6.warmed.alike) p6.1 f6.1 f6.2.1 f6.2.2.1, f6.2.1.trans bv3, by rw [X6.warmed.alike.findClass, f6.1]; exact bf3, by rw [f6.2.2.1, bs3]; simp, fun j hj => by rw [f6.2.2.2 j, if_pos (by omega)]; rfl, kp3.put p6 (Nat.le_refl _)⟩, by rw [p6.2.2, bh3, hh0]; simp⟩, fun fs hl => c8.trans (X8.areturnOut hexec rfl hret rfl (hb hbytes d58) hl)⟩
end Cmp3
namespace CodL
def yN : MethodName := ⟨"java/lang/StringUTF16", "coderFromArrayLen", "([BI)B"⟩
abbrev yB : ByteArray := jdk_52_method_15_code
theorem d0 : decode yB 0 = .ok (.iload_n 1, 1) := by decide +kernel
theorem d1 : decode yB 1 = .ok (.aload_n 0, 1) := by decide +kernel
theorem d2 : decode yB 2 = .ok (.arraylength, 1) := by decide +kernel
theorem d3 : decode yB 3 = .ok (.isub, 1) := by decide +kernel
theorem d4 : decode yB 4 = .ok (.bipush 31, 2) := by decide +kernel
theorem d6 : decode yB 6 = .ok (.iushr, 1) := by decide +kernel
theorem d7 : decode yB 7 = .ok (.i2b, 1) := by decide +kernel
theorem d8 : decode yB 8 = .ok (.ireturn, 1) := by decide +kernel
def site : List Cond := []
def tab : Cond := tabOf yN yB 2 (some .byte) site
def P (d : Addr) (B : Cell) (args : Array Value) (s : State) : Prop := args = #[.ref d, .int (Int32.ofNat B.slots.size)] ∧ Arr .byte d B s
def E (r : Option Value) (s u : State) : Prop := XT.PureE (some (.int 0)) r s u
/-- an array as long as the number of chars: LATIN1 -/
theorem law (l : Launch) (d : Addr) (B : Cell) : Law l yN 2 2 0 0 yB 2 (some .byte) site (P d B) E [] 0 0 := by
  refine Law.of_walk (plainFor_of_name (by decide +kernel)) (by decide +kernel) (by decide +kernel) (by decide) (fun _ _ h => by rw [h.1]; rfl) (fun _ U U' hal hh h => ⟨h.1, h.2.mv hal hh⟩) (fun r U U' V V' h1 hal h2 h => XT.PureE.mv r U U' V V' h1 hal h2 h) ?_
  intro p e s m args below meth c s₁ X0 hexec hbytes hml hret hlk hnm hown hh0 W hP
  obtain ⟨rfl, hB⟩ := hP
  have hB0 := hB.mv X0.warmed.alike hh0
  have c1 : Steps p.tables e below (s₁.setTop (entryFrame m #[.ref d, .int (Int32.ofNat B.slots.size)] 2)) (s₁.setTop (mkF m 0 #[.val (.ref d), .val (.int (Int32.ofNat B.slots.size))] [])) := entry rfl
  have c2 : Steps p.tables e below (s₁.setTop (entryFrame m #[.ref d, .int (Int32.ofNat B.slots.size)] 2)) (s₁.setTop (mkF m 2 #[.val (.ref d), .val (.int (Int32.ofNat B.slots.size))] [.ref d, .int (Int32.ofNat B.slots.size)])) := c1.trans (by
    refine XS.iloadN X0.here hexec rfl (hb hbytes d0) rfl ?_
    refine XS.aloadN X0.here hexec rfl (hb hbytes d1) rfl rfl ?_
    exact Steps.refl _)
  have c3 : Steps p.tables e below (s₁.setTop (entryFrame m #[.ref d, .int (Int32.ofNat B.slots.size)] 2)) (s₁.setTop (mkF m 8 #[.val (.ref d), .val (.int (Int32.ofNat B.slots.size))] [.int (lo8 (ushr (Int32.ofNat B.slots.size - Int32.ofNat B.slots.size) 31))])) := c2.trans (by
    refine X0.alen hexec hB0 rfl rfl (hb hbytes d2) ?_
    refine XS.isub X0.here hexec rfl (hb hbytes d3) rfl ?_
    refine bipushV X0.here hexec rfl 31 (hb hbytes d4) (by decide) ?_
    refine iushr X0.here hexec rfl (hb hbytes d6) rfl ?_
    refine i2b X0.here hexec rfl (hb hbytes d7) rfl ?_
    exact Steps.refl _)
  have e0 : lo8 (ushr (Int32.ofNat B.slots.size - Int32.ofNat B.slots.size) 31) = 0 := by rw [Int32.sub_self]; decide
  rw [e0] at c3
  exact ⟨s₁, some (.int 0), _, _, _, X0, rfl, rfl, rfl, (fun h => by cases h), ⟨rfl, hh0⟩, fun fs hl => c3.trans (X0.ireturnOut hexec hret rfl (Or.inr (Or.inr (Or.inl rfl))) (hb hbytes d8) hl)⟩
end CodL
/-- the String at a is Latin-1 over a new byte[] (the heap's one new cell): the low bytes of the len chars of A from o on; every cell but a is kept -/
def Got (a : Addr) (D : Cell) (fV fC : Field) (A : Cell) (o len : Nat) (r : Option Value) (s u : State) : Prop := r = none ∧ ∃ D' V : Cell, Blank "java/lang/String" a D' u ∧ Same D D' [fV.slot, fC.slot] ∧ D'.slots[fV.slot]? = some (.ref s.heap.size) ∧ D'.slots[fC.slot]? = some (.int 0) ∧ Arr .byte s.heap.size V u ∧ V.vm = .none ∧ u.vm.findClass "[B" = some V.cls ∧ V.slots.size = len ∧ (∀ j, j < len → V.slots[j]? = some (.int (lo8 (cv A (o + j))))) ∧ (∀ (y : Addr) (c : Cell), y ≠ a → s.heap[y]? = some c → u.heap[y]? = some c) ∧ u.heap.size = s.heap.size + 1
theorem Got.mv {a : Addr} {D A : Cell} {fV fC : Field} {o len : Nat} : ∀ r (U U' V V' : State), U'.heap = U.heap → V.vm.Alike V'.vm → V'.heap = V.heap → Got a D fV fC A o len r U V → Got a D fV fC A o len r U' V' :=
  fun r U U' V V' h1 hal h2 ⟨e0, D', X, a1, a2, a3, a4, a5, a6, a7, a8, a9, a10, a11⟩ => ⟨e0, D', X, a1.mv hal h2, a2, by rw [h1]; exact a3, a4, by rw [h1]; exact a5.mv hal h2, a6, by rw [hal.findClass]; exact a7, a8, a9, by rw [h1, h2]; exact a10, by rw [h1, h2]; exact a11⟩
namespace New4
def yN : MethodName := ⟨"java/lang/String", "<init>", "([CIILjava/lang/Void;)V"⟩
abbrev yB : ByteArray := jdk_42_method_149_code
theorem d0 : decode yB 0 = .ok (.aload_n 0, 1) := by decide +kernel
theorem d1 : decode yB 1 = .ok (.invokespecial 1, 3) := by decide +kernel
theorem d4 : decode yB 4 = .ok (.iload_n 3, 1) := by decide +kernel
theorem d5 : decode yB 5 = .ok (.ifCond (.ne) 22, 3) := by decide +kernel
theorem d27 : decode yB 27 = .ok (.getstatic 38, 3) := by decide +kernel
theorem d30 : decode yB 30 = .ok (.ifCond (.eq) 28, 3) := by decide +kernel
theorem d33 : decode yB 33 = .ok (.aload_n 1, 1) := by decide +kernel
theorem d34 : decode yB 34 = .ok (.iload_n 2, 1) := by decide +kernel
theorem d35 : decode yB 35 = .ok (.iload_n 3, 1) := by decide +kernel
theorem d36 : decode yB 36 = .ok (.invokestatic 177, 3) := by decide +kernel
theorem d39 : decode yB 39 = .ok (.astore 5, 2) := by decide +kernel
theorem d41 : decode yB 41 = .ok (.aload_n 0, 1) := by decide +kernel
theorem d42 : decode yB 42 = .ok (.aload 5, 2) := by decide +kernel
theorem d44 : decode yB 44 = .ok (.iload_n 3, 1) := by decide +kernel
theorem d45 : decode yB 45 = .ok (.invokestatic 47, 3) := by decide +kernel
theorem d48 : decode yB 48 = .ok (.putfield 15, 3) := by decide +kernel
theorem d51 : decode yB 51 = .ok (.aload_n 0, 1) := by decide +kernel
theorem d52 : decode yB 52 = .ok (.aload 5, 2) := by decide +kernel
theorem d54 : decode yB 54 = .ok (.putfield 9, 3) := by decide +kernel
theorem d57 : decode yB 57 = .ok (.return_, 1) := by decide +kernel
def site : List Cond := [.fieldLink "java/lang/String" 38 "java/lang/String" "COMPACT_STRINGS" "Z", Cmp3.tab, CodL.tab, .laysFinal "java/lang/String" "java/lang/String" "value" "[B", .fieldLink "java/lang/String" 9 "java/lang/String" "value" "[B", .laysFinal "java/lang/String" "java/lang/String" "coder" "B", .fieldLink "java/lang/String" 15 "java/lang/String" "coder" "B"] ++ objW "java/lang/String" 1 ++ staticW "java/lang/String" 177 Cmp3.yN ++ staticW "java/lang/String" 47 CodL.yN
def tab : Cond := tabOf yN yB 6 none site
def P (a : Addr) (D : Cell) (fV fC : Field) (b : Addr) (A : Cell) (z : Int32) (o len : Nat) (args : Array Value) (s : State) : Prop := args = #[.ref a, .ref b, .int (Int32.ofNat o), .int (Int32.ofNat len), .null] ∧ Blank "java/lang/String" a D s ∧ Found "java/lang/String" "value" "[B" fV s ∧ Found "java/lang/String" "coder" "B" fC s ∧ Ch b A s ∧ StaticIs s "java/lang/String" "COMPACT_STRINGS" "Z" (.int z) ∧ ¬ z = 0 ∧ 0 < len ∧ o + len ≤ A.slots.size ∧ len ≤ 536870912 ∧ ∀ i, i < len → ¬ 255 < cv A (o + i)
def E (a : Addr) (D : Cell) (fV fC : Field) (A : Cell) (o len : Nat) (r : Option Value) (s u : State) : Prop := Got a D fV fC A o len r s u
/-- len > 0, no char of the range above 255: a Latin-1 String of their low bytes -/
theorem law (l : Launch) (a : Addr) (D : Cell) (fV fC : Field) (b : Addr) (A : Cell) (z : Int32) (o len : Nat) : Law l yN 5 4 2 35 yB 6 none site (P a D fV fC b A z o len) (E a D fV fC A o len) [⟨a, fC.slot⟩, ⟨a, fV.slot⟩] 1 len := by
  refine Law.of_walk (plainFor_of_name (by decide +kernel)) (by decide +kernel) (by decide +kernel) (by decide) (fun _ _ h => by rw [h.1]; rfl) (fun _ U U' hal hh h => ⟨h.1, h.2.1.mv hal hh, h.2.2.1.al hal, h.2.2.2.1.al hal, h.2.2.2.2.1.mv hal hh, h.2.2.2.2.2.1.there hal hh, h.2.2.2.2.2.2⟩) (fun r U U' V V' h1 hal h2 h => Got.mv r U U' V V' h1 hal h2 h) ?_
  intro p e s m args below meth c s₁ X0 hexec hbytes hml hret hlk hnm hown hh0 W hP
  obtain ⟨rfl, hB, f1, f2, hA, s1, hz, l0, l1, l2, hp⟩ := hP
  have a31 := hA.1.2.2.2
  have c1 : Steps p.tables e below (s₁.setTop (entryFrame m #[.ref a, .ref b, .int (Int32.ofNat o), .int (Int32.ofNat len), .null] 6)) (s₁.setTop (mkF m 0 #[.val (.ref a), .val (.ref b), .val (.int (Int32.ofNat o)), .val (.int (Int32.ofNat len)), .val .null, .unset] [])) := entry rfl
  have c2 : Steps p.tables e below (s₁.setTop (entryFrame m #[.ref a, .ref b, .int (Int32.ofNat o), .int (Int32.ofNat len), .null] 6)) (s₁.setTop (mkF m 1 #[.val (.ref a), .val (.ref b), .val (.int (Int32.ofNat o)), .val (.int (Int32.ofNat len)), .val .null, .unset] [.ref a])) := c1.trans (by
    refine XS.aloadN X0.here hexec rfl (hb hbytes d0) rfl rfl ?_
    exact Steps.refl _)
  obtain ⟨T3, X3, q3, st3⟩ := X0.oinit hexec hown (wks W (objW "java/lang/String" 1)) (g := (mkF m 1 #[.val (.ref a), .val (.ref b), .val (.int (Int32.ofNat o)), .val (.int (Int32.ofNat len)), .val .null, .unset] [.ref a])) rfl (by rw [hml]; rfl) (rest := []) rfl (hb hbytes d1) (W := 0) (by show 2 * 0 + 0 ≤ _; decide) (Nat.le_of_ble_eq_true rfl) (Nat.le_of_ble_eq_true rfl)
  have hh3 := q3.trans hh0
  have c4 : Steps p.tables e below (s₁.setTop (entryFrame m #[.ref a, .ref b, .int (Int32.ofNat o), .int (Int32.ofNat len), .null] 6)) (T3.setTop (mkF m 27 #[.val (.ref a), .val (.ref b), .val (.int (Int32.ofNat o)), .val (.int (Int32.ofNat len)), .val .null, .unset] [])) := (c2.trans (st3 _ (Steps.refl _))).trans (by
    refine XS.iloadN X3.here hexec rfl (hb hbytes d4) rfl ?_
    refine XS.ifYes X3.here hexec rfl (pc0 := 5) rfl (hb hbytes d5) rfl (i0_ne_t (nz32 (by omega) l0)) (by decide) rfl ?_
    exact Steps.refl _)
  obtain ⟨T5, X5, q5, st5⟩ := X3.sget hexec hown (wk W (.fieldLink "java/lang/String" 38 "java/lang/String" "COMPACT_STRINGS" "Z")) s1 (fun _ _ h => by rw [hh3]; exact h) (g := (mkF m 27 #[.val (.ref a), .val (.ref b), .val (.int (Int32.ofNat o)), .val (.int (Int32.ofNat len)), .val .null, .unset] [])) rfl (hb hbytes d27)
  have hh5 := q5.trans hh3
  have c6 : Steps p.tables e below (s₁.setTop (entryFrame m #[.ref a, .ref b, .int (Int32.ofNat o), .int (Int32.ofNat len), .null] 6)) (T5.setTop (mkF m 30 #[.val (.ref a), .val (.ref b), .val (.int (Int32.ofNat o)), .val (.int (Int32.ofNat len)), .val .null, .unset] [.int z])) := c4.trans (st5 _ (Steps.refl _))
  have c7 : Steps p.tables e below (s₁.setTop (entryFrame m #[.ref a, .ref b, .int (Int32.ofNat o), .int (Int32.ofNat len), .null] 6)) (T5.setTop (mkF m 36 #[.val (.ref a), .val (.ref b), .val (.int (Int32.ofNat o)), .val (.int (Int32.ofNat len)), .val .null, .unset] [.int (Int32.ofNat len), .int (Int32.ofNat o), .ref b])) := c6.trans (by
    refine XS.ifNo X5.here hexec rfl (hb hbytes d30) rfl (i0_eq_f hz) ?_
    refine XS.aloadN X5.here hexec rfl (hb hbytes d33) rfl rfl ?_
    refine XS.iloadN X5.here hexec rfl (hb hbytes d34) rfl ?_
    refine XS.iloadN X5.here hexec rfl (hb hbytes d35) rfl ?_
    exact Steps.refl _)
  obtain ⟨v8, T8, X8, E8, g8⟩ := X5.callS hexec (Cmp3.law l b A o len) hown (wks W (staticW "java/lang/String" 177 Cmp3.yN)) (wk W Cmp3.tab) (W := 0) (Nat.le_of_ble_eq_true rfl) (Nat.le_of_ble_eq_true rfl) (Nat.le_refl _) (by show 0 + len ≤ len; omega) (g := (mkF m 36 #[.val (.ref a), .val (.ref b), .val (.int (Int32.ofNat o)), .val (.int (Int32.ofNat len)), .val .null, .unset] [.int (Int32.ofNat len), .int (Int32.ofNat o), .ref b])) rfl (by rw [hml]; rfl) c7 (argsL := [.ref b, .int (Int32.ofNat o), .int (Int32.ofNat len)]) (rest := []) rfl rfl (by show 2 * 0 + 0 ≤ _; decide) (hb hbytes d36) (⟨rfl, hA.mv X5.warmed.alike hh5, l1, l2, hp⟩)
  obtain ⟨e8, z8⟩ := E8
  obtain ⟨rfl, N, n1, n2, n3, n4, n5, n6⟩ := NewArr.mv _ T5 s _ _ hh5.symm (Vm.Alike.refl _) rfl e8
  rw [hh5] at z8
  have hB1 := hB.keep X8.warmed.alike (n6 _ _ hB.1)
  have hne : s.heap.size ≠ a := (Nat.ne_of_lt (Array.getElem?_eq_some_iff.mp hB.1).1).symm
  have c9 : Steps p.tables e below (s₁.setTop (entryFrame m #[.ref a, .ref b, .int (Int32.ofNat o), .int (Int32.ofNat len), .null] 6)) (T8.setTop (mkF m 39 #[.val (.ref a), .val (.ref b), .val (.int (Int32.ofNat o)), .val (.int (Int32.ofNat len)), .val .null, .unset] [.ref s.heap.size])) := g8
  have c10 : Steps p.tables e below (s₁.setTop (entryFrame m #[.ref a, .ref b, .int (Int32.ofNat o), .int (Int32.ofNat len), .null] 6)) (T8.setTop (mkF m 45 #[.val (.ref a), .val (.ref b), .val (.int (Int32.ofNat o)), .val (.int (Int32.ofNat len)), .val .null, .val (.ref s.heap.size)] [.int (Int32.ofNat N.slots.size), .ref s.heap.size, .ref a])) := by
    have hc : Steps p.tables e below (s₁.setTop (entryFrame m #[.ref a, .ref b, .int (Int32.ofNat o), .int (Int32.ofNat len), .null] 6)) (T8.setTop (mkF m 45 #[.val (.ref a), .val (.ref b), .val (.int (Int32.ofNat o)), .val (.int (Int32.ofNat len)), .val .null, .val (.ref s.heap.size)] [.int (Int32.ofNat len), .ref s.heap.size, .ref a])) := c9.trans (by
      refine XS.astore X8.here hexec rfl (hb hbytes d39) rfl rfl rfl ?_
      refine XS.aloadN X8.here hexec rfl (hb hbytes d41) rfl rfl ?_
      refine XS.aload X8.here hexec rfl (hb hbytes d42) rfl rfl ?_
      refine XS.iloadN X8.here hexec rfl (hb hbytes d44) rfl ?_
      exact Steps.refl _)
    rw [n4]; exact hc
  obtain ⟨v11, T11, X11, E11, g11⟩ := X8.callS hexec (CodL.law l s.heap.size N) hown (wks W (staticW "java/lang/String" 47 CodL.yN)) (wk W CodL.tab) (W := 1) (Nat.le_of_ble_eq_true rfl) (Nat.le_of_ble_eq_true rfl) (Nat.le_refl _) (by show 0 + len + 0 ≤ len; omega) (g := (mkF m 45 #[.val (.ref a), .val (.ref b), .val (.int (Int32.ofNat o)), .val (.int (Int32.ofNat len)), .val .null, .val (.ref s.heap.size)] [.int (Int32.ofNat N.slots.size), .ref s.heap.size, .ref a])) rfl (by rw [hml]; rfl) c10 (argsL := [.ref s.heap.size, .int (Int32.ofNat N.slots.size)]) (rest := [.ref a]) rfl rfl (by show 2 * 0 + (1 + 0) ≤ _; decide) (hb hbytes d45) (⟨rfl, n1⟩)
  obtain ⟨rfl, q11⟩ := E11
  have hB11 := hB1.mv (X8.warmed.alike.symm.trans X11.warmed.alike) q11
  have c12 : Steps p.tables e below (s₁.setTop (entryFrame m #[.ref a, .ref b, .int (Int32.ofNat o), .int (Int32.ofNat len), .null] 6)) (T11.setTop (mkF m 48 #[.val (.ref a), .val (.ref b), .val (.int (Int32.ofNat o)), .val (.int (Int32.ofNat len)), .val .null, .val (.ref s.heap.size)] [.int 0, .ref a])) := g11
  obtain ⟨T13, X13, p13, bl13, sl13, st13⟩ := X11.finit hexec hown (wk W (.fieldLink "java/lang/String" 15 "java/lang/String" "coder" "B")) (Or.inr ⟨_, (wk W (.laysFinal "java/lang/String" "java/lang/String" "coder" "B"))⟩) (Or.inl ⟨rfl, hnm⟩) f2 (Or.inl rfl) hB11 (t := .byte) (by decide +kernel) rfl (g := (mkF m 48 #[.val (.ref a), .val (.ref b), .val (.int (Int32.ofNat o)), .val (.int (Int32.ofNat len)), .val .null, .val (.ref s.heap.size)] [.int 0, .ref a])) rfl (rest := []) rfl (hb hbytes d48)
  have c14 : Steps p.tables e below (s₁.setTop (entryFrame m #[.ref a, .ref b, .int (Int32.ofNat o), .int (Int32.ofNat len), .null] 6)) (T13.setTop (mkF m 54 #[.val (.ref a), .val (.ref b), .val (.int (Int32.ofNat o)), .val (.int (Int32.ofNat len)), .val .null, .val (.ref s.heap.size)] [.ref s.heap.size, .ref a])) := (c12.trans (st13 _ (Steps.refl _))).trans (by
    refine XS.aloadN X13.here hexec rfl (hb hbytes d51) rfl rfl ?_
    refine XS.aload X13.here hexec rfl (hb hbytes d52) rfl rfl ?_
    exact Steps.refl _)
  obtain ⟨T15, X15, p15, bl15, sl15, st15⟩ := X13.finit hexec hown (wk W (.fieldLink "java/lang/String" 9 "java/lang/String" "value" "[B")) (Or.inr ⟨_, (wk W (.laysFinal "java/lang/String" "java/lang/String" "value" "[B"))⟩) (Or.inl ⟨rfl, hnm⟩) f1 (Or.inl rfl) bl13 (t := (.array .byte)) (by decide +kernel) rfl (g := (mkF m 54 #[.val (.ref a), .val (.ref b), .val (.int (Int32.ofNat o)), .val (.int (Int32.ofNat len)), .val .null, .val (.ref s.heap.size)] [.ref s.heap.size, .ref a])) rfl (rest := []) rfl (hb hbytes d54)
  have c16 : Steps p.tables e below (s₁.setTop (entryFrame m #[.ref a, .ref b, .int (Int32.ofNat o), .int (Int32.ofNat len), .null] 6)) (T15.setTop (mkF m 57 #[.val (.ref a), .val (.ref b), .val (.int (Int32.ofNat o)), .val (.int (Int32.ofNat len)), .val .null, .val (.ref s.heap.size)] [])) := c14.trans (st15 _ (Steps.refl _))
  have ap := apart (Or.inr ⟨_, (wk W (.laysFinal "java/lang/String" "java/lang/String" "value" "[B"))⟩) (Or.inr ⟨_, (wk W (.laysFinal "java/lang/String" "java/lang/String" "coder" "B"))⟩) f1 f2 (t₁ := .array .byte) (t₂ := .byte) (by decide +kernel) (by decide +kernel) (by decide)
  have al := X8.warmed.alike.symm.trans X15.warmed.alike
  have n7 : T11.heap[s.heap.size]? = some N := by rw [q11]; exact n1.1
  exact ⟨T15, none, _, _, _, X15, by simp, rfl, by omega, (fun _ => rfl), ⟨rfl, _, N, bl15, ((Same.refl D _).set _ (by simp)).set _ (by simp), sl15, (Cell.slots_setSlot_ne _ ap).trans sl13, n1.keep al (p15.other hne (p13.other hne n7)), n2, by rw [al.findClass]; exact n3, n4, n5, fun y c h1 h2 => p15.other h1 (p13.other h1 (by rw [q11]; exact n6 y c h2)), by rw [p15.2.2, p13.2.2, q11]; exact z8⟩, fun fs hl => c16.trans (X15.returnOut hexec hret (hb hbytes d57) hl)⟩
end New4
namespace New1
def yN : MethodName := ⟨"java/lang/String", "<init>", "([C)V"⟩
abbrev yB : ByteArray := jdk_42_method_3_code
theorem d0 : decode yB 0 = .ok (.aload_n 0, 1) := by decide +kernel
theorem d1 : decode yB 1 = .ok (.aload_n 1, 1) := by decide +kernel
theorem d2 : decode yB 2 = .ok (.iconst 0, 1) := by decide +kernel
theorem d3 : decode yB 3 = .ok (.aload_n 1, 1) := by decide +kernel
theorem d4 : decode yB 4 = .ok (.arraylength, 1) := by decide +kernel
theorem d5 : decode yB 5 = .ok (.aconst_null, 1) := by decide +kernel
theorem d6 : decode yB 6 = .ok (.invokespecial 27, 3) := by decide +kernel
theorem d9 : decode yB 9 = .ok (.return_, 1) := by decide +kernel
def site : List Cond := [New4.tab] ++ initW "java/lang/String" 27 New4.yN
def tab : Cond := tabOf yN yB 2 none site
def P (a : Addr) (D : Cell) (fV fC : Field) (b : Addr) (A : Cell) (z : Int32) (args : Array Value) (s : State) : Prop := args = #[.ref a, .ref b] ∧ Blank "java/lang/String" a D s ∧ Found "java/lang/String" "value" "[B" fV s ∧ Found "java/lang/String" "coder" "B" fC s ∧ Ch b A s ∧ StaticIs s "java/lang/String" "COMPACT_STRINGS" "Z" (.int z) ∧ ¬ z = 0 ∧ 0 < A.slots.size ∧ A.slots.size ≤ 536870912 ∧ ∀ i, i < A.slots.size → ¬ 255 < cv A i
def E (a : Addr) (D : Cell) (fV fC : Field) (A : Cell) (r : Option Value) (s u : State) : Prop := Got a D fV fC A 0 A.slots.size r s u
/-- new String(chars), not empty, no char above 255: a Latin-1 String of their low bytes -/
theorem law (l : Launch) (a : Addr) (D : Cell) (fV fC : Field) (b : Addr) (A : Cell) (z : Int32) : Law l yN 2 1 3 52 yB 2 none site (P a D fV fC b A z) (E a D fV fC A) [⟨a, fC.slot⟩, ⟨a, fV.slot⟩] 1 A.slots.size := by
  refine Law.of_walk (plainFor_of_name (by decide +kernel)) (by decide +kernel) (by decide +kernel) (by decide) (fun _ _ h => by rw [h.1]; rfl) (fun _ U U' hal hh h => ⟨h.1, h.2.1.mv hal hh, h.2.2.1.al hal, h.2.2.2.1.al hal, h.2.2.2.2.1.mv hal hh, h.2.2.2.2.2.1.there hal hh, h.2.2.2.2.2.2⟩) (fun r U U' V V' h1 hal h2 h => Got.mv r U U' V V' h1 hal h2 h) ?_
  intro p e s m args below meth c s₁ X0 hexec hbytes hml hret hlk hnm hown hh0 W hP
  obtain ⟨rfl, hB, f1, f2, hA, s1, hz, l0, l2, hp⟩ := hP
  have c1 : Steps p.tables e below (s₁.setTop (entryFrame m #[.ref a, .ref b] 2)) (s₁.setTop (mkF m 0 #[.val (.ref a), .val (.ref b)] [])) := entry rfl
  have c2 : Steps p.tables e below (s₁.setTop (entryFrame m #[.ref a, .ref b] 2)) (s₁.setTop (mkF m 6 #[.val (.ref a), .val (.ref b)] [.null, .int (Int32.ofNat A.slots.size), .int 0, .ref b, .ref a])) := c1.trans (by
    refine XS.aloadN X0.here hexec rfl (hb hbytes d0) rfl rfl ?_
    refine XS.aloadN X0.here hexec rfl (hb hbytes d1) rfl rfl ?_
    refine iconstV X0.here hexec rfl 0 (hb hbytes d2) (by decide) ?_
    refine XS.aloadN X0.here hexec rfl (hb hbytes d3) rfl rfl ?_
    refine X0.alen hexec (hA.1.mv X0.warmed.alike hh0) rfl rfl (hb hbytes d4) ?_
    refine XS.aconstNull X0.here hexec rfl (hb hbytes d5) ?_
    exact Steps.refl _)
  obtain ⟨v3, T3, X3, E3, g3⟩ := X0.callN hexec (New4.law l a D fV fC b A z 0 A.slots.size) rfl hown (wks W (initW "java/lang/String" 27 New4.yN)) (W New4.tab (by simp only [site, List.mem_cons, List.mem_append, true_or, or_true])) (W := 0) (Nat.le_of_ble_eq_true rfl) (Nat.le_of_ble_eq_true rfl) (Nat.le_refl _) (by show 0 + A.slots.size ≤ A.slots.size; omega) (g := (mkF m 6 #[.val (.ref a), .val (.ref b)] [.null, .int (Int32.ofNat A.slots.size), .int (Int32.ofNat 0), .ref b, .ref a])) rfl (by rw [hml]; rfl) c2 (argsL := [.ref b, .int (Int32.ofNat 0), .int (Int32.ofNat A.slots.size), .null]) (rest := []) rfl rfl (by show 2 * 0 + 0 ≤ _; decide) (hb hbytes d6) (⟨rfl, hB.mv X0.warmed.alike hh0, f1.al X0.warmed.alike, f2.al X0.warmed.alike, hA.mv X0.warmed.alike hh0, s1.there X0.warmed.alike hh0, hz, l0, by omega, l2, fun i hi => by rw [Nat.zero_add]; exact hp i hi⟩)
  have e0 := Got.mv _ s₁ s _ _ hh0.symm (Vm.Alike.refl _) rfl E3
  obtain rfl := e0.1
  have c4 : Steps p.tables e below (s₁.setTop (entryFrame m #[.ref a, .ref b] 2)) (T3.setTop (mkF m 9 #[.val (.ref a), .val (.ref b)] [])) := g3
  exact ⟨T3, none, _, _, _, X3, by simp, rfl, by omega, (fun _ => rfl), e0, fun fs hl => c4.trans (X3.returnOut hexec hret (hb hbytes d9) hl)⟩
theorem pays {l : Launch} {R : Room} {p : Program} {e : Env} {below : List Frame} {s : State} {sargs : Array Value} {len W : Nat} (a : Addr) (D : Cell) (fV fC : Field) (b : Addr) (A : Cell) (z : Int32) (htab : tab.before sargs s = true) (hfr : 4 ≤ R.frames) (hlo : W + 65 ≤ R.locals) :
    Back l R p e below s sargs yN len W (fun A₁ a₁ => A₁.cells + 1 ≤ R.cells ∧ A₁.slots + A.slots.size ≤ R.slots ∧ P a D fV fC b A z a₁ A₁.U) (fun A₁ _ v₁ B₁ => E a D fV fC A v₁ A₁.U B₁.U ∧ B₁.locs = A₁.locs ++ [⟨a, fC.slot⟩, ⟨a, fV.slot⟩] ∧ B₁.cells = A₁.cells + 1 ∧ B₁.slots = A₁.slots + A.slots.size) :=
  (law l a D fV fC b A z).pays htab hfr (by omega)
end New1
end StrChars
namespace StrChars.Road
open Jvm Sem ClassFile Op Lib Jvm.Stand Jvm.Free Jvm.Free.XT
open Jvm.Lib.Cold (StaticIs)
abbrev ST : String := "java/lang/String"
/-- every table word that New1's law asks, flat -/
abbrev words : List Jvm.Cond := [.code New1.yN New1.yB 2 none, .initialized ST, .methodLink ST 27 New4.yN, .instanceMethod New4.yN,
  .code New4.yN New4.yB 6 none, .fieldLink ST 38 ST "COMPACT_STRINGS" "Z", .laysFinal ST ST "value" "[B", .fieldLink ST 9 ST "value" "[B", .laysFinal ST ST "coder" "B", .fieldLink ST 15 ST "coder" "B",
  .methodLink ST 1 Lib.objectInit, .instanceMethod Lib.objectInit, .code Lib.objectInit ⟨#[0xb1]⟩ 1 none, .methodLink ST 177 Cmp3.yN, .static Cmp3.yN, .methodLink ST 47 CodL.yN, .static CodL.yN,
  .code Cmp3.yN Cmp3.yB 6 (some (.array .byte)), .initialized U16, .arrayClass .byte, .methodLink U16 115 Cmp5.yN, .static Cmp5.yN, .code Cmp5.yN Cmp5.yB 7 (some .int), .code CodL.yN CodL.yB 2 (some .byte)]
theorem tab_of {a : Array Value} {s : State} (h : ∀ w ∈ words, w.before a s = true) : New1.tab.before a s = true := by
  have h5 : Cmp5.tab.before a s = true := unparts (wk h (.code Cmp5.yN Cmp5.yB 7 (some .int))) (wks h (.initialized Cmp5.yN.cls :: Cmp5.site))
  have hc : CodL.tab.before a s = true := unparts (wk h (.code CodL.yN CodL.yB 2 (some .byte))) (wks h (.initialized CodL.yN.cls :: CodL.site))
  have q5 : ∀ w ∈ Cmp5.tab :: words, w.before a s = true := fun w hw => (List.mem_cons.mp hw).elim (fun e => e ▸ h5) (h w)
  have h3 : Cmp3.tab.before a s = true := unparts (wk q5 (.code Cmp3.yN Cmp3.yB 6 (some (.array .byte)))) (wks q5 (.initialized Cmp3.yN.cls :: Cmp3.site))
  have q3 : ∀ w ∈ Cmp3.tab :: CodL.tab :: words, w.before a s = true := fun w hw => (List.mem_cons.mp hw).elim (fun e => e ▸ h3) fun hw => (List.mem_cons.mp hw).elim (fun e => e ▸ hc) (h w)
  have h4 : New4.tab.before a s = true := unparts (wk q3 (.code New4.yN New4.yB 6 none)) (wks q3 (.initialized New4.yN.cls :: New4.site))
  have q4 : ∀ w ∈ New4.tab :: words, w.before a s = true := fun w hw => (List.mem_cons.mp hw).elim (fun e => e ▸ h4) (h w)
  exact unparts (wk q4 (.code New1.yN New1.yB 2 none)) (wks q4 (.initialized New1.yN.cls :: New1.site))
/-- the words ride from the start Z to the walk's own state -/
theorem moved {Z s : State} {a0 args : Array Value} (hZ : Z.Warmed39 s.vm) (hw : ∀ d ∈ words, d.before a0 Z = true) : ∀ d ∈ words, d.before args s = true := fun d hd => by
  have q := hw d hd
  have t : ∀ d ∈ words, d = .arrayClass .byte ∨ (d.onTables && d.keepsFace) = true := by decide +kernel
  rcases t d hd with rfl | t
  · exact RoadKit.mvA hZ q
  · exact RoadKit.mv hZ q t
/-- WHAT COMES BACK, over the tables of the start Z: h the heap at the call, h' behind it -/
def Q (Z : State) (x : Addr) (A : Cell) (h : Heap) (v : Option Value) (h' : Heap) (L : List Loc) : Prop := v = none ∧ (∀ y ∈ L, y.base = x) ∧ RoadKit.Keep h h' [x] ∧ h'.size = h.size + 1 ∧ RoadKit.Exa Z h' x ST ∧ RoadKit.Fld Z h' x ST "value" "[B" (.ref h.size) ∧ RoadKit.Fld Z h' x ST "coder" "B" (.int 0) ∧
  (∃ V : Cell, RoadKit.Arr Z h' h.size V .byte ∧ V.vm = .none ∧ Z.vm.findClass "[B" = some V.cls ∧ V.slots.size = A.slots.size ∧ ∀ j, j < A.slots.size → V.slots[j]? = some (.int (lo8 (cv A j)))) ∧
  ∀ (O n d : String) (w : Value), RoadKit.Fld Z h x O n d w → RoadKit.slotOf Z O n d ≠ RoadKit.slotOf Z ST "value" "[B" → RoadKit.slotOf Z O n d ≠ RoadKit.slotOf Z ST "coder" "B" → RoadKit.Fld Z h' x O n d w
/-- **new String(chars) AT A CALL, IN THE ROAD'S FORM**: for specialBack behind newO: x the fresh String, b the char[] with the cell A -/
theorem back {p : Program} {l : Launch} {e : Env} {R : Room} {s : State} {args : Array Value} {below : List Frame} {len W : Nat} {Z : State} {a0 : Array Value} {h : Heap} (hZ : Z.Warmed39 s.vm) (hw : ∀ d ∈ words, d.before a0 Z = true) {kI : Nat} (wi : (Jvm.Cond.instantiable ST kI).before a0 Z = true)
    {x b : Addr} {A : Cell} {z : Int32} {v0 c0 : Value} (E : RoadKit.Exa Z h x ST) (V : RoadKit.Fld Z h x ST "value" "[B" v0) (C : RoadKit.Fld Z h x ST "coder" "B" c0) (K : RoadKit.Arr Z h b A .char) (hty : Typed .char A) (S : RoadKit.Sta Z h ST "COMPACT_STRINGS" "Z" (.int z)) (hz : ¬ z = 0)
    (l0 : 0 < A.slots.size) (l2 : A.slots.size ≤ 536870912) (hp : ∀ i, i < A.slots.size → ¬ 255 < cv A i) (hfr : 4 ≤ R.frames) (hlo : W + 65 ≤ R.locals) :
    Back l R p e below s args New1.yN len W (fun P a => a = #[.ref x, .ref b] ∧ P.U.heap = h ∧ P.cells + 1 ≤ R.cells ∧ P.slots + A.slots.size ≤ R.slots)
      (fun P _ v B => ∃ L, Q Z x A h v B.U.heap L ∧ B.locs = P.locs ++ L ∧ B.cells = P.cells + 1 ∧ B.slots = P.slots + A.slots.size) := by
  intro m meth c P g ig mk a X hg hsize hdg hW hn hp'
  obtain ⟨rfl, rfl, r1, r2⟩ := hp'
  have al : Z.vm.Alike P.U.vm := hZ.alike.trans X.warmed.alike
  obtain ⟨D, cfV, kV, iV, fV, hD, gV, stV, knV, obV, asV, slV⟩ := id V
  obtain ⟨D', cfC, kC, iC, fC, hD', gC, stC, -, -, asC, slC⟩ := id C
  cases hD.symm.trans hD'
  obtain ⟨D2, kD, e1, e2, e3, e4, e5⟩ := id E
  cases hD.symm.trans e1
  obtain ⟨c2, k2, i1, i2, i3, -⟩ := Cond.instantiable_spec wi
  cases e2.symm.trans i1
  cases e3.symm.trans i2
  obtain ⟨kU, u1, u2⟩ := al.2.2 _ _ e3
  have hB : Blank ST x D P.U := ⟨hD, ⟨knV, fun q hq => by rw [hq] at obV; cases obV⟩, by rw [al.findClass]; exact e2, kU, u1, by rw [u2]; exact i3, by rw [u2]; exact e5 i3⟩
  have F1 : Found ST "value" "[B" fV P.U := ⟨SBG.found_only al ⟨cfV, kV, iV, gV⟩, stV⟩
  have F2 : Found ST "coder" "B" fC P.U := ⟨SBG.found_only al ⟨cfC, kC, iC, gC⟩, stC⟩
  have hA : Ch b A P.U := ⟨⟨K.1, State.isArrayOf_alike al K.2.1, K.2.2, by omega⟩, hty⟩
  have hS : StaticIs P.U ST "COMPACT_STRINGS" "Z" (.int z) := by
    obtain ⟨cfS, iS, kS, fS, st, cS, t1, t2, t3, t4, t5, t6, t7⟩ := S
    exact StaticIs.there (s := { Z with heap := P.U.heap }) ⟨cfS, iS, kS, fS, st, cS, t1, t2, t3, t4, t5, (fun q => by rw [q] at t6; cases t6), t7⟩ al rfl
  obtain ⟨v, B, X', ⟨⟨hv, E', V', q1, q2, q3, q4, q5, q6, q7, q8, q9, q10, q11⟩, hl, hc, hs⟩, st⟩ := New1.pays x D fV fC b A z (tab_of (moved hZ hw)) hfr hlo m meth c P g ig mk _ X hg hsize hdg hW hn ⟨r1, r2, rfl, hB, F1, F2, hA, hS, hz, l0, l2, hp⟩
  have al' : Z.vm.Alike B.U.vm := hZ.alike.trans X'.warmed.alike
  have hsz : E'.slots.size = D.slots.size := by
    obtain ⟨-, -, -, kB, w1, w2, w3⟩ := q1
    obtain ⟨kB', y1, y2⟩ := al'.2.2 _ _ e3
    rw [q2.2.1] at w1
    cases w1.symm.trans y1
    rw [w3, e5 i3, y2]
  refine ⟨v, B, X', ⟨_, ⟨hv, ?_, ⟨by omega, fun y cy hy hn' => q10 y cy (by simpa using hn') hy, fun y cy hy => ?_⟩, q11, ⟨E', _, q1.1, by rw [q2.2.1]; exact e2, by rw [q2.2.1]; exact e3, by rw [q2.1]; exact obV, fun _ => by rw [hsz]; exact e5 i3⟩,
    ⟨E', cfV, kV, iV, fV, q1.1, gV, stV, by rw [q2.1]; exact knV, by rw [q2.1]; exact obV, by rw [q2.2.1]; exact asV, q3⟩, ⟨E', cfC, kC, iC, fC, q1.1, gC, stC, by rw [q2.1]; exact knV, by rw [q2.1]; exact obV, by rw [q2.2.1]; exact asC, q4⟩,
    ⟨V', ⟨q5.1, State.isArrayOf_alike al'.symm q5.2.1, q5.2.2.1⟩, q6, by rw [← al'.findClass]; exact q7, q8, fun j hj => by have := q9 j hj; rwa [Nat.zero_add] at this⟩, fun O n d w F n1 n2 => ?_⟩, hl, hc, hs⟩, st⟩
  · intro y hy
    simp only [List.mem_cons, List.not_mem_nil, or_false] at hy
    rcases hy with rfl | rfl <;> rfl
  · by_cases q : y = x
    · subst q
      cases hD.symm.trans hy
      exact ⟨E', q1.1, q2.2.1, q2.1, hsz⟩
    · exact ⟨cy, q10 y cy q hy, rfl, rfl, rfl⟩
  · obtain ⟨D3, cf, k, i, f, g1, g2, g3, g4, g5, g6, g7⟩ := F
    cases hD.symm.trans g1
    simp only [RoadKit.slotOf, g2, gV, gC, Option.map_some, Option.getD_some] at n1 n2
    exact ⟨E', cf, k, i, f, q1.1, g2, g3, by rw [q2.1]; exact g4, by rw [q2.1]; exact g5, by rw [q2.2.1]; exact g6, by rw [q2.2.2 f.slot (by simp [n1, n2])]; exact g7⟩
end StrChars.Road
namespace StrChars.Road
open Jvm Sem ClassFile Op Lib Jvm.Stand Jvm.Free Jvm.Free.XT
/-- WHAT COMES BACK, the byte[] as a list of values -/
def QA (Z : State) (x : Addr) (zn : Int32) (cs : List Int32) (h : Heap) (v : Option Value) (h' : Heap) (L : List Loc) : Prop := v = none ∧ (∀ y ∈ L, y.base = x) ∧ RoadKit.Keep h h' [x] ∧ h'.size = h.size + 1 ∧ RoadKit.Exa Z h' x ST ∧ RoadKit.Fld Z h' x ST "value" "[B" (.ref h.size) ∧ RoadKit.Fld Z h' x ST "coder" "B" (.int 0) ∧
  (∃ kb, Z.vm.findClass "[B" = some kb ∧ RoadKit.Arv Z h' h.size kb .byte zn (cs.map fun c => .int (lo8 c)) (.int 0)) ∧
  ∀ (O n d : String) (w : Value), RoadKit.Fld Z h x O n d w → RoadKit.slotOf Z O n d ≠ RoadKit.slotOf Z ST "value" "[B" → RoadKit.slotOf Z O n d ≠ RoadKit.slotOf Z ST "coder" "B" → RoadKit.Fld Z h' x O n d w
/-- **new String(chars) AT A CALL, THE ARRAYS AS LISTS**: the char[] at b holds cs, not empty, no char above 255 -/
theorem backArv {p : Program} {l : Launch} {e : Env} {R : Room} {s : State} {args : Array Value} {below : List Frame} {len W : Nat} {Z : State} {a0 : Array Value} {h : Heap} (hZ : Z.Warmed39 s.vm) (hw : ∀ d ∈ words, d.before a0 Z = true) {kI : Nat} (wi : (Jvm.Cond.instantiable ST kI).before a0 Z = true)
    {x b : Addr} {k : ClassId} {zn z : Int32} {cs : List Int32} {dv v0 c0 : Value} (E : RoadKit.Exa Z h x ST) (V : RoadKit.Fld Z h x ST "value" "[B" v0) (C : RoadKit.Fld Z h x ST "coder" "B" c0) (K : RoadKit.Arv Z h b k .char zn (cs.map Value.int) dv) (S : RoadKit.Sta Z h ST "COMPACT_STRINGS" "Z" (.int z)) (hz : ¬ z = 0)
    (hlen : zn.toNatClampNeg = cs.length) (h0 : 0 < cs.length) (hbig : cs.length ≤ 536870912) (hall : ∀ c ∈ cs, ¬ 255 < c) (hfr : 4 ≤ R.frames) (hlo : W + 65 ≤ R.locals) :
    Back l R p e below s args New1.yN len W (fun P a => a = #[.ref x, .ref b] ∧ P.U.heap = h ∧ P.cells + 1 ≤ R.cells ∧ P.slots + cs.length ≤ R.slots)
      (fun P _ v B => ∃ L, QA Z x zn cs h v B.U.heap L ∧ B.locs = P.locs ++ L ∧ B.cells = P.cells + 1 ∧ B.slots = P.slots + cs.length) := by
  obtain ⟨A, K1, K2, K3, K4, K5, K6⟩ := K
  have e : A.slots.size = cs.length := K3.trans hlen
  have hat : ∀ (i : Nat) (hi : i < cs.length), A.slots[i]? = some (.int cs[i]) := fun i hi => by rw [K5 i (by omega)]; simp [List.getD_eq_getElem?_getD, hi]
  have hcv : ∀ (i : Nat) (hi : i < cs.length), cv A i = cs[i] := fun i hi => by unfold cv; rw [hat i hi]
  have hty : Typed .char A := fun i v hv => by
    have hi : i < A.slots.size := (Array.getElem?_eq_some_iff.mp hv).1
    have q := K5 i hi
    rw [hv] at q
    rw [Option.some.inj q]
    exact K6 i hi
  refine Back.mono (back hZ hw wi E V C K1 hty S hz (by omega) (by omega) (fun i hi => by rw [hcv i (by omega)]; exact hall _ (List.getElem_mem _)) hfr hlo) (fun P a hp => ⟨hp.1, hp.2.1, hp.2.2.1, by rw [e]; exact hp.2.2.2⟩) (fun P a v B hp hq => ?_)
  obtain ⟨L, ⟨q1, q2, q3, q4, q5, q6, q7, ⟨V', v1, v2, v3, v4, v5⟩, q9⟩, hl, hc, hs⟩ := hq
  refine ⟨L, ⟨q1, q2, q3, q4, q5, q6, q7, ⟨V'.cls, v3, V', v1, rfl, by rw [v4, e, hlen], K4, fun i hi => ?_, fun i hi => ?_⟩, q9⟩, hl, hc, by rw [hs, e]⟩
  · have hi' : i < cs.length := by omega
    rw [v5 i (by omega), hcv i hi']; simp [List.getD_eq_getElem?_getD, hi']
  · have hi' : i < cs.length := by omega
    simp only [List.getD_eq_getElem?_getD, List.getElem?_map, List.getElem?_eq_getElem hi', Option.map_some, Option.getD_some]
    exact fits_lo8 _
end StrChars.Road
namespace StrChars.Road
open Jvm Sem ClassFile Op Lib Jvm.Stand Jvm.Free Jvm.Free.XT
/-- WHAT COMES BACK, in the writer's own shape -/
def QV (Z : State) (x : Addr) (N : Int32) (bs : List Int32) (h : Heap) (n0 : Nat) (v : Option Value) (h' : Heap) (L : List Loc) : Prop := v = none ∧ RoadKit.Fr n0 L ∧ RoadKit.Keep h h' [x] ∧ RoadKit.Exa Z h' x ST ∧ RoadKit.Fld Z h' x ST "coder" "B" (.int 0) ∧
  ∃ (t : Addr) (kb : ClassId), n0 ≤ t ∧ h.size ≤ t ∧ ¬ t = x ∧ RoadKit.Fld Z h' x ST "value" "[B" (.ref t) ∧ RoadKit.Arv Z h' t kb .byte N (bs.map Value.int) (.int 0)
/-- **new String(chars) AT A CALL, FOR THE WRITER**: a char[] of n known ints, each 0 to 255 -/
theorem backV {p : Program} {l : Launch} {e : Env} {R : Room} {s : State} {args : Array Value} {below : List Frame} {len W : Nat} {Z : State} {a0 : Array Value} {h : Heap} (hZ : Z.Warmed39 s.vm) (hw : ∀ d ∈ words, d.before a0 Z = true) {kI : Nat} (wi : (Jvm.Cond.instantiable ST kI).before a0 Z = true)
    {x b : Addr} {kC : ClassId} {cs bs : List Int32} {d v0 c0 : Value} {z N : Int32} {n n0 : Nat} (hx0 : n0 ≤ x) (hh0 : n0 ≤ h.size) (E : RoadKit.Exa Z h x ST) (V : RoadKit.Fld Z h x ST "value" "[B" v0) (C : RoadKit.Fld Z h x ST "coder" "B" c0) (K : RoadKit.Arv Z h b kC .char N (cs.map Value.int) d) (S : RoadKit.Sta Z h ST "COMPACT_STRINGS" "Z" (.int z)) (hz : ¬ z = 0)
    (hn : cs.length = n) (hN : N = Int32.ofNat n) (l0 : 0 < n) (l2 : n ≤ 4000) (hp : ∀ c ∈ cs, ¬ c < 0 ∧ ¬ (255 : Int32) < c) (hb : bs = cs.map (fun c => c.toInt8.toInt32)) (hfr : 4 ≤ R.frames) (hlo : W + 65 ≤ R.locals) :
    Back l R p e below s args (⟨"java/lang/String", "<init>", "([C)V"⟩ : MethodName) len W (fun P a => a = #[.ref x, .ref b] ∧ P.U.heap = h ∧ P.cells + 1 ≤ R.cells ∧ P.slots + n ≤ R.slots)
      (fun P _ v B => ∃ L, QV Z x N bs h n0 v B.U.heap L ∧ B.locs = P.locs ++ L ∧ B.cells = P.cells + 1 ∧ B.slots = P.slots + n) := by
  subst hn hN hb
  refine Back.mono (backArv hZ hw wi E V C K S hz (n32 (by omega)) l0 (by omega) (fun c hc => (hp c hc).2) hfr hlo) (fun P a hp => hp) (fun P a v B hp hq => ?_)
  obtain ⟨L, ⟨q1, q2, q3, q4, q5, q6, q7, ⟨kb, v1, v2⟩, q9⟩, hl, hc, hs⟩ := hq
  exact ⟨L, ⟨q1, fun y hy => by rw [q2 y hy]; exact hx0, q3, q5, q7, h.size, kb, hh0, Nat.le_refl _, Nat.ne_of_gt E.lt, q6, by rw [List.map_map]; exact v2⟩, hl, hc, hs⟩
end StrChars.Road
end Jvm.Pilot.@@N@@
namespace Jvm.Pilot.@@N@@
open Jvm Jvm.ClassFile Sem Op Lib Jvm.Free Jvm.Stand Jvm.LawKit Jvm.RoadKit Bundle Jvm.Pilot.@@N@@.Jvm.D
/-! 0. own tools: the goal that a walk carries; an array's store and load by what is known of it -/
def Go (tb : Tables) (e : Env) (below : List Frame) (P : State → Prop) (s : State) : Prop := ∃ s₂, Steps tb e below s s₂ ∧ P s₂
section OwnTools
variable {tb : Tables} {e : Env} {below : List Frame} {P : State → Prop} {A B : State}
theorem Go.st (h : ∀ t, Steps tb e below A t → Steps tb e below B t) (g : Go tb e below P A) : Go tb e below P B := by
  obtain ⟨s₂, h1, h2⟩ := g
  exact ⟨s₂, h _ h1, h2⟩
theorem Go.tr (h : Steps tb e below B A) (g : Go tb e below P A) : Go tb e below P B := by
  obtain ⟨s₂, h1, h2⟩ := g
  exact ⟨s₂, h.trans h1, h2⟩
theorem Go.start {Q : Outcome → State → Prop} (h : ∀ P : State → Prop, (∀ s₂ o, s₂.status = .running → Ended s₂ below o → Q o s₂ → P s₂) → Go tb e below P A) : ∃ s₂ o, Steps tb e below A s₂ ∧ s₂.status = .running ∧ Ended s₂ below o ∧ Q o s₂ := by
  obtain ⟨s₂, h1, o, h2, h3, h4⟩ := h (fun s₂ => ∃ o, s₂.status = .running ∧ Ended s₂ below o ∧ Q o s₂) (fun s₂ o a b c => ⟨o, a, b, c⟩)
  exact ⟨s₂, o, h1, h2, h3, h4⟩
theorem own_oldsz {Z : State} {n0 : Nat} {h : Heap} (X : Old Z n0 h) : n0 ≤ h.size := by have := X.1; have := X.2.1; omega
theorem own_cat {v : Value} (h : v.isRef = true) : v.category = 1 := by cases v <;> first | rfl | simp [Value.isRef] at h
theorem own_refcase {v : Value} (h : v.isRef = true) : v = .null ∨ ∃ a, v = .ref a := by cases v <;> first | (left; rfl) | (right; exact ⟨_, rfl⟩) | (simp [Value.isRef] at h)
theorem own_nar_ref {v : Value} {t : FieldType} (h : v.isRef = true) : narrow t v = v := by cases v <;> first | (simp [Value.isRef] at h; done) | (cases t <;> rfl)
theorem own_fits_ref {v : Value} {t : FieldType} (h : v.isRef = true) (ht : t.isReference = true := by rfl) : fits t v = true := by cases v <;> first | (simp [Value.isRef] at h; done) | (cases t <;> first | rfl | (simp [FieldType.isReference] at ht))
theorem own_eq_ref {args : Array Value} {first s : State} {o : Option Outcome} {idx : List Nat} {a b : Term} {w : Addr} (hb : b.eval args first o idx s = some (.ref w)) (h : (Cond.eq a b).value args first o s idx = some true) : a.eval args first o idx s = some (.ref w) := by
  cases ha : a.eval args first o idx s with
  | none => simp [Cond.value, ha] at h
  | some x => cases x <;> simp [Cond.value, ha, hb] at h ⊢; exact h
theorem own_len_start {args : Array Value} {s : State} {t : Term} {n : Int32} {a : Addr} {cl : Cell} (h : (Term.length t).eval args s none [] s = some (.int n)) (ht : t.eval args s none [] s = some (.ref a)) (hc : s.heap[a]? = some cl) : cl.slots.size < 2 ^ 31 ∧ cl.slots.size.toInt32 = n := by
  simp only [Term.eval, ht, Option.bind_eq_bind, Option.bind_some] at h
  cases hq : s.arrayAt? a with
  | none => simp [hq] at h
  | some c2 =>
    have e := (State.arrayAt?_spec hq).1
    cases hc.symm.trans e
    simp only [hq, Option.bind_some] at h
    split at h
    · rename_i hlt; exact ⟨hlt, by simpa using h⟩
    · cases h
theorem own_since (s : State) : s.Since s.vm 0 := (State.WarmedH.refl s).since 0
theorem own_and255 (x : Int32) : ¬ (x &&& 255) < 0 ∧ ¬ (255 : Int32) < (x &&& 255) := by
  have h := c_and x 255 (by decide)
  have e0 : (0 : Int32).toInt = 0 := rfl
  have e1 : (255 : Int32).toInt = 255 := rfl
  rw [Int32.lt_iff_toInt_lt, Int32.lt_iff_toInt_lt]
  omega
theorem own_nar_i2c (x : Int32) : nar .char (x.toUInt32.toUInt16.toUInt32.toInt32) = x.toUInt32.toUInt16.toUInt32.toInt32 := by
  show (x.toUInt32.toUInt16.toUInt32.toInt32).toUInt32.toUInt16.toUInt32.toInt32 = _
  rw [UInt32.toUInt32_toInt32, UInt16.toUInt16_toUInt32]
theorem own_nar_i2b (x : Int32) : nar .byte (x.toInt8.toInt32) = x.toInt8.toInt32 := by
  show (x.toInt8.toInt32).toInt8.toInt32 = _
  simp
theorem own_narZ {x : Int32} (h : x = 0 ∨ x = 1) : nar .boolean x = x := by rcases h with rfl | rfl <;> rfl
theorem own_up (cs : List Int32) (h : ∀ c ∈ cs, ¬ c < 0 ∧ ¬ (255 : Int32) < c) : ∀ c ∈ cs, ¬ c < 0 ∧ ¬ (65535 : Int32) < c := fun c hc => ⟨(h c hc).1, fun q => (h c hc).2 (by rw [Int32.lt_iff_toInt_lt] at q ⊢; have e1 : (65535 : Int32).toInt = 65535 := rfl; have e2 : (255 : Int32).toInt = 255 := rfl; omega)⟩
theorem own_narC {x : Int32} (h : ¬ x < 0 ∧ ¬ (255 : Int32) < x) : nar .char x = x := by
  have e0 : (0 : Int32).toInt = 0 := rfl
  have e1 : (255 : Int32).toInt = 255 := rfl
  have a := h.1
  have b := h.2
  rw [Int32.lt_iff_toInt_lt, e0] at a
  rw [Int32.lt_iff_toInt_lt, e1] at b
  have c := c_i2c x
  exact Int32.toInt_inj.mp (show x.toUInt32.toUInt16.toUInt32.toInt32.toInt = x.toInt by omega)
theorem own_int {r : Int32} {k : Int} (h : r.toInt = k) {q : Int32} (hq : q.toInt = k) : r = q := Int32.toInt_inj.mp (by rw [h, hq])
end OwnTools
section OwnArrays
variable {p : Program} {l : Launch} {e : Env} {R : Room} {s : State} {m : MethodId} {args : Array Value} {below : List Frame} {meth : Method} {c : Code} {T : State} {locs : List Loc} {cells slots : Nat} {Z : State} {h : Heap} {a : Addr} {k : ClassId} {z : Int32} {vs : List Value} {dv : Value}
theorem own_stC (X : Stand p l e R s m args below meth c T locs cells slots) (hx : p.tables.exec = Jvm.exec) (hZ : Z.Warmed39 s.vm) (eT : T.heap = h) (V : Arv Z h a k .char z vs dv) {j x : Int32} {i : Nat} (hj : ¬ j < 0 ∧ j < z) (hji : j.toNatClampNeg = i) (hi : i < vs.length) {g : JFrame} (hg : g.method = m) {rest : List Value} (hs : g.stack = .int x :: .int j :: .ref a :: rest) (hd : decode c.code g.pc = .ok (.castore, 1)) :
    ∃ T' h', Stand p l e R s m args below meth c T' (locs ++ [⟨a, j.toNatClampNeg⟩]) cells slots ∧ T'.heap = h' ∧ Wr h h' a j.toNatClampNeg (.int (nar .char x)) ∧ Arv Z h' a k .char z (vs.set i (.int (nar .char x))) dv ∧ ∀ target, Steps p.tables e below (T'.setTop { g with pc := g.pc + 1, stack := rest }) target → Steps p.tables e below (T.setTop g) target := by
  obtain ⟨cl, A, q1, S, q3, H, G⟩ := V
  obtain ⟨T', h', X', e', W, st⟩ := stC X hx hZ eT A (inb_of S hj) hg hs hd
  exact ⟨T', h', X', e', W, Arv.set A q1 S q3 H G (fits_nar_char x) W i hji hi, st⟩
theorem own_stI (X : Stand p l e R s m args below meth c T locs cells slots) (hx : p.tables.exec = Jvm.exec) (hZ : Z.Warmed39 s.vm) (eT : T.heap = h) (V : Arv Z h a k .int z vs dv) {j x : Int32} {i : Nat} (hj : ¬ j < 0 ∧ j < z) (hji : j.toNatClampNeg = i) (hi : i < vs.length) {g : JFrame} (hg : g.method = m) {rest : List Value} (hs : g.stack = .int x :: .int j :: .ref a :: rest) (hd : decode c.code g.pc = .ok (.iastore, 1)) :
    ∃ T' h', Stand p l e R s m args below meth c T' (locs ++ [⟨a, j.toNatClampNeg⟩]) cells slots ∧ T'.heap = h' ∧ Wr h h' a j.toNatClampNeg (.int x) ∧ Arv Z h' a k .int z (vs.set i (.int x)) dv ∧ ∀ target, Steps p.tables e below (T'.setTop { g with pc := g.pc + 1, stack := rest }) target → Steps p.tables e below (T.setTop g) target := by
  obtain ⟨cl, A, q1, S, q3, H, G⟩ := V
  obtain ⟨T', h', X', e', W, st⟩ := stI X hx hZ eT A (inb_of S hj) hg hs hd
  exact ⟨T', h', X', e', W, Arv.set A q1 S q3 H G rfl W i hji hi, st⟩
theorem own_stZ (X : Stand p l e R s m args below meth c T locs cells slots) (hx : p.tables.exec = Jvm.exec) (hZ : Z.Warmed39 s.vm) (eT : T.heap = h) (V : Arv Z h a k .boolean z vs dv) {j x : Int32} {i : Nat} (hj : ¬ j < 0 ∧ j < z) (hji : j.toNatClampNeg = i) (hi : i < vs.length) {g : JFrame} (hg : g.method = m) {rest : List Value} (hs : g.stack = .int x :: .int j :: .ref a :: rest) (hd : decode c.code g.pc = .ok (.bastore, 1)) :
    ∃ T' h', Stand p l e R s m args below meth c T' (locs ++ [⟨a, j.toNatClampNeg⟩]) cells slots ∧ T'.heap = h' ∧ Wr h h' a j.toNatClampNeg (.int (nar .boolean x)) ∧ Arv Z h' a k .boolean z (vs.set i (.int (nar .boolean x))) dv ∧ ∀ target, Steps p.tables e below (T'.setTop { g with pc := g.pc + 1, stack := rest }) target → Steps p.tables e below (T.setTop g) target := by
  obtain ⟨cl, A, q1, S, q3, H, G⟩ := V
  obtain ⟨T', h', X', e', W, st⟩ := stZ X hx hZ eT A (inb_of S hj) hg hs hd
  exact ⟨T', h', X', e', W, Arv.set A q1 S q3 H G (fits_nar_bool x) W i hji hi, st⟩
theorem own_stB (X : Stand p l e R s m args below meth c T locs cells slots) (hx : p.tables.exec = Jvm.exec) (hZ : Z.Warmed39 s.vm) (eT : T.heap = h) (V : Arv Z h a k .byte z vs dv) {j x : Int32} {i : Nat} (hj : ¬ j < 0 ∧ j < z) (hji : j.toNatClampNeg = i) (hi : i < vs.length) {g : JFrame} (hg : g.method = m) {rest : List Value} (hs : g.stack = .int x :: .int j :: .ref a :: rest) (hd : decode c.code g.pc = .ok (.bastore, 1)) :
    ∃ T' h', Stand p l e R s m args below meth c T' (locs ++ [⟨a, j.toNatClampNeg⟩]) cells slots ∧ T'.heap = h' ∧ Wr h h' a j.toNatClampNeg (.int (nar .byte x)) ∧ Arv Z h' a k .byte z (vs.set i (.int (nar .byte x))) dv ∧ ∀ target, Steps p.tables e below (T'.setTop { g with pc := g.pc + 1, stack := rest }) target → Steps p.tables e below (T.setTop g) target := by
  obtain ⟨cl, A, q1, S, q3, H, G⟩ := V
  obtain ⟨T', h', X', e', W, st⟩ := stB X hx hZ eT A (inb_of S hj) hg hs hd
  exact ⟨T', h', X', e', W, Arv.set A q1 S q3 H G (fits_nar_byte x) W i hji hi, st⟩
theorem own_stD (X : Stand p l e R s m args below meth c T locs cells slots) (hx : p.tables.exec = Jvm.exec) (hZ : Z.Warmed39 s.vm) (eT : T.heap = h) (V : Arv Z h a k .double z vs dv) {j : Int32} {x : UInt64} {i : Nat} (hj : ¬ j < 0 ∧ j < z) (hji : j.toNatClampNeg = i) (hi : i < vs.length) {g : JFrame} (hg : g.method = m) {rest : List Value} (hs : g.stack = .double x :: .int j :: .ref a :: rest) (hd : decode c.code g.pc = .ok (.dastore, 1)) :
    ∃ T' h', Stand p l e R s m args below meth c T' (locs ++ [⟨a, j.toNatClampNeg⟩]) cells slots ∧ T'.heap = h' ∧ Wr h h' a j.toNatClampNeg (.double x) ∧ Arv Z h' a k .double z (vs.set i (.double x)) dv ∧ ∀ target, Steps p.tables e below (T'.setTop { g with pc := g.pc + 1, stack := rest }) target → Steps p.tables e below (T.setTop g) target := by
  obtain ⟨cl, A, q1, S, q3, H, G⟩ := V
  obtain ⟨T', h', X', e', W, st⟩ := stD X hx hZ eT A (inb_of S hj) hg hs hd
  exact ⟨T', h', X', e', W, Arv.set A q1 S q3 H G rfl W i hji hi, st⟩
theorem own_at {ty : FieldType} (V : Arv Z h a k ty z vs dv) {j : Int32} {i : Nat} {v : Value} (hj : ¬ j < 0 ∧ j < z) (hji : j.toNatClampNeg = i) (hv : vs.getD i dv = v) : ∃ cl : Cell, Arr Z h a cl ty ∧ ¬ (j < 0 ∨ cl.slots.size ≤ j.toNatClampNeg) ∧ cl.slots[j.toNatClampNeg]? = some v := by
  obtain ⟨cl, A, q1, S, q3, H, G⟩ := V
  exact ⟨cl, A, inb_of S hj, Has.at H (inb_of S hj) (by rw [hji]; exact hv)⟩
theorem own_ldI (X : Stand p l e R s m args below meth c T locs cells slots) (hx : p.tables.exec = Jvm.exec) (hZ : Z.Warmed39 s.vm) (eT : T.heap = h) (V : Arv Z h a k .int z vs dv) {j : Int32} {i : Nat} {v : Value} (hj : ¬ j < 0 ∧ j < z) (hji : j.toNatClampNeg = i) (hv : vs.getD i dv = v) {g : JFrame} (hg : g.method = m) {rest : List Value} (hs : g.stack = .int j :: .ref a :: rest) (hd : decode c.code g.pc = .ok (.iaload, 1)) (target : State) :
    Steps p.tables e below (T.setTop { g with pc := g.pc + 1, stack := v :: rest }) target → Steps p.tables e below (T.setTop g) target := by
  obtain ⟨cl, A, hin, hat⟩ := own_at V hj hji hv
  exact X.iaload hx (by rw [eT]; exact A.1) (State.isArrayOf_alike hZ.alike A.2.1) A.2.2 hin hat hg hs hd target
theorem own_ldC (X : Stand p l e R s m args below meth c T locs cells slots) (hx : p.tables.exec = Jvm.exec) (hZ : Z.Warmed39 s.vm) (eT : T.heap = h) (V : Arv Z h a k .char z vs dv) {j : Int32} {i : Nat} {v : Value} (hj : ¬ j < 0 ∧ j < z) (hji : j.toNatClampNeg = i) (hv : vs.getD i dv = v) {g : JFrame} (hg : g.method = m) {rest : List Value} (hs : g.stack = .int j :: .ref a :: rest) (hd : decode c.code g.pc = .ok (.caload, 1)) (target : State) :
    Steps p.tables e below (T.setTop { g with pc := g.pc + 1, stack := v :: rest }) target → Steps p.tables e below (T.setTop g) target := by
  obtain ⟨cl, A, hin, hat⟩ := own_at V hj hji hv
  exact X.caload hx (by rw [eT]; exact A.1) (State.isArrayOf_alike hZ.alike A.2.1) A.2.2 hin hat hg hs hd target
theorem own_ldZ (X : Stand p l e R s m args below meth c T locs cells slots) (hx : p.tables.exec = Jvm.exec) (hZ : Z.Warmed39 s.vm) (eT : T.heap = h) (V : Arv Z h a k .boolean z vs dv) {j : Int32} {i : Nat} {v : Value} (hj : ¬ j < 0 ∧ j < z) (hji : j.toNatClampNeg = i) (hv : vs.getD i dv = v) {g : JFrame} (hg : g.method = m) {rest : List Value} (hs : g.stack = .int j :: .ref a :: rest) (hd : decode c.code g.pc = .ok (.baload, 1)) (target : State) :
    Steps p.tables e below (T.setTop { g with pc := g.pc + 1, stack := v :: rest }) target → Steps p.tables e below (T.setTop g) target := by
  obtain ⟨cl, A, hin, hat⟩ := own_at V hj hji hv
  exact X.baloadBooleans hx (by rw [eT]; exact A.1) (State.isArrayOf_alike hZ.alike A.2.1) A.2.2 hin hat hg hs hd target
theorem own_ldB (X : Stand p l e R s m args below meth c T locs cells slots) (hx : p.tables.exec = Jvm.exec) (hZ : Z.Warmed39 s.vm) (eT : T.heap = h) (V : Arv Z h a k .byte z vs dv) {j : Int32} {i : Nat} {v : Value} (hj : ¬ j < 0 ∧ j < z) (hji : j.toNatClampNeg = i) (hv : vs.getD i dv = v) {g : JFrame} (hg : g.method = m) {rest : List Value} (hs : g.stack = .int j :: .ref a :: rest) (hd : decode c.code g.pc = .ok (.baload, 1)) (target : State) :
    Steps p.tables e below (T.setTop { g with pc := g.pc + 1, stack := v :: rest }) target → Steps p.tables e below (T.setTop g) target := by
  obtain ⟨cl, A, hin, hat⟩ := own_at V hj hji hv
  exact X.baloadBytes hx (by rw [eT]; exact A.1) (State.isArrayOf_alike hZ.alike A.2.1) A.2.2 hin hat hg hs hd target
theorem own_ldD (X : Stand p l e R s m args below meth c T locs cells slots) (hx : p.tables.exec = Jvm.exec) (hZ : Z.Warmed39 s.vm) (eT : T.heap = h) (V : Arv Z h a k .double z vs dv) {j : Int32} {i : Nat} {v : Value} (hj : ¬ j < 0 ∧ j < z) (hji : j.toNatClampNeg = i) (hv : vs.getD i dv = v) {g : JFrame} (hg : g.method = m) {rest : List Value} (hs : g.stack = .int j :: .ref a :: rest) (hd : decode c.code g.pc = .ok (.daload, 1)) (target : State) :
    Steps p.tables e below (T.setTop { g with pc := g.pc + 1, stack := v :: rest }) target → Steps p.tables e below (T.setTop g) target := by
  obtain ⟨cl, A, hin, hat⟩ := own_at V hj hji hv
  exact X.daload hx (by rw [eT]; exact A.1) (State.isArrayOf_alike hZ.alike A.2.1) A.2.2 hin hat hg hs hd target
theorem own_ldR {C : String} (X : Stand p l e R s m args below meth c T locs cells slots) (hx : p.tables.exec = Jvm.exec) (hZ : Z.Warmed39 s.vm) (eT : T.heap = h) (V : Arv Z h a k (.object C) z vs dv) {j : Int32} {i : Nat} {v : Value} (hj : ¬ j < 0 ∧ j < z) (hji : j.toNatClampNeg = i) (hv : vs.getD i dv = v) {g : JFrame} (hg : g.method = m) {rest : List Value} (hs : g.stack = .int j :: .ref a :: rest) (hd : decode c.code g.pc = .ok (.aaload, 1)) (target : State) :
    Steps p.tables e below (T.setTop { g with pc := g.pc + 1, stack := v :: rest }) target → Steps p.tables e below (T.setTop g) target := by
  obtain ⟨cl, A, hin, hat⟩ := own_at V hj hji hv
  exact X.aaload hx (by rw [eT]; exact A.1) (State.isArrayOf_alike hZ.alike A.2.1) rfl A.2.2 hin hat hg hs hd target
theorem own_len {ty : FieldType} (X : Stand p l e R s m args below meth c T locs cells slots) (hx : p.tables.exec = Jvm.exec) (hZ : Z.Warmed39 s.vm) (eT : T.heap = h) (V : Arv Z h a k ty z vs dv) {g : JFrame} (hg : g.method = m) {rest : List Value} (hs : g.stack = .ref a :: rest) (hd : decode c.code g.pc = .ok (.arraylength, 1)) (target : State) :
    Steps p.tables e below (T.setTop { g with pc := g.pc + 1, stack := .int z :: rest }) target → Steps p.tables e below (T.setTop g) target := by
  obtain ⟨cl, A, q1, S, q3, H, G⟩ := V
  have q := X.arraylength hx (by rw [eT]; exact A.1) (State.isArrayOf_alike hZ.alike A.2.1) hg hs hd target
  rw [len_of S q3] at q
  exact q
theorem own_getD_int (xs : List Int32) (i : Nat) : (xs.map Value.int).getD i (.int 0) = .int (xs.getD i 0) := by
  simp only [List.getD_eq_getElem?_getD, List.getElem?_map]
  cases xs[i]? <;> rfl
theorem own_arv_set {ty : FieldType} {xs : List Int32} {i : Nat} {v : Int32} (V : Arv Z h a k ty z ((xs.map Value.int).set i (.int v)) dv) : Arv Z h a k ty z ((xs.set i v).map Value.int) dv := by rw [List.map_set]; exact V
end OwnArrays

theorem own_strAtoms : ∀ a ∈ Bundle.stringAtoms, a ∈ tables_1 := by decide +kernel
theorem own_wNew : ∀ d ∈ StrChars.Road.words, d ∈ tables_1 := by decide +kernel
def own_SQ (Z : State) (h : Heap) (v : Value) : Prop := v = .null ∨ ∃ a, v = .ref a ∧ Exa Z h a "java/lang/String"
theorem own_SQ.ref {Z : State} {h : Heap} {v : Value} (F : own_SQ Z h v) : v.isRef = true := by rcases F with rfl | ⟨a, rfl, -⟩ <;> rfl
theorem own_SQ.ext {Z : State} {h h' : Heap} {v : Value} (F : own_SQ Z h v) (E : Ext h h') : own_SQ Z h' v := F.imp id fun ⟨a, e, x⟩ => ⟨a, e, x.ext E⟩
theorem own_SQ.wr {Z : State} {h h' : Heap} {v w : Value} {a : Addr} {sl : Nat} (F : own_SQ Z h v) (W : Wr h h' a sl w) : own_SQ Z h' v := F.imp id fun ⟨a, e, x⟩ => ⟨a, e, x.wr W⟩
theorem own_SQ.keep {Z : State} {h h' : Heap} {v : Value} {ws : List Addr} (F : own_SQ Z h v) (K : Keep h h' ws) : own_SQ Z h' v := F.imp id fun ⟨a, e, x⟩ => ⟨a, e, x.keep K⟩
theorem own_safe_null {Z : State} {EL : List (String × Nat)} {vm : Vm} {h : Heap} {x : Addr} (hal : Z.vm.Alike vm) (E : Exa Z h x "java/lang/String") (V : Fld Z h x "java/lang/String" "value" "[B" .null) : Safe Z EL vm h x := fun B => by
  obtain ⟨p, hp, u, a, hb, q, hqa, F, hy⟩ := B
  obtain ⟨cS, ⟨⟨s1, s2, s3, ⟨cv, kv, iv, s4, s4'⟩, s5, s6, s7, s8, s9, s10, srest⟩, hfS, hcS⟩, k1, hB, hbyt⟩ := F
  rcases hy with rfl | rfl
  · obtain ⟨cell, cf, k, i, f, h1, h2, h3, h4, h5, h6, h7⟩ := V
    have e1 : h[q.sa]? = some q.sC := s1
    cases h1.symm.trans e1
    obtain ⟨kv', z4⟩ := ff_back (U := Wst Z vm h) hal s4
    have z5 := h2.symm.trans z4
    simp only [Option.some.injEq, Prod.mk.injEq] at z5
    rw [z5.2.2.2, s8] at h7
    cases h7
  · obtain ⟨cell, k, h1, h2, h3, h4, h5⟩ := E
    have e1 : h[q.sd]? = some q.SA := s10
    cases h1.symm.trans e1
    have hB' : vm.findClass "[B" = some q.SA.cls := hB
    rw [hal.findClass] at hB'
    obtain ⟨ka, a1, a2⟩ := Vm.findClass_spec h2
    obtain ⟨kb, b1, b2⟩ := Vm.findClass_spec hB'
    cases a1.symm.trans b1
    exact absurd (a2.symm.trans b2) (by decide)
theorem own_EW (Z : State) (a0 : Array Value) (hw : ∀ d ∈ tables_1, d.before a0 Z = true) : EW Z a0 consts_1 := (EW.cons (hw _ (List.mem_of_getElem? (i := 41) rfl)) (by decide) (EW.cons (hw _ (List.mem_of_getElem? (i := 21) rfl)) (by decide) EW.nil))
theorem own_ef_rm_rec (m : MethodId) (x0 : Addr) : entryFrame m #[(.ref x0)] 1 = mkF m 0 #[.val (.ref x0)] [] := by first | (simp [entryFrame, mkF, argsToLocals, Value.category]; done) | rfl
theorem own_pn0 : plainName "java/lang/Record" = true := by first | (simp [plainName, overriddenIn]; done) | decide +kernel
theorem own_d_jdk_30_method_1_code_0 : decode jdk_30_method_1_code 0 = .ok (.aload_n 0, 1) := by decide +kernel
theorem own_d_jdk_30_method_1_code_1 : decode jdk_30_method_1_code 1 = .ok (.invokespecial 1, 3) := by decide +kernel
theorem own_d_jdk_30_method_1_code_4 : decode jdk_30_method_1_code 4 = .ok (.return_, 1) := by decide +kernel
def Q_rm_rec (Z : State) (w_A : Addr) (w_B : Addr) (w_C : Addr) (w_D : Addr) (g_CS : Int32) (p0 : Addr) (h0 : Heap) (n0 : Nat) (v : Option Value) (h : Heap) (L : List Loc) : Prop := v = none ∧ Fr n0 L ∧ h = h0
set_option maxRecDepth 65536 in
set_option maxHeartbeats 40000000 in
theorem rm_rec (l : Launch) (Z : State) (a0 : Array Value) (hw : ∀ d ∈ tables_1, d.before a0 Z = true) (ws : List Jvm.Cond) (w_A : Addr) (S_A : Sta Z Z.heap "com/example/crisp_fixture/crispfixture/dialect/Dialect$Content" "BY_CODE" "Lcom/example/crisp_fixture/crispfixture/dialect/Dialect$Content;" (.ref w_A)) (X_A : Exa Z Z.heap w_A "com/example/crisp_fixture/crispfixture/dialect/Dialect$Content") (w_B : Addr) (S_B : Sta Z Z.heap "com/example/crisp_fixture/crispfixture/dialect/Dialect$Content" "JSON_MEMBERS_IN_ORDER" "Lcom/example/crisp_fixture/crispfixture/dialect/Dialect$Content;" (.ref w_B)) (X_B : Exa Z Z.heap w_B "com/example/crisp_fixture/crispfixture/dialect/Dialect$Content") (w_C : Addr) (S_C : Sta Z Z.heap "com/example/crisp_fixture/crispfixture/dialect/Dialect$Content" "JSON_MEMBERS_BY_NAME" "Lcom/example/crisp_fixture/crispfixture/dialect/Dialect$Content;" (.ref w_C)) (X_C : Exa Z Z.heap w_C "com/example/crisp_fixture/crispfixture/dialect/Dialect$Content") (w_D : Addr) (S_D : Sta Z Z.heap "com/example/crisp_fixture/crispfixture/dialect/Dialect$Content" "UUID" "Lcom/example/crisp_fixture/crispfixture/dialect/Dialect$Content;" (.ref w_D)) (X_D : Exa Z Z.heap w_D "com/example/crisp_fixture/crispfixture/dialect/Dialect$Content") (g_CS : Int32) (S_CS : Sta Z Z.heap "java/lang/String" "COMPACT_STRINGS" "Z" (.int g_CS)) (nz_CS : ¬ (g_CS = (0 : Int32))) (p0 : Addr) (h0 : Heap) (n0 : Nat) (X00 : Old Z n0 h0)  :
    MetFree l (⟨"java/lang/Record", "<init>", "()V"⟩ : MethodName) (head1 (Jvm.Cond.code (⟨"java/lang/Record", "<init>", "()V"⟩ : MethodName) jdk_30_method_1_code 1 none :: ws) ({ frames := 1, cells := 0, slots := 0, locals := 12 } : Room)) (fun a U => a = #[(.ref p0)] ∧ Z.Warmed39 U.vm ∧ U.heap = h0) (fun _ _ _ _ _ => True) (fun _ U o U' => ∃ v L, o = .returned v ∧ Q_rm_rec Z w_A w_B w_C w_D g_CS p0 h0 n0 v U'.heap L ∧ FrameEnd U o U' L ({ frames := 1, cells := 0, slots := 0, locals := 12 } : Room).cells ({ frames := 1, cells := 0, slots := 0, locals := 12 } : Room).slots) := by
  refine MetFree.of_bodySF (plainFor_of_name own_pn0) hisR ?_
  intro p e s m args below meth c s₁ Bd hml0 hP hK
  obtain ⟨rfl, hZ, hh⟩ := hP
  have hx := Bd.exec
  have hby := Bd.bytes
  have hml : c.maxLocals = 1 := hml0
  have hown : s.vm.findClass "java/lang/Record" = some m.cls := findClass_of_methodNamed Bd.named
  have hnm := (name_of_methodNamed Bd.named Bd.method).1
  have X0 : Stand p l e ({ frames := 1, cells := 0, slots := 0, locals := 12 } : Room) s m #[(.ref p0)] below meth c s₁ [] 0 0 := Stand.of_body Bd
  have e0 : s₁.heap = h0 := by rw [← hh, Bd.state]; rfl
  have N0 := Fr.nil n0
  refine Go.start fun P hPend => ?_
  refine Go.st (fun _ k => castTop (own_ef_rm_rec m p0) k) ?_
  show Go p.tables e below P (s₁.setTop (mkF m 0 #[.val (.ref p0)] []))
  refine Go.st (fun _ => XS.aloadN X0.here hx rfl (hb hby own_d_jdk_30_method_1_code_0) rfl rfl) ?_
  show Go p.tables e below P (s₁.setTop (mkF m 1 #[.val (.ref p0)] [(.ref p0)]))
  obtain ⟨T1, X1, e1, st1⟩ := initO X0 hx hZ hown (hw _ (List.mem_of_getElem? (i := 40) rfl)) (hw _ (List.mem_of_getElem? (i := 19) rfl)) (hw _ (List.mem_of_getElem? (i := 20) rfl)) e0 (g := (mkF m 1 #[.val (.ref p0)] [(.ref p0)])) rfl (by rw [hml]; rfl) rfl (hb hby own_d_jdk_30_method_1_code_1) (by decide) (W := 0) (by show 2 * 0 + _ ≤ _; exact Nat.le_of_eq rfl) (by decide)
  refine Go.st st1 ?_
  show Go p.tables e below P (T1.setTop (mkF m 4 #[.val (.ref p0)] []))
  obtain ⟨fs, hr, hrun, hended, hW, hsame⟩ := X1.leave (v := none) (fun _ => rfl)
  refine ⟨_, ?_, hPend _ _ hrun hended ⟨_, _, rfl, ?_, ⟨_, rfl⟩, hW, hsame.mono (by decide) (by decide)⟩⟩
  · exact X1.returnOut hx Bd.returns (hb hby own_d_jdk_30_method_1_code_4) hr
  · show Q_rm_rec Z _ _ _ _ _ _ h0 n0 _ T1.heap _
    rw [e1]
    exact ⟨rfl, N0, rfl⟩
theorem own_ef_rm_rnn (m : MethodId) (x0 : Addr) (x1 : Addr) : entryFrame m #[(.ref x0), (.ref x1)] 2 = mkF m 0 #[.val (.ref x0), .val (.ref x1)] [] := by first | (simp [entryFrame, mkF, argsToLocals, Value.category]; done) | rfl
theorem own_pn1 : plainName "java/util/Objects" = true := by first | (simp [plainName, overriddenIn]; done) | decide +kernel
theorem own_d_jdk_31_method_11_code_0 : decode jdk_31_method_11_code 0 = .ok (.aload_n 0, 1) := by decide +kernel
theorem own_d_jdk_31_method_11_code_1 : decode jdk_31_method_11_code 1 = .ok (.ifnonnull 12, 3) := by decide +kernel
theorem own_d_jdk_31_method_11_code_13 : decode jdk_31_method_11_code 13 = .ok (.aload_n 0, 1) := by decide +kernel
theorem own_d_jdk_31_method_11_code_14 : decode jdk_31_method_11_code 14 = .ok (.areturn, 1) := by decide +kernel
def Q_rm_rnn (Z : State) (w_A : Addr) (w_B : Addr) (w_C : Addr) (w_D : Addr) (g_CS : Int32) (p0 : Addr) (p1 : Addr) (h0 : Heap) (n0 : Nat) (v : Option Value) (h : Heap) (L : List Loc) : Prop := v = some (.ref p0) ∧ Fr n0 L ∧ h = h0
set_option maxRecDepth 65536 in
set_option maxHeartbeats 40000000 in
theorem rm_rnn (l : Launch) (Z : State) (a0 : Array Value) (hw : ∀ d ∈ tables_1, d.before a0 Z = true) (ws : List Jvm.Cond) (w_A : Addr) (S_A : Sta Z Z.heap "com/example/crisp_fixture/crispfixture/dialect/Dialect$Content" "BY_CODE" "Lcom/example/crisp_fixture/crispfixture/dialect/Dialect$Content;" (.ref w_A)) (X_A : Exa Z Z.heap w_A "com/example/crisp_fixture/crispfixture/dialect/Dialect$Content") (w_B : Addr) (S_B : Sta Z Z.heap "com/example/crisp_fixture/crispfixture/dialect/Dialect$Content" "JSON_MEMBERS_IN_ORDER" "Lcom/example/crisp_fixture/crispfixture/dialect/Dialect$Content;" (.ref w_B)) (X_B : Exa Z Z.heap w_B "com/example/crisp_fixture/crispfixture/dialect/Dialect$Content") (w_C : Addr) (S_C : Sta Z Z.heap "com/example/crisp_fixture/crispfixture/dialect/Dialect$Content" "JSON_MEMBERS_BY_NAME" "Lcom/example/crisp_fixture/crispfixture/dialect/Dialect$Content;" (.ref w_C)) (X_C : Exa Z Z.heap w_C "com/example/crisp_fixture/crispfixture/dialect/Dialect$Content") (w_D : Addr) (S_D : Sta Z Z.heap "com/example/crisp_fixture/crispfixture/dialect/Dialect$Content" "UUID" "Lcom/example/crisp_fixture/crispfixture/dialect/Dialect$Content;" (.ref w_D)) (X_D : Exa Z Z.heap w_D "com/example/crisp_fixture/crispfixture/dialect/Dialect$Content") (g_CS : Int32) (S_CS : Sta Z Z.heap "java/lang/String" "COMPACT_STRINGS" "Z" (.int g_CS)) (nz_CS : ¬ (g_CS = (0 : Int32))) (p0 : Addr) (p1 : Addr) (h0 : Heap) (n0 : Nat) (X00 : Old Z n0 h0)  :
    MetFree l (⟨"java/util/Objects", "requireNonNull", "(Ljava/lang/Object;Ljava/lang/String;)Ljava/lang/Object;"⟩ : MethodName) (head1 (Jvm.Cond.code (⟨"java/util/Objects", "requireNonNull", "(Ljava/lang/Object;Ljava/lang/String;)Ljava/lang/Object;"⟩ : MethodName) jdk_31_method_11_code 2 (some (.object "java/lang/Object")) :: ws) ({ frames := 0, cells := 0, slots := 0, locals := 0 } : Room)) (fun a U => a = #[(.ref p0), (.ref p1)] ∧ Z.Warmed39 U.vm ∧ U.heap = h0) (fun _ _ _ _ _ => True) (fun _ U o U' => ∃ v L, o = .returned v ∧ Q_rm_rnn Z w_A w_B w_C w_D g_CS p0 p1 h0 n0 v U'.heap L ∧ FrameEnd U o U' L ({ frames := 0, cells := 0, slots := 0, locals := 0 } : Room).cells ({ frames := 0, cells := 0, slots := 0, locals := 0 } : Room).slots) := by
  refine MetFree.of_bodySF (plainFor_of_name own_pn1) hisR ?_
  intro p e s m args below meth c s₁ Bd hml0 hP hK
  obtain ⟨rfl, hZ, hh⟩ := hP
  have hx := Bd.exec
  have hby := Bd.bytes
  have hml : c.maxLocals = 2 := hml0
  have hown : s.vm.findClass "java/util/Objects" = some m.cls := findClass_of_methodNamed Bd.named
  have hnm := (name_of_methodNamed Bd.named Bd.method).1
  have X0 : Stand p l e ({ frames := 0, cells := 0, slots := 0, locals := 0 } : Room) s m #[(.ref p0), (.ref p1)] below meth c s₁ [] 0 0 := Stand.of_body Bd
  have e0 : s₁.heap = h0 := by rw [← hh, Bd.state]; rfl
  have N0 := Fr.nil n0
  refine Go.start fun P hPend => ?_
  refine Go.st (fun _ k => castTop (own_ef_rm_rnn m p0 p1) k) ?_
  show Go p.tables e below P (s₁.setTop (mkF m 0 #[.val (.ref p0), .val (.ref p1)] []))
  refine Go.st (fun _ => XS.aloadN X0.here hx rfl (hb hby own_d_jdk_31_method_11_code_0) rfl rfl) ?_
  show Go p.tables e below P (s₁.setTop (mkF m 1 #[.val (.ref p0), .val (.ref p1)] [(.ref p0)]))
  refine Go.st (fun _ => XS.ifnonnullYes X0.here hx rfl (pc0 := 1) (pc' := 13) rfl (hb hby own_d_jdk_31_method_11_code_1) rfl (by decide) (by decide)) ?_
  show Go p.tables e below P (s₁.setTop (mkF m 13 #[.val (.ref p0), .val (.ref p1)] []))
  refine Go.st (fun _ => XS.aloadN X0.here hx rfl (hb hby own_d_jdk_31_method_11_code_13) rfl rfl) ?_
  show Go p.tables e below P (s₁.setTop (mkF m 14 #[.val (.ref p0), .val (.ref p1)] [(.ref p0)]))
  obtain ⟨fs, hr, hrun, hended, hW, hsame⟩ := X0.leave (v := some (.ref p0)) (fun h => by rw [Bd.returns] at h; cases h)
  refine ⟨_, ?_, hPend _ _ hrun hended ⟨_, _, rfl, ?_, ⟨_, rfl⟩, hW, hsame.mono (by decide) (by decide)⟩⟩
  · exact retOut X0 hx (t := (.object "java/lang/Object")) Bd.returns rfl (Or.inr (Or.inr (Or.inr (Or.inr ⟨rfl, rfl, rfl⟩)))) (hb hby own_d_jdk_31_method_11_code_14) hr
  · show Q_rm_rnn Z _ _ _ _ _ _ _ h0 n0 _ s₁.heap _
    rw [e0]
    exact ⟨rfl, N0, rfl⟩
theorem own_ef_rm_emp2 (m : MethodId) (x0 : Addr) (x1 : Addr) (x2 : Int32) (x3 : Int32) : entryFrame m #[(.ref x0), (.ref x1), (.int x2), (.int x3), .null] 6 = mkF m 0 #[.val (.ref x0), .val (.ref x1), .val (.int x2), .val (.int x3), .val .null, .unset] [] := by first | (simp [entryFrame, mkF, argsToLocals, Value.category]; done) | rfl
theorem own_pn2 : plainName "java/lang/String" = true := by first | (simp [plainName, overriddenIn]; done) | decide +kernel
theorem own_d_jdk_42_method_149_code_0 : decode jdk_42_method_149_code 0 = .ok (.aload_n 0, 1) := by decide +kernel
theorem own_d_jdk_42_method_149_code_1 : decode jdk_42_method_149_code 1 = .ok (.invokespecial 1, 3) := by decide +kernel
theorem own_d_jdk_42_method_149_code_4 : decode jdk_42_method_149_code 4 = .ok (.iload_n 3, 1) := by decide +kernel
theorem own_d_jdk_42_method_149_code_5 : decode jdk_42_method_149_code 5 = .ok (.ifCond .ne 22, 3) := by decide +kernel
theorem own_d_jdk_42_method_149_code_8 : decode jdk_42_method_149_code 8 = .ok (.aload_n 0, 1) := by decide +kernel
theorem own_d_jdk_42_method_149_code_9 : decode jdk_42_method_149_code 9 = .ok (.ldc 7, 2) := by decide +kernel
theorem own_d_jdk_42_method_149_code_11 : decode jdk_42_method_149_code 11 = .ok (.getfield 9, 3) := by decide +kernel
theorem own_d_jdk_42_method_149_code_14 : decode jdk_42_method_149_code 14 = .ok (.putfield 9, 3) := by decide +kernel
theorem own_d_jdk_42_method_149_code_17 : decode jdk_42_method_149_code 17 = .ok (.aload_n 0, 1) := by decide +kernel
theorem own_d_jdk_42_method_149_code_18 : decode jdk_42_method_149_code 18 = .ok (.ldc 7, 2) := by decide +kernel
theorem own_d_jdk_42_method_149_code_20 : decode jdk_42_method_149_code 20 = .ok (.getfield 15, 3) := by decide +kernel
theorem own_d_jdk_42_method_149_code_23 : decode jdk_42_method_149_code 23 = .ok (.putfield 15, 3) := by decide +kernel
theorem own_d_jdk_42_method_149_code_26 : decode jdk_42_method_149_code 26 = .ok (.return_, 1) := by decide +kernel
def Q_rm_emp2 (Z : State) (w_A : Addr) (w_B : Addr) (w_C : Addr) (w_D : Addr) (g_CS : Int32) (p0 : Addr) (p1 : Addr) (h0 : Heap) (n0 : Nat) (v : Option Value) (h : Heap) (L : List Loc) : Prop := ∃ (vb : Addr) (kb : ClassId), v = none ∧ Fr n0 L ∧ Keep h0 h [p0] ∧ Exa Z h p0 "java/lang/String" ∧ Fld Z h p0 "java/lang/String" "coder" "B" (.int (0 : Int32)) ∧ Fld Z h p0 "java/lang/String" "value" "[B" (.ref vb) ∧ Arv Z h vb kb .byte (0 : Int32) [] (.int (0 : Int32))
set_option maxRecDepth 65536 in
set_option maxHeartbeats 40000000 in
theorem rm_emp2 (l : Launch) (Z : State) (a0 : Array Value) (hw : ∀ d ∈ tables_1, d.before a0 Z = true) (ws : List Jvm.Cond) (w_A : Addr) (S_A : Sta Z Z.heap "com/example/crisp_fixture/crispfixture/dialect/Dialect$Content" "BY_CODE" "Lcom/example/crisp_fixture/crispfixture/dialect/Dialect$Content;" (.ref w_A)) (X_A : Exa Z Z.heap w_A "com/example/crisp_fixture/crispfixture/dialect/Dialect$Content") (w_B : Addr) (S_B : Sta Z Z.heap "com/example/crisp_fixture/crispfixture/dialect/Dialect$Content" "JSON_MEMBERS_IN_ORDER" "Lcom/example/crisp_fixture/crispfixture/dialect/Dialect$Content;" (.ref w_B)) (X_B : Exa Z Z.heap w_B "com/example/crisp_fixture/crispfixture/dialect/Dialect$Content") (w_C : Addr) (S_C : Sta Z Z.heap "com/example/crisp_fixture/crispfixture/dialect/Dialect$Content" "JSON_MEMBERS_BY_NAME" "Lcom/example/crisp_fixture/crispfixture/dialect/Dialect$Content;" (.ref w_C)) (X_C : Exa Z Z.heap w_C "com/example/crisp_fixture/crispfixture/dialect/Dialect$Content") (w_D : Addr) (S_D : Sta Z Z.heap "com/example/crisp_fixture/crispfixture/dialect/Dialect$Content" "UUID" "Lcom/example/crisp_fixture/crispfixture/dialect/Dialect$Content;" (.ref w_D)) (X_D : Exa Z Z.heap w_D "com/example/crisp_fixture/crispfixture/dialect/Dialect$Content") (g_CS : Int32) (S_CS : Sta Z Z.heap "java/lang/String" "COMPACT_STRINGS" "Z" (.int g_CS)) (nz_CS : ¬ (g_CS = (0 : Int32))) (p0 : Addr) (p1 : Addr) (h0 : Heap) (n0 : Nat) (X00 : Old Z n0 h0) (hp0 : Exa Z h0 p0 "java/lang/String") (hp1 : Fld Z h0 p0 "java/lang/String" "value" "[B" .null) (hp2 : Fld Z h0 p0 "java/lang/String" "coder" "B" (.int (0 : Int32))) (hp3 : n0 ≤ p0) :
    MetFree l (⟨"java/lang/String", "<init>", "([CIILjava/lang/Void;)V"⟩ : MethodName) (head1 (Jvm.Cond.code (⟨"java/lang/String", "<init>", "([CIILjava/lang/Void;)V"⟩ : MethodName) jdk_42_method_149_code 6 none :: ws) ({ frames := 1, cells := 4, slots := 8, locals := 12 } : Room)) (fun a U => a = #[(.ref p0), (.ref p1), (.int (0 : Int32)), (.int (0 : Int32)), .null] ∧ Z.Warmed39 U.vm ∧ U.heap = h0 ∧ CHv Z consts_1 U.vm h0) (fun _ _ _ _ _ => True) (fun _ U o U' => ∃ v L, o = .returned v ∧ Q_rm_emp2 Z w_A w_B w_C w_D g_CS p0 p1 h0 n0 v U'.heap L ∧ CHr Z consts_1 U.vm U.heap U'.vm U'.heap ∧ ReturnedEndW U o U' L ({ frames := 1, cells := 4, slots := 8, locals := 12 } : Room).cells ({ frames := 1, cells := 4, slots := 8, locals := 12 } : Room).slots) := by
  refine MetFree.of_bodySF (plainFor_of_name own_pn2) hisR ?_
  intro p e s m args below meth c s₁ Bd hml0 hP hK
  obtain ⟨rfl, hZ, hh, hCH⟩ := hP
  have hEL := own_EW Z a0 hw
  have CR0 : CHr Z consts_1 s.vm h0 s.vm h0 := CHr.refl hCH
  have hx := Bd.exec
  have hby := Bd.bytes
  have hml : c.maxLocals = 6 := hml0
  have hown : s.vm.findClass "java/lang/String" = some m.cls := findClass_of_methodNamed Bd.named
  have hnm := (name_of_methodNamed Bd.named Bd.method).1
  have X0 : Stand p l e ({ frames := 1, cells := 4, slots := 8, locals := 12 } : Room) (s.setVm s.vm) m #[(.ref p0), (.ref p1), (.int (0 : Int32)), (.int (0 : Int32)), .null] below meth c s₁ [] 0 0 := Stand.of_body Bd
  have e0 : s₁.heap = h0 := by rw [← hh, Bd.state]; rfl
  have N0 := Fr.nil n0
  have hS0 : s.Since s.vm 0 := own_since s
  have hk0 : 0 ≤ h0.size := Nat.zero_le _
  have hZ : Z.Warmed39 (s.setVm s.vm).vm := hZ
  have hown : (s.setVm s.vm).vm.findClass "java/lang/String" = some m.cls := hown
  refine Go.start fun P hPend => ?_
  refine Go.st (fun _ k => castTop (own_ef_rm_emp2 m p0 p1 ((0 : Int32)) ((0 : Int32))) k) ?_
  show Go p.tables e below P (s₁.setTop (mkF m 0 #[.val (.ref p0), .val (.ref p1), .val (.int (0 : Int32)), .val (.int (0 : Int32)), .val .null, .unset] []))
  refine Go.st (fun _ => XS.aloadN X0.here hx rfl (hb hby own_d_jdk_42_method_149_code_0) rfl rfl) ?_
  show Go p.tables e below P (s₁.setTop (mkF m 1 #[.val (.ref p0), .val (.ref p1), .val (.int (0 : Int32)), .val (.int (0 : Int32)), .val .null, .unset] [(.ref p0)]))
  obtain ⟨T1, X1, e1, st1⟩ := initO X0 hx hZ hown (hw _ (List.mem_of_getElem? (i := 18) rfl)) (hw _ (List.mem_of_getElem? (i := 19) rfl)) (hw _ (List.mem_of_getElem? (i := 20) rfl)) e0 (g := (mkF m 1 #[.val (.ref p0), .val (.ref p1), .val (.int (0 : Int32)), .val (.int (0 : Int32)), .val .null, .unset] [(.ref p0)])) rfl (by rw [hml]; rfl) rfl (hb hby own_d_jdk_42_method_149_code_1) (by decide) (W := 0) (by show 2 * 0 + _ ≤ _; exact Nat.le_of_eq rfl) (by decide)
  refine Go.st st1 ?_
  show Go p.tables e below P (T1.setTop (mkF m 4 #[.val (.ref p0), .val (.ref p1), .val (.int (0 : Int32)), .val (.int (0 : Int32)), .val .null, .unset] []))
  refine Go.st (fun _ => XS.iloadN X1.here hx rfl (hb hby own_d_jdk_42_method_149_code_4) rfl) ?_
  show Go p.tables e below P (T1.setTop (mkF m 5 #[.val (.ref p0), .val (.ref p1), .val (.int (0 : Int32)), .val (.int (0 : Int32)), .val .null, .unset] [(.int (0 : Int32))]))
  refine Go.st (fun _ => XS.ifNo X1.here hx rfl (hb hby own_d_jdk_42_method_149_code_5) rfl ((if0 _ _).trans (teq (by decide)).2)) ?_
  show Go p.tables e below P (T1.setTop (mkF m 8 #[.val (.ref p0), .val (.ref p1), .val (.int (0 : Int32)), .val (.int (0 : Int32)), .val .null, .unset] []))
  refine Go.st (fun _ => XS.aloadN X1.here hx rfl (hb hby own_d_jdk_42_method_149_code_8) rfl rfl) ?_
  show Go p.tables e below P (T1.setTop (mkF m 9 #[.val (.ref p0), .val (.ref p1), .val (.int (0 : Int32)), .val (.int (0 : Int32)), .val .null, .unset] [(.ref p0)]))
  obtain ⟨a2, T2, h2, kk2, b2, kb2, X2, e2, E2, hS2, hk2, hZ2, hown2, Ea2, Ca2, Va2, Ab2, alt2, blt2, hCR2, Li2, hne2, st2⟩ := ldcCH X1 hx hZ hown (hw _ (List.mem_of_getElem? (i := 21) rfl)) (fun a ha => hw a (own_strAtoms a ha)) e1 hS0 hk0 hEL (by decide +kernel) CR0.1 (vs := []) (z := (0 : Int32)) (by decide +kernel) (by decide) rfl (g := (mkF m 9 #[.val (.ref p0), .val (.ref p1), .val (.int (0 : Int32)), .val (.int (0 : Int32)), .val .null, .unset] [(.ref p0)])) rfl (hb hby own_d_jdk_42_method_149_code_9) (n := 0) (by decide +kernel) (by decide) (by decide) (by decide)
  refine Go.st st2 ?_
  have K2 : Keep h0 h2 [p0] := (Keep.refl h0 [p0]).ext E2
  have O2 := X00.ext E2
  have CR2 := CR0.trans hCR2
  have c3 := (hp0.ext E2)
  have c4 := (hp1.ext E2)
  have ne5 := hne2 p0 (own_safe_null hZ2.alike c3 c4)
  show Go p.tables e below P (T2.setTop (mkF m 11 #[.val (.ref p0), .val (.ref p1), .val (.int (0 : Int32)), .val (.int (0 : Int32)), .val .null, .unset] [(.ref a2), (.ref p0)]))
  obtain ⟨T6, X6, e6, st6⟩ := getF X2 hx hZ2 hown2 (host := "") (Or.inl (hw _ (List.mem_of_getElem? (i := 27) rfl))) Via.refl e2 Va2 (g := (mkF m 11 #[.val (.ref p0), .val (.ref p1), .val (.int (0 : Int32)), .val (.int (0 : Int32)), .val .null, .unset] [(.ref a2), (.ref p0)])) rfl rfl (hb hby own_d_jdk_42_method_149_code_11)
  refine Go.st st6 ?_
  show Go p.tables e below P (T6.setTop (mkF m 14 #[.val (.ref p0), .val (.ref p1), .val (.int (0 : Int32)), .val (.int (0 : Int32)), .val .null, .unset] [(.ref b2), (.ref p0)]))
  have sf7 : Safe Z consts_1 T2.vm h2 p0 := (own_safe_null hZ2.alike c3 c4)
  obtain ⟨T8, h8, X8, e8, W8, st8⟩ := putF X6 hx hZ2 hown2 (host := "") (Or.inl (hw _ (List.mem_of_getElem? (i := 27) rfl))) Via.refl e6 c4 c3 (Or.inr ⟨(hw _ (List.mem_of_getElem? (i := 23) rfl)), rfl, hnm⟩) (hw _ (List.mem_of_getElem? (i := 8) rfl)) (ty := (.array .byte)) (by decide) rfl rfl (g := (mkF m 14 #[.val (.ref p0), .val (.ref p1), .val (.int (0 : Int32)), .val (.int (0 : Int32)), .val .null, .unset] [(.ref b2), (.ref p0)])) rfl rfl (hb hby own_d_jdk_42_method_149_code_14)
  refine Go.st st8 ?_
  have sf9 := Safe.wr W8 sf7 CR2.1 sf7
  have CR8 := CR2.trans (CHr.wr W8 sf7 CR2.1)
  have K8 : Keep h0 h8 [p0] := K2.wr W8 (Or.inl (List.mem_of_getElem? (i := 0) rfl))
  have O8 := O2.wr W8 hp3
  have N8 := Fr.snoc X8 N0 hp3
  have F8 := c4.same W8
  show Go p.tables e below P (T8.setTop (mkF m 17 #[.val (.ref p0), .val (.ref p1), .val (.int (0 : Int32)), .val (.int (0 : Int32)), .val .null, .unset] []))
  refine Go.st (fun _ => XS.aloadN X8.here hx rfl (hb hby own_d_jdk_42_method_149_code_17) rfl rfl) ?_
  show Go p.tables e below P (T8.setTop (mkF m 18 #[.val (.ref p0), .val (.ref p1), .val (.int (0 : Int32)), .val (.int (0 : Int32)), .val .null, .unset] [(.ref p0)]))
  have c11 := (c3.wr W8)
  have c12 := (Ea2.wr W8)
  have c13 := (Ab2.other W8 (Ne.symm ne5.2))
  obtain ⟨a10, T10, h10, kk10, b10, kb10, X10, e10, E10, hS10, hk10, hZ10, hown10, Ea10, Ca10, Va10, Ab10, alt10, blt10, hCR10, Li10, hne10, st10⟩ := ldcCH X8 hx hZ2 hown2 (hw _ (List.mem_of_getElem? (i := 21) rfl)) (fun a ha => hw a (own_strAtoms a ha)) e8 hS2 (Nat.le_trans hk2 (Keep.of_wr W8).1) hEL (by decide +kernel) CR8.1 (vs := []) (z := (0 : Int32)) (by decide +kernel) (by decide) rfl (g := (mkF m 18 #[.val (.ref p0), .val (.ref p1), .val (.int (0 : Int32)), .val (.int (0 : Int32)), .val .null, .unset] [(.ref p0)])) rfl (hb hby own_d_jdk_42_method_149_code_18) (n := 0) (by decide +kernel) (by decide) (by decide) (by decide)
  refine Go.st st10 ?_
  have K10 : Keep h0 h10 [p0] := K8.ext E10
  have O10 := O8.ext E10
  have sf14 := hCR10.safe c11.lt sf9
  have CR10 := CR8.trans hCR10
  have ne15 := hne10 p0 sf14
  show Go p.tables e below P (T10.setTop (mkF m 20 #[.val (.ref p0), .val (.ref p1), .val (.int (0 : Int32)), .val (.int (0 : Int32)), .val .null, .unset] [(.ref a10), (.ref p0)]))
  obtain ⟨T16, X16, e16, st16⟩ := getF X10 hx hZ10 hown10 (host := "") (Or.inl (hw _ (List.mem_of_getElem? (i := 28) rfl))) Via.refl e10 Ca10 (g := (mkF m 20 #[.val (.ref p0), .val (.ref p1), .val (.int (0 : Int32)), .val (.int (0 : Int32)), .val .null, .unset] [(.ref a10), (.ref p0)])) rfl rfl (hb hby own_d_jdk_42_method_149_code_20)
  refine Go.st st16 ?_
  show Go p.tables e below P (T16.setTop (mkF m 23 #[.val (.ref p0), .val (.ref p1), .val (.int (0 : Int32)), .val (.int (0 : Int32)), .val .null, .unset] [(.int (0 : Int32)), (.ref p0)]))
  have c17 := (((hp2.ext E2).other W8 (Or.inr (slot_ne (Or.inr (hw _ (List.mem_of_getElem? (i := 24) rfl))) (Or.inr (hw _ (List.mem_of_getElem? (i := 23) rfl))) (by decide) (t := .byte) (t' := (.array .byte)) (by decide) (by decide)))).ext E10)
  have c18 := (c11.ext E10)
  obtain ⟨T19, h19, X19, e19, W19, st19⟩ := putF X16 hx hZ10 hown10 (host := "") (Or.inl (hw _ (List.mem_of_getElem? (i := 28) rfl))) Via.refl e16 c17 c18 (Or.inr ⟨(hw _ (List.mem_of_getElem? (i := 24) rfl)), rfl, hnm⟩) (hw _ (List.mem_of_getElem? (i := 8) rfl)) (ty := .byte) (by decide) rfl rfl (g := (mkF m 23 #[.val (.ref p0), .val (.ref p1), .val (.int (0 : Int32)), .val (.int (0 : Int32)), .val .null, .unset] [(.int (0 : Int32)), (.ref p0)])) rfl rfl (hb hby own_d_jdk_42_method_149_code_23)
  refine Go.st st19 ?_
  have sf20 := Safe.wr W19 sf14 CR10.1 sf14
  have CR19 := CR10.trans (CHr.wr W19 sf14 CR10.1)
  have K19 : Keep h0 h19 [p0] := K10.wr W19 (Or.inl (List.mem_of_getElem? (i := 0) rfl))
  have O19 := O10.wr W19 hp3
  have N19 := Fr.snoc X19 N8 hp3
  have F19 := c17.same W19
  show Go p.tables e below P (T19.setTop (mkF m 26 #[.val (.ref p0), .val (.ref p1), .val (.int (0 : Int32)), .val (.int (0 : Int32)), .val .null, .unset] []))
  obtain ⟨fs, hr, hrun, hended, -, hW, hpair, hsame⟩ := X19.leaveW hS10 (by rw [e19]; exact (Nat.le_trans hk10 (Keep.of_wr W19).1)) (v := none) (fun _ => rfl)
  have hCRe := CR19.trans (CHv.at X19 hZ10 hEL CR19.1)
  refine ⟨_, ?_, hPend _ _ hrun hended ⟨_, _, rfl, ?_, ?_, ⟨_, rfl⟩, hW, hpair, hsame.mono (by decide) (by decide)⟩⟩
  · exact X19.returnOut hx Bd.returns (hb hby own_d_jdk_42_method_149_code_26) hr
  · show Q_rm_emp2 Z _ _ _ _ _ _ _ h0 n0 _ T19.heap _
    rw [e19]
    have c21 := (c18.wr W19)
    have c22 := ((F8.ext E10).other W19 (Or.inr (slot_ne (Or.inr (hw _ (List.mem_of_getElem? (i := 23) rfl))) (Or.inr (hw _ (List.mem_of_getElem? (i := 24) rfl))) (by decide) (t := (.array .byte)) (t' := .byte) (by decide) (by decide))))
    have c23 := ((c13.ext E10).other W19 (Ne.symm ne5.2))
    exact ⟨b2, kb2, rfl, N19, K19, c21, F19, c22, c23⟩
  · show CHr Z consts_1 s.vm s.heap T19.vm T19.heap
    rw [hh, e19]
    exact hCRe
theorem own_ef_rm_emp1 (m : MethodId) (x0 : Addr) (x1 : Addr) : entryFrame m #[(.ref x0), (.ref x1)] 2 = mkF m 0 #[.val (.ref x0), .val (.ref x1)] [] := by first | (simp [entryFrame, mkF, argsToLocals, Value.category]; done) | rfl
theorem own_d_jdk_42_method_3_code_0 : decode jdk_42_method_3_code 0 = .ok (.aload_n 0, 1) := by decide +kernel
theorem own_d_jdk_42_method_3_code_1 : decode jdk_42_method_3_code 1 = .ok (.aload_n 1, 1) := by decide +kernel
theorem own_d_jdk_42_method_3_code_2 : decode jdk_42_method_3_code 2 = .ok (.iconst 0, 1) := by decide +kernel
theorem own_d_jdk_42_method_3_code_3 : decode jdk_42_method_3_code 3 = .ok (.aload_n 1, 1) := by decide +kernel
theorem own_d_jdk_42_method_3_code_4 : decode jdk_42_method_3_code 4 = .ok (.arraylength, 1) := by decide +kernel
theorem own_d_jdk_42_method_3_code_5 : decode jdk_42_method_3_code 5 = .ok (.aconst_null, 1) := by decide +kernel
theorem own_d_jdk_42_method_3_code_6 : decode jdk_42_method_3_code 6 = .ok (.invokespecial 27, 3) := by decide +kernel
theorem own_pd0 : parseMethodDescriptor "([CIILjava/lang/Void;)V" = some ⟨[(.array .char), .int, .int, (.object "java/lang/Void")], none⟩ := by decide +kernel
theorem own_d_jdk_42_method_3_code_9 : decode jdk_42_method_3_code 9 = .ok (.return_, 1) := by decide +kernel
def Q_rm_emp1 (Z : State) (w_A : Addr) (w_B : Addr) (w_C : Addr) (w_D : Addr) (g_CS : Int32) (p0 : Addr) (p1 : Addr) (ka : ClassId) (h0 : Heap) (n0 : Nat) (v : Option Value) (h : Heap) (L : List Loc) : Prop := ∃ (vb : Addr) (kb : ClassId), v = none ∧ Fr n0 L ∧ Keep h0 h [p0] ∧ Exa Z h p0 "java/lang/String" ∧ Fld Z h p0 "java/lang/String" "coder" "B" (.int (0 : Int32)) ∧ Fld Z h p0 "java/lang/String" "value" "[B" (.ref vb) ∧ Arv Z h vb kb .byte (0 : Int32) [] (.int (0 : Int32))
set_option maxRecDepth 65536 in
set_option maxHeartbeats 40000000 in
theorem rm_emp1 (l : Launch) (Z : State) (a0 : Array Value) (hw : ∀ d ∈ tables_1, d.before a0 Z = true) (ws : List Jvm.Cond) (w_A : Addr) (S_A : Sta Z Z.heap "com/example/crisp_fixture/crispfixture/dialect/Dialect$Content" "BY_CODE" "Lcom/example/crisp_fixture/crispfixture/dialect/Dialect$Content;" (.ref w_A)) (X_A : Exa Z Z.heap w_A "com/example/crisp_fixture/crispfixture/dialect/Dialect$Content") (w_B : Addr) (S_B : Sta Z Z.heap "com/example/crisp_fixture/crispfixture/dialect/Dialect$Content" "JSON_MEMBERS_IN_ORDER" "Lcom/example/crisp_fixture/crispfixture/dialect/Dialect$Content;" (.ref w_B)) (X_B : Exa Z Z.heap w_B "com/example/crisp_fixture/crispfixture/dialect/Dialect$Content") (w_C : Addr) (S_C : Sta Z Z.heap "com/example/crisp_fixture/crispfixture/dialect/Dialect$Content" "JSON_MEMBERS_BY_NAME" "Lcom/example/crisp_fixture/crispfixture/dialect/Dialect$Content;" (.ref w_C)) (X_C : Exa Z Z.heap w_C "com/example/crisp_fixture/crispfixture/dialect/Dialect$Content") (w_D : Addr) (S_D : Sta Z Z.heap "com/example/crisp_fixture/crispfixture/dialect/Dialect$Content" "UUID" "Lcom/example/crisp_fixture/crispfixture/dialect/Dialect$Content;" (.ref w_D)) (X_D : Exa Z Z.heap w_D "com/example/crisp_fixture/crispfixture/dialect/Dialect$Content") (g_CS : Int32) (S_CS : Sta Z Z.heap "java/lang/String" "COMPACT_STRINGS" "Z" (.int g_CS)) (nz_CS : ¬ (g_CS = (0 : Int32))) (p0 : Addr) (p1 : Addr) (ka : ClassId) (h0 : Heap) (n0 : Nat) (X00 : Old Z n0 h0) (hp0 : Exa Z h0 p0 "java/lang/String") (hp1 : Fld Z h0 p0 "java/lang/String" "value" "[B" .null) (hp2 : Fld Z h0 p0 "java/lang/String" "coder" "B" (.int (0 : Int32))) (hp3 : n0 ≤ p0) (hp4 : Arv Z h0 p1 ka .char (0 : Int32) [] (.int (0 : Int32))) :
    MetFree l (⟨"java/lang/String", "<init>", "([C)V"⟩ : MethodName) (head1 (Jvm.Cond.code (⟨"java/lang/String", "<init>", "([C)V"⟩ : MethodName) jdk_42_method_3_code 2 none :: ws) ({ frames := 2, cells := 4, slots := 8, locals := 29 } : Room)) (fun a U => a = #[(.ref p0), (.ref p1)] ∧ Z.Warmed39 U.vm ∧ U.heap = h0 ∧ CHv Z consts_1 U.vm h0) (fun _ _ _ _ _ => True) (fun _ U o U' => ∃ v L, o = .returned v ∧ Q_rm_emp1 Z w_A w_B w_C w_D g_CS p0 p1 ka h0 n0 v U'.heap L ∧ CHr Z consts_1 U.vm U.heap U'.vm U'.heap ∧ ReturnedEndW U o U' L ({ frames := 2, cells := 4, slots := 8, locals := 29 } : Room).cells ({ frames := 2, cells := 4, slots := 8, locals := 29 } : Room).slots) := by
  refine MetFree.of_bodySF (plainFor_of_name own_pn2) hisR ?_
  intro p e s m args below meth c s₁ Bd hml0 hP hK
  obtain ⟨rfl, hZ, hh, hCH⟩ := hP
  have hEL := own_EW Z a0 hw
  have CR0 : CHr Z consts_1 s.vm h0 s.vm h0 := CHr.refl hCH
  have hx := Bd.exec
  have hby := Bd.bytes
  have hml : c.maxLocals = 2 := hml0
  have hown : s.vm.findClass "java/lang/String" = some m.cls := findClass_of_methodNamed Bd.named
  have hnm := (name_of_methodNamed Bd.named Bd.method).1
  have X0 : Stand p l e ({ frames := 2, cells := 4, slots := 8, locals := 29 } : Room) (s.setVm s.vm) m #[(.ref p0), (.ref p1)] below meth c s₁ [] 0 0 := Stand.of_body Bd
  have e0 : s₁.heap = h0 := by rw [← hh, Bd.state]; rfl
  have N0 := Fr.nil n0
  have hS0 : s.Since s.vm 0 := own_since s
  have hk0 : 0 ≤ h0.size := Nat.zero_le _
  have hZ : Z.Warmed39 (s.setVm s.vm).vm := hZ
  have hown : (s.setVm s.vm).vm.findClass "java/lang/String" = some m.cls := hown
  refine Go.start fun P hPend => ?_
  refine Go.st (fun _ k => castTop (own_ef_rm_emp1 m p0 p1) k) ?_
  show Go p.tables e below P (s₁.setTop (mkF m 0 #[.val (.ref p0), .val (.ref p1)] []))
  refine Go.st (fun _ => XS.aloadN X0.here hx rfl (hb hby own_d_jdk_42_method_3_code_0) rfl rfl) ?_
  show Go p.tables e below P (s₁.setTop (mkF m 1 #[.val (.ref p0), .val (.ref p1)] [(.ref p0)]))
  refine Go.st (fun _ => XS.aloadN X0.here hx rfl (hb hby own_d_jdk_42_method_3_code_1) rfl rfl) ?_
  show Go p.tables e below P (s₁.setTop (mkF m 2 #[.val (.ref p0), .val (.ref p1)] [(.ref p1), (.ref p0)]))
  refine Go.st (fun _ => XS.iconst X0.here hx rfl (hb hby own_d_jdk_42_method_3_code_2)) ?_
  show Go p.tables e below P (s₁.setTop (mkF m 3 #[.val (.ref p0), .val (.ref p1)] [(.int (0 : Int32)), (.ref p1), (.ref p0)]))
  refine Go.st (fun _ => XS.aloadN X0.here hx rfl (hb hby own_d_jdk_42_method_3_code_3) rfl rfl) ?_
  show Go p.tables e below P (s₁.setTop (mkF m 4 #[.val (.ref p0), .val (.ref p1)] [(.ref p1), (.int (0 : Int32)), (.ref p1), (.ref p0)]))
  refine Go.st (fun _ => own_len X0 hx hZ e0 hp4 (g := (mkF m 4 #[.val (.ref p0), .val (.ref p1)] [(.ref p1), (.int (0 : Int32)), (.ref p1), (.ref p0)])) rfl rfl (hb hby own_d_jdk_42_method_3_code_4) _) ?_
  show Go p.tables e below P (s₁.setTop (mkF m 5 #[.val (.ref p0), .val (.ref p1)] [(.int (0 : Int32)), (.int (0 : Int32)), (.ref p1), (.ref p0)]))
  refine Go.st (fun _ => XS.aconstNull X0.here hx rfl (hb hby own_d_jdk_42_method_3_code_5)) ?_
  show Go p.tables e below P (s₁.setTop (mkF m 6 #[.val (.ref p0), .val (.ref p1)] [.null, (.int (0 : Int32)), (.int (0 : Int32)), (.ref p1), (.ref p0)]))
  obtain ⟨_, _, ⟨T1, L1, k1, n1⟩, -, X1, hS1, hg1, ⟨Lc1, hQ1, l1, y1, z1, hCR1⟩, st1⟩ := X0.specialBackS hx (y := (⟨"java/lang/String", "<init>", "([CIILjava/lang/Void;)V"⟩ : MethodName)) rfl hown (mvT hZ (hw _ (List.mem_of_getElem? (i := 14) rfl))) (mvT hZ (hw _ (List.mem_of_getElem? (i := 15) rfl))) (mvT hZ (hw _ (List.mem_of_getElem? (i := 17) rfl))) (by decide) (backOfSH (W := 0) (rm_emp2 l Z a0 hw [] w_A S_A X_A w_B S_B X_B w_C S_C X_C w_D S_D X_D g_CS S_CS nz_CS p0 p1 h0 n0 X00 hp0 hp1 hp2 hp3) hZ (hw _ (List.mem_of_getElem? (i := 17) rfl)) (hw _ (List.mem_of_getElem? (i := 9) rfl)) (by decide) (by decide) hEL CR0.1) (g := (mkF m 6 #[.val (.ref p0), .val (.ref p1)] [.null, (.int (0 : Int32)), (.int (0 : Int32)), (.ref p1), (.ref p0)])) rfl (by rw [hml]; rfl) (Steps.refl _) (a := p0) (argsL := [(.ref p1), (.int (0 : Int32)), (.int (0 : Int32)), .null]) (rest := []) (lenOf own_pd0 rfl) rfl (by show 2 * 0 + _ ≤ _; exact Nat.le_of_eq rfl) (hb hby own_d_jdk_42_method_3_code_6) (fun _ _ => ⟨rfl, e0, (by decide : 0 + 4 ≤ _), (by decide : 0 + 8 ≤ _)⟩)
  dsimp only [Pt.U, Pt.locs, Pt.cells, Pt.slots] at X1 l1 y1 z1 st1 hQ1 hS1 hg1 hCR1
  subst l1 y1 z1
  refine Go.tr st1 ?_
  obtain ⟨XX1, hSS1, hZ1, hown1⟩ := rebS hS0 (by rw [e0]; exact hk0) X1 hS1 hg1 hZ hown
  obtain ⟨vb_2, kb_3, rfl, N1q, K1q, q1_0, q1_1, q1_2, q1_3⟩ := hQ1
  have N1 := Fr.app N0 N1q
  have CR1 := CR0.trans hCR1
  have O1 := X00.keep K1q (allS hp3 all0)
  have K1 : Keep h0 T1.heap [p0] := (Keep.refl h0 [p0]).trans K1q (allS (Or.inl (List.mem_of_getElem? (i := 0) rfl)) all0)
  show Go p.tables e below P (T1.setTop (mkF m 9 #[.val (.ref p0), .val (.ref p1)] []))
  obtain ⟨fs, hr, hrun, hended, -, hW, hpair, hsame⟩ := XX1.leaveW hSS1 (Nat.le_refl _) (v := none) (fun _ => rfl)
  have hCRe := CR1.trans (CHv.at XX1 hZ1 hEL CR1.1)
  refine ⟨_, ?_, hPend _ _ hrun hended ⟨_, _, rfl, ?_, ?_, ⟨_, rfl⟩, hW, hpair, hsame.mono (by decide) (by decide)⟩⟩
  · exact XX1.returnOut hx Bd.returns (hb hby own_d_jdk_42_method_3_code_9) hr
  · show Q_rm_emp1 Z _ _ _ _ _ _ _ _ h0 n0 _ T1.heap _
    exact ⟨vb_2, kb_3, rfl, N1, K1, q1_0, q1_1, q1_2, q1_3⟩
  · show CHr Z consts_1 s.vm s.heap T1.vm T1.heap
    rw [hh]
    exact hCRe
theorem own_ef_rm_str (m : MethodId) (x0 : Int32) : entryFrame m #[(.int x0)] 6 = mkF m 0 #[.val (.int x0), .unset, .unset, .unset, .unset, .unset] [] := by first | (simp [entryFrame, mkF, argsToLocals, Value.category]; done) | rfl
theorem own_pn3 : plainName "com/example/crisp_fixture/crispfixture/dialect/ColumnTypeWithBaseNamePinLaw" = true := by first | (simp [plainName, overriddenIn]; done) | decide +kernel
theorem own_d_method_4_code_0 : decode method_4_code 0 = .ok (.iload_n 0, 1) := by decide +kernel
theorem own_d_method_4_code_1 : decode method_4_code 1 = .ok (.sipush 255, 3) := by decide +kernel
theorem own_d_method_4_code_4 : decode method_4_code 4 = .ok (.iand, 1) := by decide +kernel
theorem own_d_method_4_code_5 : decode method_4_code 5 = .ok (.i2c, 1) := by decide +kernel
theorem own_d_method_4_code_6 : decode method_4_code 6 = .ok (.istore_n 1, 1) := by decide +kernel
theorem own_d_method_4_code_7 : decode method_4_code 7 = .ok (.iload_n 0, 1) := by decide +kernel
theorem own_d_method_4_code_8 : decode method_4_code 8 = .ok (.bipush 8, 2) := by decide +kernel
theorem own_d_method_4_code_10 : decode method_4_code 10 = .ok (.iushr, 1) := by decide +kernel
theorem own_d_method_4_code_11 : decode method_4_code 11 = .ok (.sipush 255, 3) := by decide +kernel
theorem own_d_method_4_code_14 : decode method_4_code 14 = .ok (.iand, 1) := by decide +kernel
theorem own_d_method_4_code_15 : decode method_4_code 15 = .ok (.i2c, 1) := by decide +kernel
theorem own_d_method_4_code_16 : decode method_4_code 16 = .ok (.istore_n 2, 1) := by decide +kernel
theorem own_d_method_4_code_17 : decode method_4_code 17 = .ok (.iload_n 0, 1) := by decide +kernel
theorem own_d_method_4_code_18 : decode method_4_code 18 = .ok (.bipush 16, 2) := by decide +kernel
theorem own_d_method_4_code_20 : decode method_4_code 20 = .ok (.iushr, 1) := by decide +kernel
theorem own_d_method_4_code_21 : decode method_4_code 21 = .ok (.sipush 255, 3) := by decide +kernel
theorem own_d_method_4_code_24 : decode method_4_code 24 = .ok (.iand, 1) := by decide +kernel
theorem own_d_method_4_code_25 : decode method_4_code 25 = .ok (.i2c, 1) := by decide +kernel
theorem own_d_method_4_code_26 : decode method_4_code 26 = .ok (.istore_n 3, 1) := by decide +kernel
theorem own_d_method_4_code_27 : decode method_4_code 27 = .ok (.iload_n 0, 1) := by decide +kernel
theorem own_d_method_4_code_28 : decode method_4_code 28 = .ok (.bipush 24, 2) := by decide +kernel
theorem own_d_method_4_code_30 : decode method_4_code 30 = .ok (.iushr, 1) := by decide +kernel
theorem own_d_method_4_code_31 : decode method_4_code 31 = .ok (.iconst 3, 1) := by decide +kernel
theorem own_d_method_4_code_32 : decode method_4_code 32 = .ok (.iand, 1) := by decide +kernel
theorem own_d_method_4_code_33 : decode method_4_code 33 = .ok (.istore 4, 2) := by decide +kernel
theorem own_d_method_4_code_35 : decode method_4_code 35 = .ok (.iload 4, 2) := by decide +kernel
theorem own_d_method_4_code_37 : decode method_4_code 37 = .ok (.ifCond .ne 14, 3) := by decide +kernel
theorem own_d_method_4_code_40 : decode method_4_code 40 = .ok (.new 60, 3) := by decide +kernel
theorem own_d_method_4_code_43 : decode method_4_code 43 = .ok (.dup, 1) := by decide +kernel
theorem own_d_method_4_code_44 : decode method_4_code 44 = .ok (.iconst 0, 1) := by decide +kernel
theorem own_d_method_4_code_45 : decode method_4_code 45 = .ok (.newarray .char, 2) := by decide +kernel
theorem own_d_method_4_code_47 : decode method_4_code 47 = .ok (.invokespecial 65, 3) := by decide +kernel
theorem own_pd1 : parseMethodDescriptor "([C)V" = some ⟨[(.array .char)], none⟩ := by decide +kernel
theorem own_d_method_4_code_50 : decode method_4_code 50 = .ok (.areturn, 1) := by decide +kernel
theorem own_d_method_4_code_51 : decode method_4_code 51 = .ok (.iload 4, 2) := by decide +kernel
theorem own_d_method_4_code_53 : decode method_4_code 53 = .ok (.iconst 1, 1) := by decide +kernel
theorem own_d_method_4_code_54 : decode method_4_code 54 = .ok (.if_icmp .ne 23, 3) := by decide +kernel
theorem own_d_method_4_code_57 : decode method_4_code 57 = .ok (.iconst 1, 1) := by decide +kernel
theorem own_d_method_4_code_58 : decode method_4_code 58 = .ok (.newarray .char, 2) := by decide +kernel
theorem own_d_method_4_code_60 : decode method_4_code 60 = .ok (.astore 5, 2) := by decide +kernel
theorem own_d_method_4_code_62 : decode method_4_code 62 = .ok (.aload 5, 2) := by decide +kernel
theorem own_d_method_4_code_64 : decode method_4_code 64 = .ok (.iconst 0, 1) := by decide +kernel
theorem own_d_method_4_code_65 : decode method_4_code 65 = .ok (.iload_n 1, 1) := by decide +kernel
theorem own_d_method_4_code_66 : decode method_4_code 66 = .ok (.castore, 1) := by decide +kernel
theorem own_d_method_4_code_67 : decode method_4_code 67 = .ok (.new 60, 3) := by decide +kernel
theorem own_d_method_4_code_70 : decode method_4_code 70 = .ok (.dup, 1) := by decide +kernel
theorem own_d_method_4_code_71 : decode method_4_code 71 = .ok (.aload 5, 2) := by decide +kernel
theorem own_d_method_4_code_73 : decode method_4_code 73 = .ok (.invokespecial 65, 3) := by decide +kernel
theorem own_d_method_4_code_76 : decode method_4_code 76 = .ok (.areturn, 1) := by decide +kernel
theorem own_d_method_4_code_77 : decode method_4_code 77 = .ok (.iload 4, 2) := by decide +kernel
theorem own_d_method_4_code_79 : decode method_4_code 79 = .ok (.iconst 2, 1) := by decide +kernel
theorem own_d_method_4_code_80 : decode method_4_code 80 = .ok (.if_icmp .ne 28, 3) := by decide +kernel
theorem own_d_method_4_code_83 : decode method_4_code 83 = .ok (.iconst 2, 1) := by decide +kernel
theorem own_d_method_4_code_84 : decode method_4_code 84 = .ok (.newarray .char, 2) := by decide +kernel
theorem own_d_method_4_code_86 : decode method_4_code 86 = .ok (.astore 5, 2) := by decide +kernel
theorem own_d_method_4_code_88 : decode method_4_code 88 = .ok (.aload 5, 2) := by decide +kernel
theorem own_d_method_4_code_90 : decode method_4_code 90 = .ok (.iconst 0, 1) := by decide +kernel
theorem own_d_method_4_code_91 : decode method_4_code 91 = .ok (.iload_n 1, 1) := by decide +kernel
theorem own_d_method_4_code_92 : decode method_4_code 92 = .ok (.castore, 1) := by decide +kernel
theorem own_d_method_4_code_93 : decode method_4_code 93 = .ok (.aload 5, 2) := by decide +kernel
theorem own_d_method_4_code_95 : decode method_4_code 95 = .ok (.iconst 1, 1) := by decide +kernel
theorem own_d_method_4_code_96 : decode method_4_code 96 = .ok (.iload_n 2, 1) := by decide +kernel
theorem own_d_method_4_code_97 : decode method_4_code 97 = .ok (.castore, 1) := by decide +kernel
theorem own_d_method_4_code_98 : decode method_4_code 98 = .ok (.new 60, 3) := by decide +kernel
theorem own_d_method_4_code_101 : decode method_4_code 101 = .ok (.dup, 1) := by decide +kernel
theorem own_d_method_4_code_102 : decode method_4_code 102 = .ok (.aload 5, 2) := by decide +kernel
theorem own_d_method_4_code_104 : decode method_4_code 104 = .ok (.invokespecial 65, 3) := by decide +kernel
theorem own_d_method_4_code_107 : decode method_4_code 107 = .ok (.areturn, 1) := by decide +kernel
theorem own_d_method_4_code_108 : decode method_4_code 108 = .ok (.iconst 3, 1) := by decide +kernel
theorem own_d_method_4_code_109 : decode method_4_code 109 = .ok (.newarray .char, 2) := by decide +kernel
theorem own_d_method_4_code_111 : decode method_4_code 111 = .ok (.astore 5, 2) := by decide +kernel
theorem own_d_method_4_code_113 : decode method_4_code 113 = .ok (.aload 5, 2) := by decide +kernel
theorem own_d_method_4_code_115 : decode method_4_code 115 = .ok (.iconst 0, 1) := by decide +kernel
theorem own_d_method_4_code_116 : decode method_4_code 116 = .ok (.iload_n 1, 1) := by decide +kernel
theorem own_d_method_4_code_117 : decode method_4_code 117 = .ok (.castore, 1) := by decide +kernel
theorem own_d_method_4_code_118 : decode method_4_code 118 = .ok (.aload 5, 2) := by decide +kernel
theorem own_d_method_4_code_120 : decode method_4_code 120 = .ok (.iconst 1, 1) := by decide +kernel
theorem own_d_method_4_code_121 : decode method_4_code 121 = .ok (.iload_n 2, 1) := by decide +kernel
theorem own_d_method_4_code_122 : decode method_4_code 122 = .ok (.castore, 1) := by decide +kernel
theorem own_d_method_4_code_123 : decode method_4_code 123 = .ok (.aload 5, 2) := by decide +kernel
theorem own_d_method_4_code_125 : decode method_4_code 125 = .ok (.iconst 2, 1) := by decide +kernel
theorem own_d_method_4_code_126 : decode method_4_code 126 = .ok (.iload_n 3, 1) := by decide +kernel
theorem own_d_method_4_code_127 : decode method_4_code 127 = .ok (.castore, 1) := by decide +kernel
theorem own_d_method_4_code_128 : decode method_4_code 128 = .ok (.new 60, 3) := by decide +kernel
theorem own_d_method_4_code_131 : decode method_4_code 131 = .ok (.dup, 1) := by decide +kernel
theorem own_d_method_4_code_132 : decode method_4_code 132 = .ok (.aload 5, 2) := by decide +kernel
theorem own_d_method_4_code_134 : decode method_4_code 134 = .ok (.invokespecial 65, 3) := by decide +kernel
theorem own_d_method_4_code_137 : decode method_4_code 137 = .ok (.areturn, 1) := by decide +kernel
def Q_rm_str (Z : State) (w_A : Addr) (w_B : Addr) (w_C : Addr) (w_D : Addr) (g_CS : Int32) (p0 : Int32) (h0 : Heap) (n0 : Nat) (v : Option Value) (h : Heap) (L : List Loc) : Prop := ∃ (ob : Addr), v = some (.ref ob) ∧ Fr n0 L ∧ Keep h0 h [] ∧ h0.size ≤ ob ∧ Exa Z h ob "java/lang/String"
set_option maxRecDepth 65536 in
set_option maxHeartbeats 40000000 in
theorem rm_str (l : Launch) (Z : State) (a0 : Array Value) (hw : ∀ d ∈ tables_1, d.before a0 Z = true) (ws : List Jvm.Cond) (w_A : Addr) (S_A : Sta Z Z.heap "com/example/crisp_fixture/crispfixture/dialect/Dialect$Content" "BY_CODE" "Lcom/example/crisp_fixture/crispfixture/dialect/Dialect$Content;" (.ref w_A)) (X_A : Exa Z Z.heap w_A "com/example/crisp_fixture/crispfixture/dialect/Dialect$Content") (w_B : Addr) (S_B : Sta Z Z.heap "com/example/crisp_fixture/crispfixture/dialect/Dialect$Content" "JSON_MEMBERS_IN_ORDER" "Lcom/example/crisp_fixture/crispfixture/dialect/Dialect$Content;" (.ref w_B)) (X_B : Exa Z Z.heap w_B "com/example/crisp_fixture/crispfixture/dialect/Dialect$Content") (w_C : Addr) (S_C : Sta Z Z.heap "com/example/crisp_fixture/crispfixture/dialect/Dialect$Content" "JSON_MEMBERS_BY_NAME" "Lcom/example/crisp_fixture/crispfixture/dialect/Dialect$Content;" (.ref w_C)) (X_C : Exa Z Z.heap w_C "com/example/crisp_fixture/crispfixture/dialect/Dialect$Content") (w_D : Addr) (S_D : Sta Z Z.heap "com/example/crisp_fixture/crispfixture/dialect/Dialect$Content" "UUID" "Lcom/example/crisp_fixture/crispfixture/dialect/Dialect$Content;" (.ref w_D)) (X_D : Exa Z Z.heap w_D "com/example/crisp_fixture/crispfixture/dialect/Dialect$Content") (g_CS : Int32) (S_CS : Sta Z Z.heap "java/lang/String" "COMPACT_STRINGS" "Z" (.int g_CS)) (nz_CS : ¬ (g_CS = (0 : Int32))) (p0 : Int32) (h0 : Heap) (n0 : Nat) (X00 : Old Z n0 h0)  :
    MetFree l (⟨"com/example/crisp_fixture/crispfixture/dialect/ColumnTypeWithBaseNamePinLaw", "str", "(I)Ljava/lang/String;"⟩ : MethodName) (head1 (Jvm.Cond.code (⟨"com/example/crisp_fixture/crispfixture/dialect/ColumnTypeWithBaseNamePinLaw", "str", "(I)Ljava/lang/String;"⟩ : MethodName) method_4_code 6 (some (.object "java/lang/String")) :: ws) ({ frames := 4, cells := 6, slots := 12, locals := 66 } : Room)) (fun a U => a = #[(.int p0)] ∧ Z.Warmed39 U.vm ∧ U.heap = h0 ∧ CHv Z consts_1 U.vm h0) (fun _ _ _ _ _ => True) (fun _ U o U' => ∃ v L, o = .returned v ∧ Q_rm_str Z w_A w_B w_C w_D g_CS p0 h0 n0 v U'.heap L ∧ CHr Z consts_1 U.vm U.heap U'.vm U'.heap ∧ ReturnedEndW U o U' L ({ frames := 4, cells := 6, slots := 12, locals := 66 } : Room).cells ({ frames := 4, cells := 6, slots := 12, locals := 66 } : Room).slots) := by
  refine MetFree.of_bodySF (plainFor_of_name own_pn3) hisR ?_
  intro p e s m args below meth c s₁ Bd hml0 hP hK
  obtain ⟨rfl, hZ, hh, hCH⟩ := hP
  have hEL := own_EW Z a0 hw
  have CR0 : CHr Z consts_1 s.vm h0 s.vm h0 := CHr.refl hCH
  have hx := Bd.exec
  have hby := Bd.bytes
  have hml : c.maxLocals = 6 := hml0
  have hown : s.vm.findClass "com/example/crisp_fixture/crispfixture/dialect/ColumnTypeWithBaseNamePinLaw" = some m.cls := findClass_of_methodNamed Bd.named
  have hnm := (name_of_methodNamed Bd.named Bd.method).1
  have X0 : Stand p l e ({ frames := 4, cells := 6, slots := 12, locals := 66 } : Room) (s.setVm s.vm) m #[(.int p0)] below meth c s₁ [] 0 0 := Stand.of_body Bd
  have e0 : s₁.heap = h0 := by rw [← hh, Bd.state]; rfl
  have N0 := Fr.nil n0
  have hS0 : s.Since s.vm 0 := own_since s
  have hk0 : 0 ≤ h0.size := Nat.zero_le _
  have hZ : Z.Warmed39 (s.setVm s.vm).vm := hZ
  have hown : (s.setVm s.vm).vm.findClass "com/example/crisp_fixture/crispfixture/dialect/ColumnTypeWithBaseNamePinLaw" = some m.cls := hown
  refine Go.start fun P hPend => ?_
  refine Go.st (fun _ k => castTop (own_ef_rm_str m p0) k) ?_
  show Go p.tables e below P (s₁.setTop (mkF m 0 #[.val (.int p0), .unset, .unset, .unset, .unset, .unset] []))
  refine Go.st (fun _ => XS.iloadN X0.here hx rfl (hb hby own_d_method_4_code_0) rfl) ?_
  show Go p.tables e below P (s₁.setTop (mkF m 1 #[.val (.int p0), .unset, .unset, .unset, .unset, .unset] [(.int p0)]))
  refine Go.st (fun _ => XS.sipush X0.here hx rfl (hb hby own_d_method_4_code_1)) ?_
  show Go p.tables e below P (s₁.setTop (mkF m 4 #[.val (.int p0), .unset, .unset, .unset, .unset, .unset] [(.int (255 : Int32)), (.int p0)]))
  refine Go.st (fun _ => XS.iand X0.here hx rfl (hb hby own_d_method_4_code_4) rfl) ?_
  show Go p.tables e below P (s₁.setTop (mkF m 5 #[.val (.int p0), .unset, .unset, .unset, .unset, .unset] [(.int (p0 &&& (255 : Int32)))]))
  refine Go.st (fun _ => XS.i2c X0.here hx rfl (hb hby own_d_method_4_code_5) rfl) ?_
  show Go p.tables e below P (s₁.setTop (mkF m 6 #[.val (.int p0), .unset, .unset, .unset, .unset, .unset] [(.int ((p0 &&& (255 : Int32)).toUInt32.toUInt16.toUInt32.toInt32))]))
  rw [i2c_mask]
  show Go p.tables e below P (s₁.setTop (mkF m 6 #[.val (.int p0), .unset, .unset, .unset, .unset, .unset] [(.int (p0 &&& (255 : Int32)))]))
  refine Go.st (fun _ => XS.istoreN X0.here hx rfl (hb hby own_d_method_4_code_6) rfl (l' := #[.val (.int p0), .val (.int (p0 &&& (255 : Int32))), .unset, .unset, .unset, .unset]) rfl) ?_
  show Go p.tables e below P (s₁.setTop (mkF m 7 #[.val (.int p0), .val (.int (p0 &&& (255 : Int32))), .unset, .unset, .unset, .unset] []))
  refine Go.st (fun _ => XS.iloadN X0.here hx rfl (hb hby own_d_method_4_code_7) rfl) ?_
  show Go p.tables e below P (s₁.setTop (mkF m 8 #[.val (.int p0), .val (.int (p0 &&& (255 : Int32))), .unset, .unset, .unset, .unset] [(.int p0)]))
  refine Go.st (fun _ => XS.bipush X0.here hx rfl (hb hby own_d_method_4_code_8)) ?_
  show Go p.tables e below P (s₁.setTop (mkF m 10 #[.val (.int p0), .val (.int (p0 &&& (255 : Int32))), .unset, .unset, .unset, .unset] [(.int (8 : Int32)), (.int p0)]))
  refine Go.st (fun _ => XS.iushr X0.here hx rfl (hb hby own_d_method_4_code_10) rfl) ?_
  show Go p.tables e below P (s₁.setTop (mkF m 11 #[.val (.int p0), .val (.int (p0 &&& (255 : Int32))), .unset, .unset, .unset, .unset] [(.int ((p0.toUInt32 >>> ((8 : Int32) &&& 31).toUInt32).toInt32))]))
  refine Go.st (fun _ => XS.sipush X0.here hx rfl (hb hby own_d_method_4_code_11)) ?_
  show Go p.tables e below P (s₁.setTop (mkF m 14 #[.val (.int p0), .val (.int (p0 &&& (255 : Int32))), .unset, .unset, .unset, .unset] [(.int (255 : Int32)), (.int ((p0.toUInt32 >>> ((8 : Int32) &&& 31).toUInt32).toInt32))]))
  refine Go.st (fun _ => XS.iand X0.here hx rfl (hb hby own_d_method_4_code_14) rfl) ?_
  show Go p.tables e below P (s₁.setTop (mkF m 15 #[.val (.int p0), .val (.int (p0 &&& (255 : Int32))), .unset, .unset, .unset, .unset] [(.int (((p0.toUInt32 >>> ((8 : Int32) &&& 31).toUInt32).toInt32) &&& (255 : Int32)))]))
  refine Go.st (fun _ => XS.i2c X0.here hx rfl (hb hby own_d_method_4_code_15) rfl) ?_
  show Go p.tables e below P (s₁.setTop (mkF m 16 #[.val (.int p0), .val (.int (p0 &&& (255 : Int32))), .unset, .unset, .unset, .unset] [(.int ((((p0.toUInt32 >>> ((8 : Int32) &&& 31).toUInt32).toInt32) &&& (255 : Int32)).toUInt32.toUInt16.toUInt32.toInt32))]))
  rw [i2c_mask]
  show Go p.tables e below P (s₁.setTop (mkF m 16 #[.val (.int p0), .val (.int (p0 &&& (255 : Int32))), .unset, .unset, .unset, .unset] [(.int (((p0.toUInt32 >>> ((8 : Int32) &&& 31).toUInt32).toInt32) &&& (255 : Int32)))]))
  refine Go.st (fun _ => XS.istoreN X0.here hx rfl (hb hby own_d_method_4_code_16) rfl (l' := #[.val (.int p0), .val (.int (p0 &&& (255 : Int32))), .val (.int (((p0.toUInt32 >>> ((8 : Int32) &&& 31).toUInt32).toInt32) &&& (255 : Int32))), .unset, .unset, .unset]) rfl) ?_
  show Go p.tables e below P (s₁.setTop (mkF m 17 #[.val (.int p0), .val (.int (p0 &&& (255 : Int32))), .val (.int (((p0.toUInt32 >>> ((8 : Int32) &&& 31).toUInt32).toInt32) &&& (255 : Int32))), .unset, .unset, .unset] []))
  refine Go.st (fun _ => XS.iloadN X0.here hx rfl (hb hby own_d_method_4_code_17) rfl) ?_
  show Go p.tables e below P (s₁.setTop (mkF m 18 #[.val (.int p0), .val (.int (p0 &&& (255 : Int32))), .val (.int (((p0.toUInt32 >>> ((8 : Int32) &&& 31).toUInt32).toInt32) &&& (255 : Int32))), .unset, .unset, .unset] [(.int p0)]))
  refine Go.st (fun _ => XS.bipush X0.here hx rfl (hb hby own_d_method_4_code_18)) ?_
  show Go p.tables e below P (s₁.setTop (mkF m 20 #[.val (.int p0), .val (.int (p0 &&& (255 : Int32))), .val (.int (((p0.toUInt32 >>> ((8 : Int32) &&& 31).toUInt32).toInt32) &&& (255 : Int32))), .unset, .unset, .unset] [(.int (16 : Int32)), (.int p0)]))
  refine Go.st (fun _ => XS.iushr X0.here hx rfl (hb hby own_d_method_4_code_20) rfl) ?_
  show Go p.tables e below P (s₁.setTop (mkF m 21 #[.val (.int p0), .val (.int (p0 &&& (255 : Int32))), .val (.int (((p0.toUInt32 >>> ((8 : Int32) &&& 31).toUInt32).toInt32) &&& (255 : Int32))), .unset, .unset, .unset] [(.int ((p0.toUInt32 >>> ((16 : Int32) &&& 31).toUInt32).toInt32))]))
  refine Go.st (fun _ => XS.sipush X0.here hx rfl (hb hby own_d_method_4_code_21)) ?_
  show Go p.tables e below P (s₁.setTop (mkF m 24 #[.val (.int p0), .val (.int (p0 &&& (255 : Int32))), .val (.int (((p0.toUInt32 >>> ((8 : Int32) &&& 31).toUInt32).toInt32) &&& (255 : Int32))), .unset, .unset, .unset] [(.int (255 : Int32)), (.int ((p0.toUInt32 >>> ((16 : Int32) &&& 31).toUInt32).toInt32))]))
  refine Go.st (fun _ => XS.iand X0.here hx rfl (hb hby own_d_method_4_code_24) rfl) ?_
  show Go p.tables e below P (s₁.setTop (mkF m 25 #[.val (.int p0), .val (.int (p0 &&& (255 : Int32))), .val (.int (((p0.toUInt32 >>> ((8 : Int32) &&& 31).toUInt32).toInt32) &&& (255 : Int32))), .unset, .unset, .unset] [(.int (((p0.toUInt32 >>> ((16 : Int32) &&& 31).toUInt32).toInt32) &&& (255 : Int32)))]))
  refine Go.st (fun _ => XS.i2c X0.here hx rfl (hb hby own_d_method_4_code_25) rfl) ?_
  show Go p.tables e below P (s₁.setTop (mkF m 26 #[.val (.int p0), .val (.int (p0 &&& (255 : Int32))), .val (.int (((p0.toUInt32 >>> ((8 : Int32) &&& 31).toUInt32).toInt32) &&& (255 : Int32))), .unset, .unset, .unset] [(.int ((((p0.toUInt32 >>> ((16 : Int32) &&& 31).toUInt32).toInt32) &&& (255 : Int32)).toUInt32.toUInt16.toUInt32.toInt32))]))
  rw [i2c_mask]
  show Go p.tables e below P (s₁.setTop (mkF m 26 #[.val (.int p0), .val (.int (p0 &&& (255 : Int32))), .val (.int (((p0.toUInt32 >>> ((8 : Int32) &&& 31).toUInt32).toInt32) &&& (255 : Int32))), .unset, .unset, .unset] [(.int (((p0.toUInt32 >>> ((16 : Int32) &&& 31).toUInt32).toInt32) &&& (255 : Int32)))]))
  refine Go.st (fun _ => XS.istoreN X0.here hx rfl (hb hby own_d_method_4_code_26) rfl (l' := #[.val (.int p0), .val (.int (p0 &&& (255 : Int32))), .val (.int (((p0.toUInt32 >>> ((8 : Int32) &&& 31).toUInt32).toInt32) &&& (255 : Int32))), .val (.int (((p0.toUInt32 >>> ((16 : Int32) &&& 31).toUInt32).toInt32) &&& (255 : Int32))), .unset, .unset]) rfl) ?_
  show Go p.tables e below P (s₁.setTop (mkF m 27 #[.val (.int p0), .val (.int (p0 &&& (255 : Int32))), .val (.int (((p0.toUInt32 >>> ((8 : Int32) &&& 31).toUInt32).toInt32) &&& (255 : Int32))), .val (.int (((p0.toUInt32 >>> ((16 : Int32) &&& 31).toUInt32).toInt32) &&& (255 : Int32))), .unset, .unset] []))
  refine Go.st (fun _ => XS.iloadN X0.here hx rfl (hb hby own_d_method_4_code_27) rfl) ?_
  show Go p.tables e below P (s₁.setTop (mkF m 28 #[.val (.int p0), .val (.int (p0 &&& (255 : Int32))), .val (.int (((p0.toUInt32 >>> ((8 : Int32) &&& 31).toUInt32).toInt32) &&& (255 : Int32))), .val (.int (((p0.toUInt32 >>> ((16 : Int32) &&& 31).toUInt32).toInt32) &&& (255 : Int32))), .unset, .unset] [(.int p0)]))
  refine Go.st (fun _ => XS.bipush X0.here hx rfl (hb hby own_d_method_4_code_28)) ?_
  show Go p.tables e below P (s₁.setTop (mkF m 30 #[.val (.int p0), .val (.int (p0 &&& (255 : Int32))), .val (.int (((p0.toUInt32 >>> ((8 : Int32) &&& 31).toUInt32).toInt32) &&& (255 : Int32))), .val (.int (((p0.toUInt32 >>> ((16 : Int32) &&& 31).toUInt32).toInt32) &&& (255 : Int32))), .unset, .unset] [(.int (24 : Int32)), (.int p0)]))
  refine Go.st (fun _ => XS.iushr X0.here hx rfl (hb hby own_d_method_4_code_30) rfl) ?_
  show Go p.tables e below P (s₁.setTop (mkF m 31 #[.val (.int p0), .val (.int (p0 &&& (255 : Int32))), .val (.int (((p0.toUInt32 >>> ((8 : Int32) &&& 31).toUInt32).toInt32) &&& (255 : Int32))), .val (.int (((p0.toUInt32 >>> ((16 : Int32) &&& 31).toUInt32).toInt32) &&& (255 : Int32))), .unset, .unset] [(.int ((p0.toUInt32 >>> ((24 : Int32) &&& 31).toUInt32).toInt32))]))
  refine Go.st (fun _ => XS.iconst X0.here hx rfl (hb hby own_d_method_4_code_31)) ?_
  show Go p.tables e below P (s₁.setTop (mkF m 32 #[.val (.int p0), .val (.int (p0 &&& (255 : Int32))), .val (.int (((p0.toUInt32 >>> ((8 : Int32) &&& 31).toUInt32).toInt32) &&& (255 : Int32))), .val (.int (((p0.toUInt32 >>> ((16 : Int32) &&& 31).toUInt32).toInt32) &&& (255 : Int32))), .unset, .unset] [(.int (3 : Int32)), (.int ((p0.toUInt32 >>> ((24 : Int32) &&& 31).toUInt32).toInt32))]))
  refine Go.st (fun _ => XS.iand X0.here hx rfl (hb hby own_d_method_4_code_32) rfl) ?_
  show Go p.tables e below P (s₁.setTop (mkF m 33 #[.val (.int p0), .val (.int (p0 &&& (255 : Int32))), .val (.int (((p0.toUInt32 >>> ((8 : Int32) &&& 31).toUInt32).toInt32) &&& (255 : Int32))), .val (.int (((p0.toUInt32 >>> ((16 : Int32) &&& 31).toUInt32).toInt32) &&& (255 : Int32))), .unset, .unset] [(.int (((p0.toUInt32 >>> ((24 : Int32) &&& 31).toUInt32).toInt32) &&& (3 : Int32)))]))
  refine Go.st (fun _ => XS.istore X0.here hx rfl (hb hby own_d_method_4_code_33) rfl (l' := #[.val (.int p0), .val (.int (p0 &&& (255 : Int32))), .val (.int (((p0.toUInt32 >>> ((8 : Int32) &&& 31).toUInt32).toInt32) &&& (255 : Int32))), .val (.int (((p0.toUInt32 >>> ((16 : Int32) &&& 31).toUInt32).toInt32) &&& (255 : Int32))), .val (.int (((p0.toUInt32 >>> ((24 : Int32) &&& 31).toUInt32).toInt32) &&& (3 : Int32))), .unset]) rfl) ?_
  show Go p.tables e below P (s₁.setTop (mkF m 35 #[.val (.int p0), .val (.int (p0 &&& (255 : Int32))), .val (.int (((p0.toUInt32 >>> ((8 : Int32) &&& 31).toUInt32).toInt32) &&& (255 : Int32))), .val (.int (((p0.toUInt32 >>> ((16 : Int32) &&& 31).toUInt32).toInt32) &&& (255 : Int32))), .val (.int (((p0.toUInt32 >>> ((24 : Int32) &&& 31).toUInt32).toInt32) &&& (3 : Int32))), .unset] []))
  refine Go.st (fun _ => XS.iload X0.here hx rfl (hb hby own_d_method_4_code_35) rfl) ?_
  show Go p.tables e below P (s₁.setTop (mkF m 37 #[.val (.int p0), .val (.int (p0 &&& (255 : Int32))), .val (.int (((p0.toUInt32 >>> ((8 : Int32) &&& 31).toUInt32).toInt32) &&& (255 : Int32))), .val (.int (((p0.toUInt32 >>> ((16 : Int32) &&& 31).toUInt32).toInt32) &&& (255 : Int32))), .val (.int (((p0.toUInt32 >>> ((24 : Int32) &&& 31).toUInt32).toInt32) &&& (3 : Int32))), .unset] [(.int (((p0.toUInt32 >>> ((24 : Int32) &&& 31).toUInt32).toInt32) &&& (3 : Int32)))]))
  by_cases hc1 : (((p0.toUInt32 >>> ((24 : Int32) &&& 31).toUInt32).toInt32) &&& (3 : Int32)) = (0 : Int32)
  · skip
    refine Go.st (fun _ => XS.ifNo X0.here hx rfl (hb hby own_d_method_4_code_37) rfl ((if0 _ _).trans (teq hc1).2)) ?_
    show Go p.tables e below P (s₁.setTop (mkF m 40 #[.val (.int p0), .val (.int (p0 &&& (255 : Int32))), .val (.int (((p0.toUInt32 >>> ((8 : Int32) &&& 31).toUInt32).toInt32) &&& (255 : Int32))), .val (.int (((p0.toUInt32 >>> ((16 : Int32) &&& 31).toUInt32).toInt32) &&& (255 : Int32))), .val (.int (((p0.toUInt32 >>> ((24 : Int32) &&& 31).toUInt32).toInt32) &&& (3 : Int32))), .unset] []))
    obtain ⟨T2, h2, X2, e2, E2, A2, D2, -, st2⟩ := newO X0 hx hZ hown (hw _ (List.mem_of_getElem? (i := 7) rfl)) (hw _ (List.mem_of_getElem? (i := 8) rfl)) (hw _ (List.mem_of_getElem? (i := 9) rfl)) e0 (g := (mkF m 40 #[.val (.int p0), .val (.int (p0 &&& (255 : Int32))), .val (.int (((p0.toUInt32 >>> ((8 : Int32) &&& 31).toUInt32).toInt32) &&& (255 : Int32))), .val (.int (((p0.toUInt32 >>> ((16 : Int32) &&& 31).toUInt32).toInt32) &&& (255 : Int32))), .val (.int (((p0.toUInt32 >>> ((24 : Int32) &&& 31).toUInt32).toInt32) &&& (3 : Int32))), .unset] [])) rfl (hb hby own_d_method_4_code_40) (by decide) (by decide)
    obtain ⟨b2, g2⟩ : ∃ z, z = h0.size := ⟨_, rfl⟩
    rw [← g2] at A2 D2 st2
    refine Go.st st2 ?_
    have g_b2 : n0 ≤ b2 := Nat.le_trans (own_oldsz X00) (Nat.le_of_eq g2.symm)
    have sz_b2 : h0.size ≤ b2 := Nat.le_trans (Keep.refl h0 []).1 (Nat.le_of_eq g2.symm)
    have K2 : Keep h0 h2 [] := (Keep.refl h0 []).ext E2
    have O2 := X00.ext E2
    have SF_b2 : Safe Z consts_1 s.vm h2 b2 := Safe.ext E2 CR0.1 (Safe.new (Nat.le_of_eq g2.symm))
    have CR2 := CR0.trans (CHr.ext E2 CR0.1)
    have F3 : Fld Z h2 b2 "java/lang/String" "value" "[B" .null := D2 (Or.inr (hw _ (List.mem_of_getElem? (i := 23) rfl))) (ty := (.array .byte)) (by decide)
    have F4 : Fld Z h2 b2 "java/lang/String" "coder" "B" (.int (0 : Int32)) := D2 (Or.inr (hw _ (List.mem_of_getElem? (i := 24) rfl))) (ty := .byte) (by decide)
    show Go p.tables e below P (T2.setTop (mkF m 43 #[.val (.int p0), .val (.int (p0 &&& (255 : Int32))), .val (.int (((p0.toUInt32 >>> ((8 : Int32) &&& 31).toUInt32).toInt32) &&& (255 : Int32))), .val (.int (((p0.toUInt32 >>> ((16 : Int32) &&& 31).toUInt32).toInt32) &&& (255 : Int32))), .val (.int (((p0.toUInt32 >>> ((24 : Int32) &&& 31).toUInt32).toInt32) &&& (3 : Int32))), .unset] [(.ref b2)]))
    refine Go.st (fun _ => XS.dup X2.here hx rfl (hb hby own_d_method_4_code_43) rfl rfl) ?_
    show Go p.tables e below P (T2.setTop (mkF m 44 #[.val (.int p0), .val (.int (p0 &&& (255 : Int32))), .val (.int (((p0.toUInt32 >>> ((8 : Int32) &&& 31).toUInt32).toInt32) &&& (255 : Int32))), .val (.int (((p0.toUInt32 >>> ((16 : Int32) &&& 31).toUInt32).toInt32) &&& (255 : Int32))), .val (.int (((p0.toUInt32 >>> ((24 : Int32) &&& 31).toUInt32).toInt32) &&& (3 : Int32))), .unset] [(.ref b2), (.ref b2)]))
    refine Go.st (fun _ => XS.iconst X2.here hx rfl (hb hby own_d_method_4_code_44)) ?_
    show Go p.tables e below P (T2.setTop (mkF m 45 #[.val (.int p0), .val (.int (p0 &&& (255 : Int32))), .val (.int (((p0.toUInt32 >>> ((8 : Int32) &&& 31).toUInt32).toInt32) &&& (255 : Int32))), .val (.int (((p0.toUInt32 >>> ((16 : Int32) &&& 31).toUInt32).toInt32) &&& (255 : Int32))), .val (.int (((p0.toUInt32 >>> ((24 : Int32) &&& 31).toUInt32).toInt32) &&& (3 : Int32))), .unset] [(.int (0 : Int32)), (.ref b2), (.ref b2)]))
    obtain ⟨T5, h5, k5, X5, e5, E5, A5, st5⟩ := newP X2 hx hZ (hw _ (List.mem_of_getElem? (i := 10) rfl)) e2 (g := (mkF m 45 #[.val (.int p0), .val (.int (p0 &&& (255 : Int32))), .val (.int (((p0.toUInt32 >>> ((8 : Int32) &&& 31).toUInt32).toInt32) &&& (255 : Int32))), .val (.int (((p0.toUInt32 >>> ((16 : Int32) &&& 31).toUInt32).toInt32) &&& (255 : Int32))), .val (.int (((p0.toUInt32 >>> ((24 : Int32) &&& 31).toUInt32).toInt32) &&& (3 : Int32))), .unset] [(.int (0 : Int32)), (.ref b2), (.ref b2)])) rfl (hb hby own_d_method_4_code_45) rfl (by decide) (cap := 0) (by decide) (by decide) (by decide) (by decide)
    obtain ⟨b5, g5⟩ : ∃ z, z = h2.size := ⟨_, rfl⟩
    rw [← g5] at A5 st5
    refine Go.st st5 ?_
    have g_b5 : n0 ≤ b5 := Nat.le_trans (own_oldsz O2) (Nat.le_of_eq g5.symm)
    have sz_b5 : h0.size ≤ b5 := Nat.le_trans K2.1 (Nat.le_of_eq g5.symm)
    have K5 : Keep h0 h5 [] := K2.ext E5
    have O5 := O2.ext E5
    have sf6 := Safe.ext E5 CR2.1 SF_b2
    have SF_b5 : Safe Z consts_1 s.vm h5 b5 := Safe.ext E5 CR2.1 (Safe.new (Nat.le_of_eq g5.symm))
    have CR5 := CR2.trans (CHr.ext E5 CR2.1)
    have V5 : Arv Z h5 b5 k5 .char (0 : Int32) [] (.int (0 : Int32)) := (Arv.new A5 (by decide)).pad (pad_rep [] (.int (0 : Int32)) 0)
    show Go p.tables e below P (T5.setTop (mkF m 47 #[.val (.int p0), .val (.int (p0 &&& (255 : Int32))), .val (.int (((p0.toUInt32 >>> ((8 : Int32) &&& 31).toUInt32).toInt32) &&& (255 : Int32))), .val (.int (((p0.toUInt32 >>> ((16 : Int32) &&& 31).toUInt32).toInt32) &&& (255 : Int32))), .val (.int (((p0.toUInt32 >>> ((24 : Int32) &&& 31).toUInt32).toInt32) &&& (3 : Int32))), .unset] [(.ref b5), (.ref b2), (.ref b2)]))
    have c8 := (A2.ext E5)
    have c9 := (F3.ext E5)
    have c10 := (F4.ext E5)
    obtain ⟨_, _, ⟨T7, L7, k7, n7⟩, -, X7, hS7, hg7, ⟨Lc7, hQ7, l7, y7, z7, hCR7⟩, st7⟩ := X5.specialBackS hx (y := (⟨"java/lang/String", "<init>", "([C)V"⟩ : MethodName)) rfl hown (mvT hZ (hw _ (List.mem_of_getElem? (i := 11) rfl))) (mvT hZ (hw _ (List.mem_of_getElem? (i := 12) rfl))) (mvT hZ (hw _ (List.mem_of_getElem? (i := 13) rfl))) (by decide) (backOfSH (W := 1) (rm_emp1 l Z a0 hw [] w_A S_A X_A w_B S_B X_B w_C S_C X_C w_D S_D X_D g_CS S_CS nz_CS b2 b5 k5 h5 n0 O5 c8 c9 c10 g_b2 V5) hZ (hw _ (List.mem_of_getElem? (i := 13) rfl)) (hw _ (List.mem_of_getElem? (i := 9) rfl)) (by decide) (by decide) hEL CR5.1) (g := (mkF m 47 #[.val (.int p0), .val (.int (p0 &&& (255 : Int32))), .val (.int (((p0.toUInt32 >>> ((8 : Int32) &&& 31).toUInt32).toInt32) &&& (255 : Int32))), .val (.int (((p0.toUInt32 >>> ((16 : Int32) &&& 31).toUInt32).toInt32) &&& (255 : Int32))), .val (.int (((p0.toUInt32 >>> ((24 : Int32) &&& 31).toUInt32).toInt32) &&& (3 : Int32))), .unset] [(.ref b5), (.ref b2), (.ref b2)])) rfl (by rw [hml]; rfl) (Steps.refl _) (a := b2) (argsL := [(.ref b5)]) (rest := [(.ref b2)]) (lenOf own_pd1 rfl) rfl (by show 2 * 0 + _ ≤ _; exact Nat.le_of_eq rfl) (hb hby own_d_method_4_code_47) (fun _ _ => ⟨rfl, e5, (by decide : 2 + 4 ≤ _), (by decide : 4 + 8 ≤ _)⟩)
    dsimp only [Pt.U, Pt.locs, Pt.cells, Pt.slots] at X7 l7 y7 z7 st7 hQ7 hS7 hg7 hCR7
    subst l7 y7 z7
    refine Go.tr st7 ?_
    obtain ⟨XX7, hSS7, hZ7, hown7⟩ := rebS hS0 (by rw [e5]; exact (Nat.le_trans (Nat.le_trans hk0 E2.1) E5.1)) X7 hS7 hg7 hZ hown
    obtain ⟨vb_11, kb_12, rfl, N7q, K7q, q7_0, q7_1, q7_2, q7_3⟩ := hQ7
    have N7 := Fr.app N0 N7q
    have sf13 := hCR7.safe c8.lt sf6
    have sf14 := hCR7.safe V5.lt SF_b5
    have CR7 := CR5.trans hCR7
    have O7 := O5.keep K7q (allS g_b2 all0)
    have K7 : Keep h0 T7.heap [] := K5.trans K7q (allS (Or.inr sz_b2) all0)
    show Go p.tables e below P (T7.setTop (mkF m 50 #[.val (.int p0), .val (.int (p0 &&& (255 : Int32))), .val (.int (((p0.toUInt32 >>> ((8 : Int32) &&& 31).toUInt32).toInt32) &&& (255 : Int32))), .val (.int (((p0.toUInt32 >>> ((16 : Int32) &&& 31).toUInt32).toInt32) &&& (255 : Int32))), .val (.int (((p0.toUInt32 >>> ((24 : Int32) &&& 31).toUInt32).toInt32) &&& (3 : Int32))), .unset] [(.ref b2)]))
    obtain ⟨fs, hr, hrun, hended, -, hW, hpair, hsame⟩ := XX7.leaveW hSS7 (Nat.le_refl _) (v := some (.ref b2)) (fun h => by rw [Bd.returns] at h; cases h)
    have hCRe := CR7.trans (CHv.at XX7 hZ7 hEL CR7.1)
    refine ⟨_, ?_, hPend _ _ hrun hended ⟨_, _, rfl, ?_, ?_, ⟨_, rfl⟩, hW, hpair, hsame.mono (by decide) (by decide)⟩⟩
    · exact retOut XX7 hx (t := (.object "java/lang/String")) Bd.returns rfl (Or.inr (Or.inr (Or.inr (Or.inr ⟨rfl, rfl, rfl⟩)))) (hb hby own_d_method_4_code_50) hr
    · show Q_rm_str Z _ _ _ _ _ _ h0 n0 _ T7.heap _
      exact ⟨b2, rfl, N7, K7, sz_b2, q7_0⟩
    · show CHr Z consts_1 s.vm s.heap T7.vm T7.heap
      rw [hh]
      exact hCRe
  · skip
    refine Go.st (fun _ => XS.ifYes X0.here hx rfl (pc0 := 37) (pc' := 51) rfl (hb hby own_d_method_4_code_37) rfl ((if0 _ _).trans (feq hc1).2) (by decide) (by decide)) ?_
    show Go p.tables e below P (s₁.setTop (mkF m 51 #[.val (.int p0), .val (.int (p0 &&& (255 : Int32))), .val (.int (((p0.toUInt32 >>> ((8 : Int32) &&& 31).toUInt32).toInt32) &&& (255 : Int32))), .val (.int (((p0.toUInt32 >>> ((16 : Int32) &&& 31).toUInt32).toInt32) &&& (255 : Int32))), .val (.int (((p0.toUInt32 >>> ((24 : Int32) &&& 31).toUInt32).toInt32) &&& (3 : Int32))), .unset] []))
    refine Go.st (fun _ => XS.iload X0.here hx rfl (hb hby own_d_method_4_code_51) rfl) ?_
    show Go p.tables e below P (s₁.setTop (mkF m 53 #[.val (.int p0), .val (.int (p0 &&& (255 : Int32))), .val (.int (((p0.toUInt32 >>> ((8 : Int32) &&& 31).toUInt32).toInt32) &&& (255 : Int32))), .val (.int (((p0.toUInt32 >>> ((16 : Int32) &&& 31).toUInt32).toInt32) &&& (255 : Int32))), .val (.int (((p0.toUInt32 >>> ((24 : Int32) &&& 31).toUInt32).toInt32) &&& (3 : Int32))), .unset] [(.int (((p0.toUInt32 >>> ((24 : Int32) &&& 31).toUInt32).toInt32) &&& (3 : Int32)))]))
    refine Go.st (fun _ => XS.iconst X0.here hx rfl (hb hby own_d_method_4_code_53)) ?_
    show Go p.tables e below P (s₁.setTop (mkF m 54 #[.val (.int p0), .val (.int (p0 &&& (255 : Int32))), .val (.int (((p0.toUInt32 >>> ((8 : Int32) &&& 31).toUInt32).toInt32) &&& (255 : Int32))), .val (.int (((p0.toUInt32 >>> ((16 : Int32) &&& 31).toUInt32).toInt32) &&& (255 : Int32))), .val (.int (((p0.toUInt32 >>> ((24 : Int32) &&& 31).toUInt32).toInt32) &&& (3 : Int32))), .unset] [(.int (1 : Int32)), (.int (((p0.toUInt32 >>> ((24 : Int32) &&& 31).toUInt32).toInt32) &&& (3 : Int32)))]))
    by_cases hc15 : (((p0.toUInt32 >>> ((24 : Int32) &&& 31).toUInt32).toInt32) &&& (3 : Int32)) = (1 : Int32)
    · skip
      refine Go.st (fun _ => XS.icmpNo X0.here hx rfl (hb hby own_d_method_4_code_54) rfl (teq hc15).2) ?_
      show Go p.tables e below P (s₁.setTop (mkF m 57 #[.val (.int p0), .val (.int (p0 &&& (255 : Int32))), .val (.int (((p0.toUInt32 >>> ((8 : Int32) &&& 31).toUInt32).toInt32) &&& (255 : Int32))), .val (.int (((p0.toUInt32 >>> ((16 : Int32) &&& 31).toUInt32).toInt32) &&& (255 : Int32))), .val (.int (((p0.toUInt32 >>> ((24 : Int32) &&& 31).toUInt32).toInt32) &&& (3 : Int32))), .unset] []))
      refine Go.st (fun _ => XS.iconst X0.here hx rfl (hb hby own_d_method_4_code_57)) ?_
      show Go p.tables e below P (s₁.setTop (mkF m 58 #[.val (.int p0), .val (.int (p0 &&& (255 : Int32))), .val (.int (((p0.toUInt32 >>> ((8 : Int32) &&& 31).toUInt32).toInt32) &&& (255 : Int32))), .val (.int (((p0.toUInt32 >>> ((16 : Int32) &&& 31).toUInt32).toInt32) &&& (255 : Int32))), .val (.int (((p0.toUInt32 >>> ((24 : Int32) &&& 31).toUInt32).toInt32) &&& (3 : Int32))), .unset] [(.int (1 : Int32))]))
      obtain ⟨T16, h16, k16, X16, e16, E16, A16, st16⟩ := newP X0 hx hZ (hw _ (List.mem_of_getElem? (i := 10) rfl)) e0 (g := (mkF m 58 #[.val (.int p0), .val (.int (p0 &&& (255 : Int32))), .val (.int (((p0.toUInt32 >>> ((8 : Int32) &&& 31).toUInt32).toInt32) &&& (255 : Int32))), .val (.int (((p0.toUInt32 >>> ((16 : Int32) &&& 31).toUInt32).toInt32) &&& (255 : Int32))), .val (.int (((p0.toUInt32 >>> ((24 : Int32) &&& 31).toUInt32).toInt32) &&& (3 : Int32))), .unset] [(.int (1 : Int32))])) rfl (hb hby own_d_method_4_code_58) rfl (by decide) (cap := 1) (by decide) (by decide) (by decide) (by decide)
      obtain ⟨b16, g16⟩ : ∃ z, z = h0.size := ⟨_, rfl⟩
      rw [← g16] at A16 st16
      refine Go.st st16 ?_
      have g_b16 : n0 ≤ b16 := Nat.le_trans (own_oldsz X00) (Nat.le_of_eq g16.symm)
      have sz_b16 : h0.size ≤ b16 := Nat.le_trans (Keep.refl h0 []).1 (Nat.le_of_eq g16.symm)
      have K16 : Keep h0 h16 [] := (Keep.refl h0 []).ext E16
      have O16 := X00.ext E16
      have SF_b16 : Safe Z consts_1 s.vm h16 b16 := Safe.ext E16 CR0.1 (Safe.new (Nat.le_of_eq g16.symm))
      have CR16 := CR0.trans (CHr.ext E16 CR0.1)
      have V16 : Arv Z h16 b16 k16 .char (1 : Int32) [(.int (0 : Int32))] (.int (0 : Int32)) := (Arv.new A16 (by decide)).pad (pad_rep [] (.int (0 : Int32)) 1)
      show Go p.tables e below P (T16.setTop (mkF m 60 #[.val (.int p0), .val (.int (p0 &&& (255 : Int32))), .val (.int (((p0.toUInt32 >>> ((8 : Int32) &&& 31).toUInt32).toInt32) &&& (255 : Int32))), .val (.int (((p0.toUInt32 >>> ((16 : Int32) &&& 31).toUInt32).toInt32) &&& (255 : Int32))), .val (.int (((p0.toUInt32 >>> ((24 : Int32) &&& 31).toUInt32).toInt32) &&& (3 : Int32))), .unset] [(.ref b16)]))
      refine Go.st (fun _ => XS.astore X16.here hx rfl (hb hby own_d_method_4_code_60) rfl rfl (l' := #[.val (.int p0), .val (.int (p0 &&& (255 : Int32))), .val (.int (((p0.toUInt32 >>> ((8 : Int32) &&& 31).toUInt32).toInt32) &&& (255 : Int32))), .val (.int (((p0.toUInt32 >>> ((16 : Int32) &&& 31).toUInt32).toInt32) &&& (255 : Int32))), .val (.int (((p0.toUInt32 >>> ((24 : Int32) &&& 31).toUInt32).toInt32) &&& (3 : Int32))), .val (.ref b16)]) rfl) ?_
      show Go p.tables e below P (T16.setTop (mkF m 62 #[.val (.int p0), .val (.int (p0 &&& (255 : Int32))), .val (.int (((p0.toUInt32 >>> ((8 : Int32) &&& 31).toUInt32).toInt32) &&& (255 : Int32))), .val (.int (((p0.toUInt32 >>> ((16 : Int32) &&& 31).toUInt32).toInt32) &&& (255 : Int32))), .val (.int (((p0.toUInt32 >>> ((24 : Int32) &&& 31).toUInt32).toInt32) &&& (3 : Int32))), .val (.ref b16)] []))
      refine Go.st (fun _ => XS.aload X16.here hx rfl (hb hby own_d_method_4_code_62) rfl rfl) ?_
      show Go p.tables e below P (T16.setTop (mkF m 64 #[.val (.int p0), .val (.int (p0 &&& (255 : Int32))), .val (.int (((p0.toUInt32 >>> ((8 : Int32) &&& 31).toUInt32).toInt32) &&& (255 : Int32))), .val (.int (((p0.toUInt32 >>> ((16 : Int32) &&& 31).toUInt32).toInt32) &&& (255 : Int32))), .val (.int (((p0.toUInt32 >>> ((24 : Int32) &&& 31).toUInt32).toInt32) &&& (3 : Int32))), .val (.ref b16)] [(.ref b16)]))
      refine Go.st (fun _ => XS.iconst X16.here hx rfl (hb hby own_d_method_4_code_64)) ?_
      show Go p.tables e below P (T16.setTop (mkF m 65 #[.val (.int p0), .val (.int (p0 &&& (255 : Int32))), .val (.int (((p0.toUInt32 >>> ((8 : Int32) &&& 31).toUInt32).toInt32) &&& (255 : Int32))), .val (.int (((p0.toUInt32 >>> ((16 : Int32) &&& 31).toUInt32).toInt32) &&& (255 : Int32))), .val (.int (((p0.toUInt32 >>> ((24 : Int32) &&& 31).toUInt32).toInt32) &&& (3 : Int32))), .val (.ref b16)] [(.int (0 : Int32)), (.ref b16)]))
      refine Go.st (fun _ => XS.iloadN X16.here hx rfl (hb hby own_d_method_4_code_65) rfl) ?_
      show Go p.tables e below P (T16.setTop (mkF m 66 #[.val (.int p0), .val (.int (p0 &&& (255 : Int32))), .val (.int (((p0.toUInt32 >>> ((8 : Int32) &&& 31).toUInt32).toInt32) &&& (255 : Int32))), .val (.int (((p0.toUInt32 >>> ((16 : Int32) &&& 31).toUInt32).toInt32) &&& (255 : Int32))), .val (.int (((p0.toUInt32 >>> ((24 : Int32) &&& 31).toUInt32).toInt32) &&& (3 : Int32))), .val (.ref b16)] [(.int (p0 &&& (255 : Int32))), (.int (0 : Int32)), (.ref b16)]))
      obtain ⟨T17, h17, X17, e17, W17, V17, st17⟩ := own_stC X16 hx hZ e16 V16 (j := (0 : Int32)) (i := 0) (by decide) (by decide) (Nat.le_of_ble_eq_true rfl) (g := (mkF m 66 #[.val (.int p0), .val (.int (p0 &&& (255 : Int32))), .val (.int (((p0.toUInt32 >>> ((8 : Int32) &&& 31).toUInt32).toInt32) &&& (255 : Int32))), .val (.int (((p0.toUInt32 >>> ((16 : Int32) &&& 31).toUInt32).toInt32) &&& (255 : Int32))), .val (.int (((p0.toUInt32 >>> ((24 : Int32) &&& 31).toUInt32).toInt32) &&& (3 : Int32))), .val (.ref b16)] [(.int (p0 &&& (255 : Int32))), (.int (0 : Int32)), (.ref b16)])) rfl rfl (hb hby own_d_method_4_code_66)
      refine Go.st st17 ?_
      rw [show nar .char (p0 &&& (255 : Int32)) = (p0 &&& (255 : Int32)) from i2c_mask _] at V17
      have sf18 := Safe.wr W17 SF_b16 CR16.1 SF_b16
      have CR17 := CR16.trans (CHr.wr W17 SF_b16 CR16.1)
      have K17 : Keep h0 h17 [] := K16.wr W17 (Or.inr sz_b16)
      have O17 := O16.wr W17 g_b16
      have N17 := Fr.snoc X17 N0 g_b16
      have V17' : Arv Z h17 b16 k16 .char (1 : Int32) [(.int (p0 &&& (255 : Int32)))] (.int (0 : Int32)) := V17
      show Go p.tables e below P (T17.setTop (mkF m 67 #[.val (.int p0), .val (.int (p0 &&& (255 : Int32))), .val (.int (((p0.toUInt32 >>> ((8 : Int32) &&& 31).toUInt32).toInt32) &&& (255 : Int32))), .val (.int (((p0.toUInt32 >>> ((16 : Int32) &&& 31).toUInt32).toInt32) &&& (255 : Int32))), .val (.int (((p0.toUInt32 >>> ((24 : Int32) &&& 31).toUInt32).toInt32) &&& (3 : Int32))), .val (.ref b16)] []))
      obtain ⟨T19, h19, X19, e19, E19, A19, D19, -, st19⟩ := newO X17 hx hZ hown (hw _ (List.mem_of_getElem? (i := 7) rfl)) (hw _ (List.mem_of_getElem? (i := 8) rfl)) (hw _ (List.mem_of_getElem? (i := 9) rfl)) e17 (g := (mkF m 67 #[.val (.int p0), .val (.int (p0 &&& (255 : Int32))), .val (.int (((p0.toUInt32 >>> ((8 : Int32) &&& 31).toUInt32).toInt32) &&& (255 : Int32))), .val (.int (((p0.toUInt32 >>> ((16 : Int32) &&& 31).toUInt32).toInt32) &&& (255 : Int32))), .val (.int (((p0.toUInt32 >>> ((24 : Int32) &&& 31).toUInt32).toInt32) &&& (3 : Int32))), .val (.ref b16)] [])) rfl (hb hby own_d_method_4_code_67) (by decide) (by decide)
      obtain ⟨b19, g19⟩ : ∃ z, z = h17.size := ⟨_, rfl⟩
      rw [← g19] at A19 D19 st19
      refine Go.st st19 ?_
      have g_b19 : n0 ≤ b19 := Nat.le_trans (own_oldsz O17) (Nat.le_of_eq g19.symm)
      have sz_b19 : h0.size ≤ b19 := Nat.le_trans K17.1 (Nat.le_of_eq g19.symm)
      have K19 : Keep h0 h19 [] := K17.ext E19
      have O19 := O17.ext E19
      have sf20 := Safe.ext E19 CR17.1 sf18
      have SF_b19 : Safe Z consts_1 s.vm h19 b19 := Safe.ext E19 CR17.1 (Safe.new (Nat.le_of_eq g19.symm))
      have CR19 := CR17.trans (CHr.ext E19 CR17.1)
      have F21 : Fld Z h19 b19 "java/lang/String" "value" "[B" .null := D19 (Or.inr (hw _ (List.mem_of_getElem? (i := 23) rfl))) (ty := (.array .byte)) (by decide)
      have F22 : Fld Z h19 b19 "java/lang/String" "coder" "B" (.int (0 : Int32)) := D19 (Or.inr (hw _ (List.mem_of_getElem? (i := 24) rfl))) (ty := .byte) (by decide)
      show Go p.tables e below P (T19.setTop (mkF m 70 #[.val (.int p0), .val (.int (p0 &&& (255 : Int32))), .val (.int (((p0.toUInt32 >>> ((8 : Int32) &&& 31).toUInt32).toInt32) &&& (255 : Int32))), .val (.int (((p0.toUInt32 >>> ((16 : Int32) &&& 31).toUInt32).toInt32) &&& (255 : Int32))), .val (.int (((p0.toUInt32 >>> ((24 : Int32) &&& 31).toUInt32).toInt32) &&& (3 : Int32))), .val (.ref b16)] [(.ref b19)]))
      refine Go.st (fun _ => XS.dup X19.here hx rfl (hb hby own_d_method_4_code_70) rfl rfl) ?_
      show Go p.tables e below P (T19.setTop (mkF m 71 #[.val (.int p0), .val (.int (p0 &&& (255 : Int32))), .val (.int (((p0.toUInt32 >>> ((8 : Int32) &&& 31).toUInt32).toInt32) &&& (255 : Int32))), .val (.int (((p0.toUInt32 >>> ((16 : Int32) &&& 31).toUInt32).toInt32) &&& (255 : Int32))), .val (.int (((p0.toUInt32 >>> ((24 : Int32) &&& 31).toUInt32).toInt32) &&& (3 : Int32))), .val (.ref b16)] [(.ref b19), (.ref b19)]))
      refine Go.st (fun _ => XS.aload X19.here hx rfl (hb hby own_d_method_4_code_71) rfl rfl) ?_
      show Go p.tables e below P (T19.setTop (mkF m 73 #[.val (.int p0), .val (.int (p0 &&& (255 : Int32))), .val (.int (((p0.toUInt32 >>> ((8 : Int32) &&& 31).toUInt32).toInt32) &&& (255 : Int32))), .val (.int (((p0.toUInt32 >>> ((16 : Int32) &&& 31).toUInt32).toInt32) &&& (255 : Int32))), .val (.int (((p0.toUInt32 >>> ((24 : Int32) &&& 31).toUInt32).toInt32) &&& (3 : Int32))), .val (.ref b16)] [(.ref b16), (.ref b19), (.ref b19)]))
      have c24 := (V17'.ext E19)
      have hp23 : ∀ c ∈ ([(p0 &&& (255 : Int32))] : List Int32), ¬ c < 0 ∧ ¬ (255 : Int32) < c := by
        intro c hc
        simp only [List.mem_cons, List.not_mem_nil, or_false] at hc
        rcases hc with rfl
        · exact own_and255 _
      obtain ⟨_, _, ⟨T23, L23, k23, n23⟩, -, X23, ⟨Lc23, hQ23, l23, y23, z23⟩, st23⟩ := X19.specialBack hx (y := (⟨"java/lang/String", "<init>", "([C)V"⟩ : MethodName)) rfl hown (mvT hZ (hw _ (List.mem_of_getElem? (i := 11) rfl))) (mvT hZ (hw _ (List.mem_of_getElem? (i := 12) rfl))) (mvT hZ (hw _ (List.mem_of_getElem? (i := 13) rfl))) (by decide) (StrChars.Road.backV (W := 1) hZ (fun d hd => hw d (own_wNew d hd)) (kI := 4) (hw _ (List.mem_of_getElem? (i := 8) rfl)) (cs := ([(p0 &&& (255 : Int32))] : List Int32)) (bs := (([(p0 &&& (255 : Int32))] : List Int32)).map (fun c => c.toInt8.toInt32)) (n := 1) g_b19 (own_oldsz O19) A19 F21 F22 c24 (S_CS.ext O19.2) nz_CS rfl rfl (by decide) (by decide) hp23 rfl (by decide) (by decide)) (g := (mkF m 73 #[.val (.int p0), .val (.int (p0 &&& (255 : Int32))), .val (.int (((p0.toUInt32 >>> ((8 : Int32) &&& 31).toUInt32).toInt32) &&& (255 : Int32))), .val (.int (((p0.toUInt32 >>> ((16 : Int32) &&& 31).toUInt32).toInt32) &&& (255 : Int32))), .val (.int (((p0.toUInt32 >>> ((24 : Int32) &&& 31).toUInt32).toInt32) &&& (3 : Int32))), .val (.ref b16)] [(.ref b16), (.ref b19), (.ref b19)])) rfl (by rw [hml]; rfl) (Steps.refl _) (a := b19) (argsL := [(.ref b16)]) (rest := [(.ref b19)]) (lenOf own_pd1 rfl) rfl (by show 2 * 0 + _ ≤ _; exact Nat.le_of_eq rfl) (hb hby own_d_method_4_code_73) (fun _ _ => ⟨rfl, e19, (by decide : 2 + 1 ≤ _), (by decide : 5 + 1 ≤ _)⟩)
      dsimp only [Pt.U, Pt.locs, Pt.cells, Pt.slots] at X23 l23 y23 z23 st23 hQ23
      subst l23 y23 z23
      refine Go.tr st23 ?_
      obtain ⟨rfl, N23q, K23q, E23x, C23x, t23, kb23, gt23, szt23, net23, V23x, A23x⟩ := hQ23
      have N23 := Fr.app N17 N23q
      have O23 := O19.keep K23q (allS g_b19 all0)
      have K23 : Keep h0 T23.heap [] := K19.trans K23q (allS (Or.inr sz_b19) all0)
      have sf25 := Safe.keep K23q (sfS SF_b19 sf0) CR19.1 sf20
      have sf26 := Safe.keep K23q (sfS SF_b19 sf0) CR19.1 SF_b19
      have CR23 := CR19.trans (CHr.keep K23q (sfS SF_b19 sf0) CR19.1)
      have sz_t23 : h0.size ≤ t23 := Nat.le_trans K19.1 szt23
      show Go p.tables e below P (T23.setTop (mkF m 76 #[.val (.int p0), .val (.int (p0 &&& (255 : Int32))), .val (.int (((p0.toUInt32 >>> ((8 : Int32) &&& 31).toUInt32).toInt32) &&& (255 : Int32))), .val (.int (((p0.toUInt32 >>> ((16 : Int32) &&& 31).toUInt32).toInt32) &&& (255 : Int32))), .val (.int (((p0.toUInt32 >>> ((24 : Int32) &&& 31).toUInt32).toInt32) &&& (3 : Int32))), .val (.ref b16)] [(.ref b19)]))
      obtain ⟨fs, hr, hrun, hended, -, hW, hpair, hsame⟩ := X23.leaveW hS0 (Nat.le_trans (Nat.le_trans (Nat.le_trans (Nat.le_trans hk0 E16.1) (Keep.of_wr W17).1) E19.1) K23q.1) (v := some (.ref b19)) (fun h => by rw [Bd.returns] at h; cases h)
      have hCRe := CR23.trans (CHv.at X23 hZ hEL CR23.1)
      refine ⟨_, ?_, hPend _ _ hrun hended ⟨_, _, rfl, ?_, ?_, ⟨_, rfl⟩, hW, hpair, hsame.mono (by decide) (by decide)⟩⟩
      · exact retOut X23 hx (t := (.object "java/lang/String")) Bd.returns rfl (Or.inr (Or.inr (Or.inr (Or.inr ⟨rfl, rfl, rfl⟩)))) (hb hby own_d_method_4_code_76) hr
      · show Q_rm_str Z _ _ _ _ _ _ h0 n0 _ T23.heap _
        exact ⟨b19, rfl, N23, K23, sz_b19, E23x⟩
      · show CHr Z consts_1 s.vm s.heap T23.vm T23.heap
        rw [hh]
        exact hCRe
    · skip
      refine Go.st (fun _ => XS.icmpYes X0.here hx rfl (pc0 := 54) (pc' := 77) rfl (hb hby own_d_method_4_code_54) rfl (feq hc15).2 (by decide) (by decide)) ?_
      show Go p.tables e below P (s₁.setTop (mkF m 77 #[.val (.int p0), .val (.int (p0 &&& (255 : Int32))), .val (.int (((p0.toUInt32 >>> ((8 : Int32) &&& 31).toUInt32).toInt32) &&& (255 : Int32))), .val (.int (((p0.toUInt32 >>> ((16 : Int32) &&& 31).toUInt32).toInt32) &&& (255 : Int32))), .val (.int (((p0.toUInt32 >>> ((24 : Int32) &&& 31).toUInt32).toInt32) &&& (3 : Int32))), .unset] []))
      refine Go.st (fun _ => XS.iload X0.here hx rfl (hb hby own_d_method_4_code_77) rfl) ?_
      show Go p.tables e below P (s₁.setTop (mkF m 79 #[.val (.int p0), .val (.int (p0 &&& (255 : Int32))), .val (.int (((p0.toUInt32 >>> ((8 : Int32) &&& 31).toUInt32).toInt32) &&& (255 : Int32))), .val (.int (((p0.toUInt32 >>> ((16 : Int32) &&& 31).toUInt32).toInt32) &&& (255 : Int32))), .val (.int (((p0.toUInt32 >>> ((24 : Int32) &&& 31).toUInt32).toInt32) &&& (3 : Int32))), .unset] [(.int (((p0.toUInt32 >>> ((24 : Int32) &&& 31).toUInt32).toInt32) &&& (3 : Int32)))]))
      refine Go.st (fun _ => XS.iconst X0.here hx rfl (hb hby own_d_method_4_code_79)) ?_
      show Go p.tables e below P (s₁.setTop (mkF m 80 #[.val (.int p0), .val (.int (p0 &&& (255 : Int32))), .val (.int (((p0.toUInt32 >>> ((8 : Int32) &&& 31).toUInt32).toInt32) &&& (255 : Int32))), .val (.int (((p0.toUInt32 >>> ((16 : Int32) &&& 31).toUInt32).toInt32) &&& (255 : Int32))), .val (.int (((p0.toUInt32 >>> ((24 : Int32) &&& 31).toUInt32).toInt32) &&& (3 : Int32))), .unset] [(.int (2 : Int32)), (.int (((p0.toUInt32 >>> ((24 : Int32) &&& 31).toUInt32).toInt32) &&& (3 : Int32)))]))
      by_cases hc27 : (((p0.toUInt32 >>> ((24 : Int32) &&& 31).toUInt32).toInt32) &&& (3 : Int32)) = (2 : Int32)
      · skip
        refine Go.st (fun _ => XS.icmpNo X0.here hx rfl (hb hby own_d_method_4_code_80) rfl (teq hc27).2) ?_
        show Go p.tables e below P (s₁.setTop (mkF m 83 #[.val (.int p0), .val (.int (p0 &&& (255 : Int32))), .val (.int (((p0.toUInt32 >>> ((8 : Int32) &&& 31).toUInt32).toInt32) &&& (255 : Int32))), .val (.int (((p0.toUInt32 >>> ((16 : Int32) &&& 31).toUInt32).toInt32) &&& (255 : Int32))), .val (.int (((p0.toUInt32 >>> ((24 : Int32) &&& 31).toUInt32).toInt32) &&& (3 : Int32))), .unset] []))
        refine Go.st (fun _ => XS.iconst X0.here hx rfl (hb hby own_d_method_4_code_83)) ?_
        show Go p.tables e below P (s₁.setTop (mkF m 84 #[.val (.int p0), .val (.int (p0 &&& (255 : Int32))), .val (.int (((p0.toUInt32 >>> ((8 : Int32) &&& 31).toUInt32).toInt32) &&& (255 : Int32))), .val (.int (((p0.toUInt32 >>> ((16 : Int32) &&& 31).toUInt32).toInt32) &&& (255 : Int32))), .val (.int (((p0.toUInt32 >>> ((24 : Int32) &&& 31).toUInt32).toInt32) &&& (3 : Int32))), .unset] [(.int (2 : Int32))]))
        obtain ⟨T28, h28, k28, X28, e28, E28, A28, st28⟩ := newP X0 hx hZ (hw _ (List.mem_of_getElem? (i := 10) rfl)) e0 (g := (mkF m 84 #[.val (.int p0), .val (.int (p0 &&& (255 : Int32))), .val (.int (((p0.toUInt32 >>> ((8 : Int32) &&& 31).toUInt32).toInt32) &&& (255 : Int32))), .val (.int (((p0.toUInt32 >>> ((16 : Int32) &&& 31).toUInt32).toInt32) &&& (255 : Int32))), .val (.int (((p0.toUInt32 >>> ((24 : Int32) &&& 31).toUInt32).toInt32) &&& (3 : Int32))), .unset] [(.int (2 : Int32))])) rfl (hb hby own_d_method_4_code_84) rfl (by decide) (cap := 2) (by decide) (by decide) (by decide) (by decide)
        obtain ⟨b28, g28⟩ : ∃ z, z = h0.size := ⟨_, rfl⟩
        rw [← g28] at A28 st28
        refine Go.st st28 ?_
        have g_b28 : n0 ≤ b28 := Nat.le_trans (own_oldsz X00) (Nat.le_of_eq g28.symm)
        have sz_b28 : h0.size ≤ b28 := Nat.le_trans (Keep.refl h0 []).1 (Nat.le_of_eq g28.symm)
        have K28 : Keep h0 h28 [] := (Keep.refl h0 []).ext E28
        have O28 := X00.ext E28
        have SF_b28 : Safe Z consts_1 s.vm h28 b28 := Safe.ext E28 CR0.1 (Safe.new (Nat.le_of_eq g28.symm))
        have CR28 := CR0.trans (CHr.ext E28 CR0.1)
        have V28 : Arv Z h28 b28 k28 .char (2 : Int32) [(.int (0 : Int32)), (.int (0 : Int32))] (.int (0 : Int32)) := (Arv.new A28 (by decide)).pad (pad_rep [] (.int (0 : Int32)) 2)
        show Go p.tables e below P (T28.setTop (mkF m 86 #[.val (.int p0), .val (.int (p0 &&& (255 : Int32))), .val (.int (((p0.toUInt32 >>> ((8 : Int32) &&& 31).toUInt32).toInt32) &&& (255 : Int32))), .val (.int (((p0.toUInt32 >>> ((16 : Int32) &&& 31).toUInt32).toInt32) &&& (255 : Int32))), .val (.int (((p0.toUInt32 >>> ((24 : Int32) &&& 31).toUInt32).toInt32) &&& (3 : Int32))), .unset] [(.ref b28)]))
        refine Go.st (fun _ => XS.astore X28.here hx rfl (hb hby own_d_method_4_code_86) rfl rfl (l' := #[.val (.int p0), .val (.int (p0 &&& (255 : Int32))), .val (.int (((p0.toUInt32 >>> ((8 : Int32) &&& 31).toUInt32).toInt32) &&& (255 : Int32))), .val (.int (((p0.toUInt32 >>> ((16 : Int32) &&& 31).toUInt32).toInt32) &&& (255 : Int32))), .val (.int (((p0.toUInt32 >>> ((24 : Int32) &&& 31).toUInt32).toInt32) &&& (3 : Int32))), .val (.ref b28)]) rfl) ?_
        show Go p.tables e below P (T28.setTop (mkF m 88 #[.val (.int p0), .val (.int (p0 &&& (255 : Int32))), .val (.int (((p0.toUInt32 >>> ((8 : Int32) &&& 31).toUInt32).toInt32) &&& (255 : Int32))), .val (.int (((p0.toUInt32 >>> ((16 : Int32) &&& 31).toUInt32).toInt32) &&& (255 : Int32))), .val (.int (((p0.toUInt32 >>> ((24 : Int32) &&& 31).toUInt32).toInt32) &&& (3 : Int32))), .val (.ref b28)] []))
        refine Go.st (fun _ => XS.aload X28.here hx rfl (hb hby own_d_method_4_code_88) rfl rfl) ?_
        show Go p.tables e below P (T28.setTop (mkF m 90 #[.val (.int p0), .val (.int (p0 &&& (255 : Int32))), .val (.int (((p0.toUInt32 >>> ((8 : Int32) &&& 31).toUInt32).toInt32) &&& (255 : Int32))), .val (.int (((p0.toUInt32 >>> ((16 : Int32) &&& 31).toUInt32).toInt32) &&& (255 : Int32))), .val (.int (((p0.toUInt32 >>> ((24 : Int32) &&& 31).toUInt32).toInt32) &&& (3 : Int32))), .val (.ref b28)] [(.ref b28)]))
        refine Go.st (fun _ => XS.iconst X28.here hx rfl (hb hby own_d_method_4_code_90)) ?_
        show Go p.tables e below P (T28.setTop (mkF m 91 #[.val (.int p0), .val (.int (p0 &&& (255 : Int32))), .val (.int (((p0.toUInt32 >>> ((8 : Int32) &&& 31).toUInt32).toInt32) &&& (255 : Int32))), .val (.int (((p0.toUInt32 >>> ((16 : Int32) &&& 31).toUInt32).toInt32) &&& (255 : Int32))), .val (.int (((p0.toUInt32 >>> ((24 : Int32) &&& 31).toUInt32).toInt32) &&& (3 : Int32))), .val (.ref b28)] [(.int (0 : Int32)), (.ref b28)]))
        refine Go.st (fun _ => XS.iloadN X28.here hx rfl (hb hby own_d_method_4_code_91) rfl) ?_
        show Go p.tables e below P (T28.setTop (mkF m 92 #[.val (.int p0), .val (.int (p0 &&& (255 : Int32))), .val (.int (((p0.toUInt32 >>> ((8 : Int32) &&& 31).toUInt32).toInt32) &&& (255 : Int32))), .val (.int (((p0.toUInt32 >>> ((16 : Int32) &&& 31).toUInt32).toInt32) &&& (255 : Int32))), .val (.int (((p0.toUInt32 >>> ((24 : Int32) &&& 31).toUInt32).toInt32) &&& (3 : Int32))), .val (.ref b28)] [(.int (p0 &&& (255 : Int32))), (.int (0 : Int32)), (.ref b28)]))
        obtain ⟨T29, h29, X29, e29, W29, V29, st29⟩ := own_stC X28 hx hZ e28 V28 (j := (0 : Int32)) (i := 0) (by decide) (by decide) (Nat.le_of_ble_eq_true rfl) (g := (mkF m 92 #[.val (.int p0), .val (.int (p0 &&& (255 : Int32))), .val (.int (((p0.toUInt32 >>> ((8 : Int32) &&& 31).toUInt32).toInt32) &&& (255 : Int32))), .val (.int (((p0.toUInt32 >>> ((16 : Int32) &&& 31).toUInt32).toInt32) &&& (255 : Int32))), .val (.int (((p0.toUInt32 >>> ((24 : Int32) &&& 31).toUInt32).toInt32) &&& (3 : Int32))), .val (.ref b28)] [(.int (p0 &&& (255 : Int32))), (.int (0 : Int32)), (.ref b28)])) rfl rfl (hb hby own_d_method_4_code_92)
        refine Go.st st29 ?_
        rw [show nar .char (p0 &&& (255 : Int32)) = (p0 &&& (255 : Int32)) from i2c_mask _] at V29
        have sf30 := Safe.wr W29 SF_b28 CR28.1 SF_b28
        have CR29 := CR28.trans (CHr.wr W29 SF_b28 CR28.1)
        have K29 : Keep h0 h29 [] := K28.wr W29 (Or.inr sz_b28)
        have O29 := O28.wr W29 g_b28
        have N29 := Fr.snoc X29 N0 g_b28
        have V29' : Arv Z h29 b28 k28 .char (2 : Int32) [(.int (p0 &&& (255 : Int32))), (.int (0 : Int32))] (.int (0 : Int32)) := V29
        show Go p.tables e below P (T29.setTop (mkF m 93 #[.val (.int p0), .val (.int (p0 &&& (255 : Int32))), .val (.int (((p0.toUInt32 >>> ((8 : Int32) &&& 31).toUInt32).toInt32) &&& (255 : Int32))), .val (.int (((p0.toUInt32 >>> ((16 : Int32) &&& 31).toUInt32).toInt32) &&& (255 : Int32))), .val (.int (((p0.toUInt32 >>> ((24 : Int32) &&& 31).toUInt32).toInt32) &&& (3 : Int32))), .val (.ref b28)] []))
        refine Go.st (fun _ => XS.aload X29.here hx rfl (hb hby own_d_method_4_code_93) rfl rfl) ?_
        show Go p.tables e below P (T29.setTop (mkF m 95 #[.val (.int p0), .val (.int (p0 &&& (255 : Int32))), .val (.int (((p0.toUInt32 >>> ((8 : Int32) &&& 31).toUInt32).toInt32) &&& (255 : Int32))), .val (.int (((p0.toUInt32 >>> ((16 : Int32) &&& 31).toUInt32).toInt32) &&& (255 : Int32))), .val (.int (((p0.toUInt32 >>> ((24 : Int32) &&& 31).toUInt32).toInt32) &&& (3 : Int32))), .val (.ref b28)] [(.ref b28)]))
        refine Go.st (fun _ => XS.iconst X29.here hx rfl (hb hby own_d_method_4_code_95)) ?_
        show Go p.tables e below P (T29.setTop (mkF m 96 #[.val (.int p0), .val (.int (p0 &&& (255 : Int32))), .val (.int (((p0.toUInt32 >>> ((8 : Int32) &&& 31).toUInt32).toInt32) &&& (255 : Int32))), .val (.int (((p0.toUInt32 >>> ((16 : Int32) &&& 31).toUInt32).toInt32) &&& (255 : Int32))), .val (.int (((p0.toUInt32 >>> ((24 : Int32) &&& 31).toUInt32).toInt32) &&& (3 : Int32))), .val (.ref b28)] [(.int (1 : Int32)), (.ref b28)]))
        refine Go.st (fun _ => XS.iloadN X29.here hx rfl (hb hby own_d_method_4_code_96) rfl) ?_
        show Go p.tables e below P (T29.setTop (mkF m 97 #[.val (.int p0), .val (.int (p0 &&& (255 : Int32))), .val (.int (((p0.toUInt32 >>> ((8 : Int32) &&& 31).toUInt32).toInt32) &&& (255 : Int32))), .val (.int (((p0.toUInt32 >>> ((16 : Int32) &&& 31).toUInt32).toInt32) &&& (255 : Int32))), .val (.int (((p0.toUInt32 >>> ((24 : Int32) &&& 31).toUInt32).toInt32) &&& (3 : Int32))), .val (.ref b28)] [(.int (((p0.toUInt32 >>> ((8 : Int32) &&& 31).toUInt32).toInt32) &&& (255 : Int32))), (.int (1 : Int32)), (.ref b28)]))
        obtain ⟨T31, h31, X31, e31, W31, V31, st31⟩ := own_stC X29 hx hZ e29 V29' (j := (1 : Int32)) (i := 1) (by decide) (by decide) (Nat.le_of_ble_eq_true rfl) (g := (mkF m 97 #[.val (.int p0), .val (.int (p0 &&& (255 : Int32))), .val (.int (((p0.toUInt32 >>> ((8 : Int32) &&& 31).toUInt32).toInt32) &&& (255 : Int32))), .val (.int (((p0.toUInt32 >>> ((16 : Int32) &&& 31).toUInt32).toInt32) &&& (255 : Int32))), .val (.int (((p0.toUInt32 >>> ((24 : Int32) &&& 31).toUInt32).toInt32) &&& (3 : Int32))), .val (.ref b28)] [(.int (((p0.toUInt32 >>> ((8 : Int32) &&& 31).toUInt32).toInt32) &&& (255 : Int32))), (.int (1 : Int32)), (.ref b28)])) rfl rfl (hb hby own_d_method_4_code_97)
        refine Go.st st31 ?_
        rw [show nar .char (((p0.toUInt32 >>> ((8 : Int32) &&& 31).toUInt32).toInt32) &&& (255 : Int32)) = (((p0.toUInt32 >>> ((8 : Int32) &&& 31).toUInt32).toInt32) &&& (255 : Int32)) from i2c_mask _] at V31
        have sf32 := Safe.wr W31 sf30 CR29.1 sf30
        have CR31 := CR29.trans (CHr.wr W31 sf30 CR29.1)
        have K31 : Keep h0 h31 [] := K29.wr W31 (Or.inr sz_b28)
        have O31 := O29.wr W31 g_b28
        have N31 := Fr.snoc X31 N29 g_b28
        have V31' : Arv Z h31 b28 k28 .char (2 : Int32) [(.int (p0 &&& (255 : Int32))), (.int (((p0.toUInt32 >>> ((8 : Int32) &&& 31).toUInt32).toInt32) &&& (255 : Int32)))] (.int (0 : Int32)) := V31
        show Go p.tables e below P (T31.setTop (mkF m 98 #[.val (.int p0), .val (.int (p0 &&& (255 : Int32))), .val (.int (((p0.toUInt32 >>> ((8 : Int32) &&& 31).toUInt32).toInt32) &&& (255 : Int32))), .val (.int (((p0.toUInt32 >>> ((16 : Int32) &&& 31).toUInt32).toInt32) &&& (255 : Int32))), .val (.int (((p0.toUInt32 >>> ((24 : Int32) &&& 31).toUInt32).toInt32) &&& (3 : Int32))), .val (.ref b28)] []))
        obtain ⟨T33, h33, X33, e33, E33, A33, D33, -, st33⟩ := newO X31 hx hZ hown (hw _ (List.mem_of_getElem? (i := 7) rfl)) (hw _ (List.mem_of_getElem? (i := 8) rfl)) (hw _ (List.mem_of_getElem? (i := 9) rfl)) e31 (g := (mkF m 98 #[.val (.int p0), .val (.int (p0 &&& (255 : Int32))), .val (.int (((p0.toUInt32 >>> ((8 : Int32) &&& 31).toUInt32).toInt32) &&& (255 : Int32))), .val (.int (((p0.toUInt32 >>> ((16 : Int32) &&& 31).toUInt32).toInt32) &&& (255 : Int32))), .val (.int (((p0.toUInt32 >>> ((24 : Int32) &&& 31).toUInt32).toInt32) &&& (3 : Int32))), .val (.ref b28)] [])) rfl (hb hby own_d_method_4_code_98) (by decide) (by decide)
        obtain ⟨b33, g33⟩ : ∃ z, z = h31.size := ⟨_, rfl⟩
        rw [← g33] at A33 D33 st33
        refine Go.st st33 ?_
        have g_b33 : n0 ≤ b33 := Nat.le_trans (own_oldsz O31) (Nat.le_of_eq g33.symm)
        have sz_b33 : h0.size ≤ b33 := Nat.le_trans K31.1 (Nat.le_of_eq g33.symm)
        have K33 : Keep h0 h33 [] := K31.ext E33
        have O33 := O31.ext E33
        have sf34 := Safe.ext E33 CR31.1 sf32
        have SF_b33 : Safe Z consts_1 s.vm h33 b33 := Safe.ext E33 CR31.1 (Safe.new (Nat.le_of_eq g33.symm))
        have CR33 := CR31.trans (CHr.ext E33 CR31.1)
        have F35 : Fld Z h33 b33 "java/lang/String" "value" "[B" .null := D33 (Or.inr (hw _ (List.mem_of_getElem? (i := 23) rfl))) (ty := (.array .byte)) (by decide)
        have F36 : Fld Z h33 b33 "java/lang/String" "coder" "B" (.int (0 : Int32)) := D33 (Or.inr (hw _ (List.mem_of_getElem? (i := 24) rfl))) (ty := .byte) (by decide)
        show Go p.tables e below P (T33.setTop (mkF m 101 #[.val (.int p0), .val (.int (p0 &&& (255 : Int32))), .val (.int (((p0.toUInt32 >>> ((8 : Int32) &&& 31).toUInt32).toInt32) &&& (255 : Int32))), .val (.int (((p0.toUInt32 >>> ((16 : Int32) &&& 31).toUInt32).toInt32) &&& (255 : Int32))), .val (.int (((p0.toUInt32 >>> ((24 : Int32) &&& 31).toUInt32).toInt32) &&& (3 : Int32))), .val (.ref b28)] [(.ref b33)]))
        refine Go.st (fun _ => XS.dup X33.here hx rfl (hb hby own_d_method_4_code_101) rfl rfl) ?_
        show Go p.tables e below P (T33.setTop (mkF m 102 #[.val (.int p0), .val (.int (p0 &&& (255 : Int32))), .val (.int (((p0.toUInt32 >>> ((8 : Int32) &&& 31).toUInt32).toInt32) &&& (255 : Int32))), .val (.int (((p0.toUInt32 >>> ((16 : Int32) &&& 31).toUInt32).toInt32) &&& (255 : Int32))), .val (.int (((p0.toUInt32 >>> ((24 : Int32) &&& 31).toUInt32).toInt32) &&& (3 : Int32))), .val (.ref b28)] [(.ref b33), (.ref b33)]))
        refine Go.st (fun _ => XS.aload X33.here hx rfl (hb hby own_d_method_4_code_102) rfl rfl) ?_
        show Go p.tables e below P (T33.setTop (mkF m 104 #[.val (.int p0), .val (.int (p0 &&& (255 : Int32))), .val (.int (((p0.toUInt32 >>> ((8 : Int32) &&& 31).toUInt32).toInt32) &&& (255 : Int32))), .val (.int (((p0.toUInt32 >>> ((16 : Int32) &&& 31).toUInt32).toInt32) &&& (255 : Int32))), .val (.int (((p0.toUInt32 >>> ((24 : Int32) &&& 31).toUInt32).toInt32) &&& (3 : Int32))), .val (.ref b28)] [(.ref b28), (.ref b33), (.ref b33)]))
        have c38 := (V31'.ext E33)
        have hp37 : ∀ c ∈ ([(p0 &&& (255 : Int32)), (((p0.toUInt32 >>> ((8 : Int32) &&& 31).toUInt32).toInt32) &&& (255 : Int32))] : List Int32), ¬ c < 0 ∧ ¬ (255 : Int32) < c := by
          intro c hc
          simp only [List.mem_cons, List.not_mem_nil, or_false] at hc
          rcases hc with rfl | rfl
          · exact own_and255 _
          · exact own_and255 _
        obtain ⟨_, _, ⟨T37, L37, k37, n37⟩, -, X37, ⟨Lc37, hQ37, l37, y37, z37⟩, st37⟩ := X33.specialBack hx (y := (⟨"java/lang/String", "<init>", "([C)V"⟩ : MethodName)) rfl hown (mvT hZ (hw _ (List.mem_of_getElem? (i := 11) rfl))) (mvT hZ (hw _ (List.mem_of_getElem? (i := 12) rfl))) (mvT hZ (hw _ (List.mem_of_getElem? (i := 13) rfl))) (by decide) (StrChars.Road.backV (W := 1) hZ (fun d hd => hw d (own_wNew d hd)) (kI := 4) (hw _ (List.mem_of_getElem? (i := 8) rfl)) (cs := ([(p0 &&& (255 : Int32)), (((p0.toUInt32 >>> ((8 : Int32) &&& 31).toUInt32).toInt32) &&& (255 : Int32))] : List Int32)) (bs := (([(p0 &&& (255 : Int32)), (((p0.toUInt32 >>> ((8 : Int32) &&& 31).toUInt32).toInt32) &&& (255 : Int32))] : List Int32)).map (fun c => c.toInt8.toInt32)) (n := 2) g_b33 (own_oldsz O33) A33 F35 F36 c38 (S_CS.ext O33.2) nz_CS rfl rfl (by decide) (by decide) hp37 rfl (by decide) (by decide)) (g := (mkF m 104 #[.val (.int p0), .val (.int (p0 &&& (255 : Int32))), .val (.int (((p0.toUInt32 >>> ((8 : Int32) &&& 31).toUInt32).toInt32) &&& (255 : Int32))), .val (.int (((p0.toUInt32 >>> ((16 : Int32) &&& 31).toUInt32).toInt32) &&& (255 : Int32))), .val (.int (((p0.toUInt32 >>> ((24 : Int32) &&& 31).toUInt32).toInt32) &&& (3 : Int32))), .val (.ref b28)] [(.ref b28), (.ref b33), (.ref b33)])) rfl (by rw [hml]; rfl) (Steps.refl _) (a := b33) (argsL := [(.ref b28)]) (rest := [(.ref b33)]) (lenOf own_pd1 rfl) rfl (by show 2 * 0 + _ ≤ _; exact Nat.le_of_eq rfl) (hb hby own_d_method_4_code_104) (fun _ _ => ⟨rfl, e33, (by decide : 2 + 1 ≤ _), (by decide : 6 + 2 ≤ _)⟩)
        dsimp only [Pt.U, Pt.locs, Pt.cells, Pt.slots] at X37 l37 y37 z37 st37 hQ37
        subst l37 y37 z37
        refine Go.tr st37 ?_
        obtain ⟨rfl, N37q, K37q, E37x, C37x, t37, kb37, gt37, szt37, net37, V37x, A37x⟩ := hQ37
        have N37 := Fr.app N31 N37q
        have O37 := O33.keep K37q (allS g_b33 all0)
        have K37 : Keep h0 T37.heap [] := K33.trans K37q (allS (Or.inr sz_b33) all0)
        have sf39 := Safe.keep K37q (sfS SF_b33 sf0) CR33.1 sf34
        have sf40 := Safe.keep K37q (sfS SF_b33 sf0) CR33.1 SF_b33
        have CR37 := CR33.trans (CHr.keep K37q (sfS SF_b33 sf0) CR33.1)
        have sz_t37 : h0.size ≤ t37 := Nat.le_trans K33.1 szt37
        show Go p.tables e below P (T37.setTop (mkF m 107 #[.val (.int p0), .val (.int (p0 &&& (255 : Int32))), .val (.int (((p0.toUInt32 >>> ((8 : Int32) &&& 31).toUInt32).toInt32) &&& (255 : Int32))), .val (.int (((p0.toUInt32 >>> ((16 : Int32) &&& 31).toUInt32).toInt32) &&& (255 : Int32))), .val (.int (((p0.toUInt32 >>> ((24 : Int32) &&& 31).toUInt32).toInt32) &&& (3 : Int32))), .val (.ref b28)] [(.ref b33)]))
        obtain ⟨fs, hr, hrun, hended, -, hW, hpair, hsame⟩ := X37.leaveW hS0 (Nat.le_trans (Nat.le_trans (Nat.le_trans (Nat.le_trans (Nat.le_trans hk0 E28.1) (Keep.of_wr W29).1) (Keep.of_wr W31).1) E33.1) K37q.1) (v := some (.ref b33)) (fun h => by rw [Bd.returns] at h; cases h)
        have hCRe := CR37.trans (CHv.at X37 hZ hEL CR37.1)
        refine ⟨_, ?_, hPend _ _ hrun hended ⟨_, _, rfl, ?_, ?_, ⟨_, rfl⟩, hW, hpair, hsame.mono (by decide) (by decide)⟩⟩
        · exact retOut X37 hx (t := (.object "java/lang/String")) Bd.returns rfl (Or.inr (Or.inr (Or.inr (Or.inr ⟨rfl, rfl, rfl⟩)))) (hb hby own_d_method_4_code_107) hr
        · show Q_rm_str Z _ _ _ _ _ _ h0 n0 _ T37.heap _
          exact ⟨b33, rfl, N37, K37, sz_b33, E37x⟩
        · show CHr Z consts_1 s.vm s.heap T37.vm T37.heap
          rw [hh]
          exact hCRe
      · skip
        refine Go.st (fun _ => XS.icmpYes X0.here hx rfl (pc0 := 80) (pc' := 108) rfl (hb hby own_d_method_4_code_80) rfl (feq hc27).2 (by decide) (by decide)) ?_
        show Go p.tables e below P (s₁.setTop (mkF m 108 #[.val (.int p0), .val (.int (p0 &&& (255 : Int32))), .val (.int (((p0.toUInt32 >>> ((8 : Int32) &&& 31).toUInt32).toInt32) &&& (255 : Int32))), .val (.int (((p0.toUInt32 >>> ((16 : Int32) &&& 31).toUInt32).toInt32) &&& (255 : Int32))), .val (.int (((p0.toUInt32 >>> ((24 : Int32) &&& 31).toUInt32).toInt32) &&& (3 : Int32))), .unset] []))
        refine Go.st (fun _ => XS.iconst X0.here hx rfl (hb hby own_d_method_4_code_108)) ?_
        show Go p.tables e below P (s₁.setTop (mkF m 109 #[.val (.int p0), .val (.int (p0 &&& (255 : Int32))), .val (.int (((p0.toUInt32 >>> ((8 : Int32) &&& 31).toUInt32).toInt32) &&& (255 : Int32))), .val (.int (((p0.toUInt32 >>> ((16 : Int32) &&& 31).toUInt32).toInt32) &&& (255 : Int32))), .val (.int (((p0.toUInt32 >>> ((24 : Int32) &&& 31).toUInt32).toInt32) &&& (3 : Int32))), .unset] [(.int (3 : Int32))]))
        obtain ⟨T41, h41, k41, X41, e41, E41, A41, st41⟩ := newP X0 hx hZ (hw _ (List.mem_of_getElem? (i := 10) rfl)) e0 (g := (mkF m 109 #[.val (.int p0), .val (.int (p0 &&& (255 : Int32))), .val (.int (((p0.toUInt32 >>> ((8 : Int32) &&& 31).toUInt32).toInt32) &&& (255 : Int32))), .val (.int (((p0.toUInt32 >>> ((16 : Int32) &&& 31).toUInt32).toInt32) &&& (255 : Int32))), .val (.int (((p0.toUInt32 >>> ((24 : Int32) &&& 31).toUInt32).toInt32) &&& (3 : Int32))), .unset] [(.int (3 : Int32))])) rfl (hb hby own_d_method_4_code_109) rfl (by decide) (cap := 3) (by decide) (by decide) (by decide) (by decide)
        obtain ⟨b41, g41⟩ : ∃ z, z = h0.size := ⟨_, rfl⟩
        rw [← g41] at A41 st41
        refine Go.st st41 ?_
        have g_b41 : n0 ≤ b41 := Nat.le_trans (own_oldsz X00) (Nat.le_of_eq g41.symm)
        have sz_b41 : h0.size ≤ b41 := Nat.le_trans (Keep.refl h0 []).1 (Nat.le_of_eq g41.symm)
        have K41 : Keep h0 h41 [] := (Keep.refl h0 []).ext E41
        have O41 := X00.ext E41
        have SF_b41 : Safe Z consts_1 s.vm h41 b41 := Safe.ext E41 CR0.1 (Safe.new (Nat.le_of_eq g41.symm))
        have CR41 := CR0.trans (CHr.ext E41 CR0.1)
        have V41 : Arv Z h41 b41 k41 .char (3 : Int32) [(.int (0 : Int32)), (.int (0 : Int32)), (.int (0 : Int32))] (.int (0 : Int32)) := (Arv.new A41 (by decide)).pad (pad_rep [] (.int (0 : Int32)) 3)
        show Go p.tables e below P (T41.setTop (mkF m 111 #[.val (.int p0), .val (.int (p0 &&& (255 : Int32))), .val (.int (((p0.toUInt32 >>> ((8 : Int32) &&& 31).toUInt32).toInt32) &&& (255 : Int32))), .val (.int (((p0.toUInt32 >>> ((16 : Int32) &&& 31).toUInt32).toInt32) &&& (255 : Int32))), .val (.int (((p0.toUInt32 >>> ((24 : Int32) &&& 31).toUInt32).toInt32) &&& (3 : Int32))), .unset] [(.ref b41)]))
        refine Go.st (fun _ => XS.astore X41.here hx rfl (hb hby own_d_method_4_code_111) rfl rfl (l' := #[.val (.int p0), .val (.int (p0 &&& (255 : Int32))), .val (.int (((p0.toUInt32 >>> ((8 : Int32) &&& 31).toUInt32).toInt32) &&& (255 : Int32))), .val (.int (((p0.toUInt32 >>> ((16 : Int32) &&& 31).toUInt32).toInt32) &&& (255 : Int32))), .val (.int (((p0.toUInt32 >>> ((24 : Int32) &&& 31).toUInt32).toInt32) &&& (3 : Int32))), .val (.ref b41)]) rfl) ?_
        show Go p.tables e below P (T41.setTop (mkF m 113 #[.val (.int p0), .val (.int (p0 &&& (255 : Int32))), .val (.int (((p0.toUInt32 >>> ((8 : Int32) &&& 31).toUInt32).toInt32) &&& (255 : Int32))), .val (.int (((p0.toUInt32 >>> ((16 : Int32) &&& 31).toUInt32).toInt32) &&& (255 : Int32))), .val (.int (((p0.toUInt32 >>> ((24 : Int32) &&& 31).toUInt32).toInt32) &&& (3 : Int32))), .val (.ref b41)] []))
        refine Go.st (fun _ => XS.aload X41.here hx rfl (hb hby own_d_method_4_code_113) rfl rfl) ?_
        show Go p.tables e below P (T41.setTop (mkF m 115 #[.val (.int p0), .val (.int (p0 &&& (255 : Int32))), .val (.int (((p0.toUInt32 >>> ((8 : Int32) &&& 31).toUInt32).toInt32) &&& (255 : Int32))), .val (.int (((p0.toUInt32 >>> ((16 : Int32) &&& 31).toUInt32).toInt32) &&& (255 : Int32))), .val (.int (((p0.toUInt32 >>> ((24 : Int32) &&& 31).toUInt32).toInt32) &&& (3 : Int32))), .val (.ref b41)] [(.ref b41)]))
        refine Go.st (fun _ => XS.iconst X41.here hx rfl (hb hby own_d_method_4_code_115)) ?_
        show Go p.tables e below P (T41.setTop (mkF m 116 #[.val (.int p0), .val (.int (p0 &&& (255 : Int32))), .val (.int (((p0.toUInt32 >>> ((8 : Int32) &&& 31).toUInt32).toInt32) &&& (255 : Int32))), .val (.int (((p0.toUInt32 >>> ((16 : Int32) &&& 31).toUInt32).toInt32) &&& (255 : Int32))), .val (.int (((p0.toUInt32 >>> ((24 : Int32) &&& 31).toUInt32).toInt32) &&& (3 : Int32))), .val (.ref b41)] [(.int (0 : Int32)), (.ref b41)]))
        refine Go.st (fun _ => XS.iloadN X41.here hx rfl (hb hby own_d_method_4_code_116) rfl) ?_
        show Go p.tables e below P (T41.setTop (mkF m 117 #[.val (.int p0), .val (.int (p0 &&& (255 : Int32))), .val (.int (((p0.toUInt32 >>> ((8 : Int32) &&& 31).toUInt32).toInt32) &&& (255 : Int32))), .val (.int (((p0.toUInt32 >>> ((16 : Int32) &&& 31).toUInt32).toInt32) &&& (255 : Int32))), .val (.int (((p0.toUInt32 >>> ((24 : Int32) &&& 31).toUInt32).toInt32) &&& (3 : Int32))), .val (.ref b41)] [(.int (p0 &&& (255 : Int32))), (.int (0 : Int32)), (.ref b41)]))
        obtain ⟨T42, h42, X42, e42, W42, V42, st42⟩ := own_stC X41 hx hZ e41 V41 (j := (0 : Int32)) (i := 0) (by decide) (by decide) (Nat.le_of_ble_eq_true rfl) (g := (mkF m 117 #[.val (.int p0), .val (.int (p0 &&& (255 : Int32))), .val (.int (((p0.toUInt32 >>> ((8 : Int32) &&& 31).toUInt32).toInt32) &&& (255 : Int32))), .val (.int (((p0.toUInt32 >>> ((16 : Int32) &&& 31).toUInt32).toInt32) &&& (255 : Int32))), .val (.int (((p0.toUInt32 >>> ((24 : Int32) &&& 31).toUInt32).toInt32) &&& (3 : Int32))), .val (.ref b41)] [(.int (p0 &&& (255 : Int32))), (.int (0 : Int32)), (.ref b41)])) rfl rfl (hb hby own_d_method_4_code_117)
        refine Go.st st42 ?_
        rw [show nar .char (p0 &&& (255 : Int32)) = (p0 &&& (255 : Int32)) from i2c_mask _] at V42
        have sf43 := Safe.wr W42 SF_b41 CR41.1 SF_b41
        have CR42 := CR41.trans (CHr.wr W42 SF_b41 CR41.1)
        have K42 : Keep h0 h42 [] := K41.wr W42 (Or.inr sz_b41)
        have O42 := O41.wr W42 g_b41
        have N42 := Fr.snoc X42 N0 g_b41
        have V42' : Arv Z h42 b41 k41 .char (3 : Int32) [(.int (p0 &&& (255 : Int32))), (.int (0 : Int32)), (.int (0 : Int32))] (.int (0 : Int32)) := V42
        show Go p.tables e below P (T42.setTop (mkF m 118 #[.val (.int p0), .val (.int (p0 &&& (255 : Int32))), .val (.int (((p0.toUInt32 >>> ((8 : Int32) &&& 31).toUInt32).toInt32) &&& (255 : Int32))), .val (.int (((p0.toUInt32 >>> ((16 : Int32) &&& 31).toUInt32).toInt32) &&& (255 : Int32))), .val (.int (((p0.toUInt32 >>> ((24 : Int32) &&& 31).toUInt32).toInt32) &&& (3 : Int32))), .val (.ref b41)] []))
        refine Go.st (fun _ => XS.aload X42.here hx rfl (hb hby own_d_method_4_code_118) rfl rfl) ?_
        show Go p.tables e below P (T42.setTop (mkF m 120 #[.val (.int p0), .val (.int (p0 &&& (255 : Int32))), .val (.int (((p0.toUInt32 >>> ((8 : Int32) &&& 31).toUInt32).toInt32) &&& (255 : Int32))), .val (.int (((p0.toUInt32 >>> ((16 : Int32) &&& 31).toUInt32).toInt32) &&& (255 : Int32))), .val (.int (((p0.toUInt32 >>> ((24 : Int32) &&& 31).toUInt32).toInt32) &&& (3 : Int32))), .val (.ref b41)] [(.ref b41)]))
        refine Go.st (fun _ => XS.iconst X42.here hx rfl (hb hby own_d_method_4_code_120)) ?_
        show Go p.tables e below P (T42.setTop (mkF m 121 #[.val (.int p0), .val (.int (p0 &&& (255 : Int32))), .val (.int (((p0.toUInt32 >>> ((8 : Int32) &&& 31).toUInt32).toInt32) &&& (255 : Int32))), .val (.int (((p0.toUInt32 >>> ((16 : Int32) &&& 31).toUInt32).toInt32) &&& (255 : Int32))), .val (.int (((p0.toUInt32 >>> ((24 : Int32) &&& 31).toUInt32).toInt32) &&& (3 : Int32))), .val (.ref b41)] [(.int (1 : Int32)), (.ref b41)]))
        refine Go.st (fun _ => XS.iloadN X42.here hx rfl (hb hby own_d_method_4_code_121) rfl) ?_
        show Go p.tables e below P (T42.setTop (mkF m 122 #[.val (.int p0), .val (.int (p0 &&& (255 : Int32))), .val (.int (((p0.toUInt32 >>> ((8 : Int32) &&& 31).toUInt32).toInt32) &&& (255 : Int32))), .val (.int (((p0.toUInt32 >>> ((16 : Int32) &&& 31).toUInt32).toInt32) &&& (255 : Int32))), .val (.int (((p0.toUInt32 >>> ((24 : Int32) &&& 31).toUInt32).toInt32) &&& (3 : Int32))), .val (.ref b41)] [(.int (((p0.toUInt32 >>> ((8 : Int32) &&& 31).toUInt32).toInt32) &&& (255 : Int32))), (.int (1 : Int32)), (.ref b41)]))
        obtain ⟨T44, h44, X44, e44, W44, V44, st44⟩ := own_stC X42 hx hZ e42 V42' (j := (1 : Int32)) (i := 1) (by decide) (by decide) (Nat.le_of_ble_eq_true rfl) (g := (mkF m 122 #[.val (.int p0), .val (.int (p0 &&& (255 : Int32))), .val (.int (((p0.toUInt32 >>> ((8 : Int32) &&& 31).toUInt32).toInt32) &&& (255 : Int32))), .val (.int (((p0.toUInt32 >>> ((16 : Int32) &&& 31).toUInt32).toInt32) &&& (255 : Int32))), .val (.int (((p0.toUInt32 >>> ((24 : Int32) &&& 31).toUInt32).toInt32) &&& (3 : Int32))), .val (.ref b41)] [(.int (((p0.toUInt32 >>> ((8 : Int32) &&& 31).toUInt32).toInt32) &&& (255 : Int32))), (.int (1 : Int32)), (.ref b41)])) rfl rfl (hb hby own_d_method_4_code_122)
        refine Go.st st44 ?_
        rw [show nar .char (((p0.toUInt32 >>> ((8 : Int32) &&& 31).toUInt32).toInt32) &&& (255 : Int32)) = (((p0.toUInt32 >>> ((8 : Int32) &&& 31).toUInt32).toInt32) &&& (255 : Int32)) from i2c_mask _] at V44
        have sf45 := Safe.wr W44 sf43 CR42.1 sf43
        have CR44 := CR42.trans (CHr.wr W44 sf43 CR42.1)
        have K44 : Keep h0 h44 [] := K42.wr W44 (Or.inr sz_b41)
        have O44 := O42.wr W44 g_b41
        have N44 := Fr.snoc X44 N42 g_b41
        have V44' : Arv Z h44 b41 k41 .char (3 : Int32) [(.int (p0 &&& (255 : Int32))), (.int (((p0.toUInt32 >>> ((8 : Int32) &&& 31).toUInt32).toInt32) &&& (255 : Int32))), (.int (0 : Int32))] (.int (0 : Int32)) := V44
        show Go p.tables e below P (T44.setTop (mkF m 123 #[.val (.int p0), .val (.int (p0 &&& (255 : Int32))), .val (.int (((p0.toUInt32 >>> ((8 : Int32) &&& 31).toUInt32).toInt32) &&& (255 : Int32))), .val (.int (((p0.toUInt32 >>> ((16 : Int32) &&& 31).toUInt32).toInt32) &&& (255 : Int32))), .val (.int (((p0.toUInt32 >>> ((24 : Int32) &&& 31).toUInt32).toInt32) &&& (3 : Int32))), .val (.ref b41)] []))
        refine Go.st (fun _ => XS.aload X44.here hx rfl (hb hby own_d_method_4_code_123) rfl rfl) ?_
        show Go p.tables e below P (T44.setTop (mkF m 125 #[.val (.int p0), .val (.int (p0 &&& (255 : Int32))), .val (.int (((p0.toUInt32 >>> ((8 : Int32) &&& 31).toUInt32).toInt32) &&& (255 : Int32))), .val (.int (((p0.toUInt32 >>> ((16 : Int32) &&& 31).toUInt32).toInt32) &&& (255 : Int32))), .val (.int (((p0.toUInt32 >>> ((24 : Int32) &&& 31).toUInt32).toInt32) &&& (3 : Int32))), .val (.ref b41)] [(.ref b41)]))
        refine Go.st (fun _ => XS.iconst X44.here hx rfl (hb hby own_d_method_4_code_125)) ?_
        show Go p.tables e below P (T44.setTop (mkF m 126 #[.val (.int p0), .val (.int (p0 &&& (255 : Int32))), .val (.int (((p0.toUInt32 >>> ((8 : Int32) &&& 31).toUInt32).toInt32) &&& (255 : Int32))), .val (.int (((p0.toUInt32 >>> ((16 : Int32) &&& 31).toUInt32).toInt32) &&& (255 : Int32))), .val (.int (((p0.toUInt32 >>> ((24 : Int32) &&& 31).toUInt32).toInt32) &&& (3 : Int32))), .val (.ref b41)] [(.int (2 : Int32)), (.ref b41)]))
        refine Go.st (fun _ => XS.iloadN X44.here hx rfl (hb hby own_d_method_4_code_126) rfl) ?_
        show Go p.tables e below P (T44.setTop (mkF m 127 #[.val (.int p0), .val (.int (p0 &&& (255 : Int32))), .val (.int (((p0.toUInt32 >>> ((8 : Int32) &&& 31).toUInt32).toInt32) &&& (255 : Int32))), .val (.int (((p0.toUInt32 >>> ((16 : Int32) &&& 31).toUInt32).toInt32) &&& (255 : Int32))), .val (.int (((p0.toUInt32 >>> ((24 : Int32) &&& 31).toUInt32).toInt32) &&& (3 : Int32))), .val (.ref b41)] [(.int (((p0.toUInt32 >>> ((16 : Int32) &&& 31).toUInt32).toInt32) &&& (255 : Int32))), (.int (2 : Int32)), (.ref b41)]))
        obtain ⟨T46, h46, X46, e46, W46, V46, st46⟩ := own_stC X44 hx hZ e44 V44' (j := (2 : Int32)) (i := 2) (by decide) (by decide) (Nat.le_of_ble_eq_true rfl) (g := (mkF m 127 #[.val (.int p0), .val (.int (p0 &&& (255 : Int32))), .val (.int (((p0.toUInt32 >>> ((8 : Int32) &&& 31).toUInt32).toInt32) &&& (255 : Int32))), .val (.int (((p0.toUInt32 >>> ((16 : Int32) &&& 31).toUInt32).toInt32) &&& (255 : Int32))), .val (.int (((p0.toUInt32 >>> ((24 : Int32) &&& 31).toUInt32).toInt32) &&& (3 : Int32))), .val (.ref b41)] [(.int (((p0.toUInt32 >>> ((16 : Int32) &&& 31).toUInt32).toInt32) &&& (255 : Int32))), (.int (2 : Int32)), (.ref b41)])) rfl rfl (hb hby own_d_method_4_code_127)
        refine Go.st st46 ?_
        rw [show nar .char (((p0.toUInt32 >>> ((16 : Int32) &&& 31).toUInt32).toInt32) &&& (255 : Int32)) = (((p0.toUInt32 >>> ((16 : Int32) &&& 31).toUInt32).toInt32) &&& (255 : Int32)) from i2c_mask _] at V46
        have sf47 := Safe.wr W46 sf45 CR44.1 sf45
        have CR46 := CR44.trans (CHr.wr W46 sf45 CR44.1)
        have K46 : Keep h0 h46 [] := K44.wr W46 (Or.inr sz_b41)
        have O46 := O44.wr W46 g_b41
        have N46 := Fr.snoc X46 N44 g_b41
        have V46' : Arv Z h46 b41 k41 .char (3 : Int32) [(.int (p0 &&& (255 : Int32))), (.int (((p0.toUInt32 >>> ((8 : Int32) &&& 31).toUInt32).toInt32) &&& (255 : Int32))), (.int (((p0.toUInt32 >>> ((16 : Int32) &&& 31).toUInt32).toInt32) &&& (255 : Int32)))] (.int (0 : Int32)) := V46
        show Go p.tables e below P (T46.setTop (mkF m 128 #[.val (.int p0), .val (.int (p0 &&& (255 : Int32))), .val (.int (((p0.toUInt32 >>> ((8 : Int32) &&& 31).toUInt32).toInt32) &&& (255 : Int32))), .val (.int (((p0.toUInt32 >>> ((16 : Int32) &&& 31).toUInt32).toInt32) &&& (255 : Int32))), .val (.int (((p0.toUInt32 >>> ((24 : Int32) &&& 31).toUInt32).toInt32) &&& (3 : Int32))), .val (.ref b41)] []))
        obtain ⟨T48, h48, X48, e48, E48, A48, D48, -, st48⟩ := newO X46 hx hZ hown (hw _ (List.mem_of_getElem? (i := 7) rfl)) (hw _ (List.mem_of_getElem? (i := 8) rfl)) (hw _ (List.mem_of_getElem? (i := 9) rfl)) e46 (g := (mkF m 128 #[.val (.int p0), .val (.int (p0 &&& (255 : Int32))), .val (.int (((p0.toUInt32 >>> ((8 : Int32) &&& 31).toUInt32).toInt32) &&& (255 : Int32))), .val (.int (((p0.toUInt32 >>> ((16 : Int32) &&& 31).toUInt32).toInt32) &&& (255 : Int32))), .val (.int (((p0.toUInt32 >>> ((24 : Int32) &&& 31).toUInt32).toInt32) &&& (3 : Int32))), .val (.ref b41)] [])) rfl (hb hby own_d_method_4_code_128) (by decide) (by decide)
        obtain ⟨b48, g48⟩ : ∃ z, z = h46.size := ⟨_, rfl⟩
        rw [← g48] at A48 D48 st48
        refine Go.st st48 ?_
        have g_b48 : n0 ≤ b48 := Nat.le_trans (own_oldsz O46) (Nat.le_of_eq g48.symm)
        have sz_b48 : h0.size ≤ b48 := Nat.le_trans K46.1 (Nat.le_of_eq g48.symm)
        have K48 : Keep h0 h48 [] := K46.ext E48
        have O48 := O46.ext E48
        have sf49 := Safe.ext E48 CR46.1 sf47
        have SF_b48 : Safe Z consts_1 s.vm h48 b48 := Safe.ext E48 CR46.1 (Safe.new (Nat.le_of_eq g48.symm))
        have CR48 := CR46.trans (CHr.ext E48 CR46.1)
        have F50 : Fld Z h48 b48 "java/lang/String" "value" "[B" .null := D48 (Or.inr (hw _ (List.mem_of_getElem? (i := 23) rfl))) (ty := (.array .byte)) (by decide)
        have F51 : Fld Z h48 b48 "java/lang/String" "coder" "B" (.int (0 : Int32)) := D48 (Or.inr (hw _ (List.mem_of_getElem? (i := 24) rfl))) (ty := .byte) (by decide)
        show Go p.tables e below P (T48.setTop (mkF m 131 #[.val (.int p0), .val (.int (p0 &&& (255 : Int32))), .val (.int (((p0.toUInt32 >>> ((8 : Int32) &&& 31).toUInt32).toInt32) &&& (255 : Int32))), .val (.int (((p0.toUInt32 >>> ((16 : Int32) &&& 31).toUInt32).toInt32) &&& (255 : Int32))), .val (.int (((p0.toUInt32 >>> ((24 : Int32) &&& 31).toUInt32).toInt32) &&& (3 : Int32))), .val (.ref b41)] [(.ref b48)]))
        refine Go.st (fun _ => XS.dup X48.here hx rfl (hb hby own_d_method_4_code_131) rfl rfl) ?_
        show Go p.tables e below P (T48.setTop (mkF m 132 #[.val (.int p0), .val (.int (p0 &&& (255 : Int32))), .val (.int (((p0.toUInt32 >>> ((8 : Int32) &&& 31).toUInt32).toInt32) &&& (255 : Int32))), .val (.int (((p0.toUInt32 >>> ((16 : Int32) &&& 31).toUInt32).toInt32) &&& (255 : Int32))), .val (.int (((p0.toUInt32 >>> ((24 : Int32) &&& 31).toUInt32).toInt32) &&& (3 : Int32))), .val (.ref b41)] [(.ref b48), (.ref b48)]))
        refine Go.st (fun _ => XS.aload X48.here hx rfl (hb hby own_d_method_4_code_132) rfl rfl) ?_
        show Go p.tables e below P (T48.setTop (mkF m 134 #[.val (.int p0), .val (.int (p0 &&& (255 : Int32))), .val (.int (((p0.toUInt32 >>> ((8 : Int32) &&& 31).toUInt32).toInt32) &&& (255 : Int32))), .val (.int (((p0.toUInt32 >>> ((16 : Int32) &&& 31).toUInt32).toInt32) &&& (255 : Int32))), .val (.int (((p0.toUInt32 >>> ((24 : Int32) &&& 31).toUInt32).toInt32) &&& (3 : Int32))), .val (.ref b41)] [(.ref b41), (.ref b48), (.ref b48)]))
        have c53 := (V46'.ext E48)
        have hp52 : ∀ c ∈ ([(p0 &&& (255 : Int32)), (((p0.toUInt32 >>> ((8 : Int32) &&& 31).toUInt32).toInt32) &&& (255 : Int32)), (((p0.toUInt32 >>> ((16 : Int32) &&& 31).toUInt32).toInt32) &&& (255 : Int32))] : List Int32), ¬ c < 0 ∧ ¬ (255 : Int32) < c := by
          intro c hc
          simp only [List.mem_cons, List.not_mem_nil, or_false] at hc
          rcases hc with rfl | rfl | rfl
          · exact own_and255 _
          · exact own_and255 _
          · exact own_and255 _
        obtain ⟨_, _, ⟨T52, L52, k52, n52⟩, -, X52, ⟨Lc52, hQ52, l52, y52, z52⟩, st52⟩ := X48.specialBack hx (y := (⟨"java/lang/String", "<init>", "([C)V"⟩ : MethodName)) rfl hown (mvT hZ (hw _ (List.mem_of_getElem? (i := 11) rfl))) (mvT hZ (hw _ (List.mem_of_getElem? (i := 12) rfl))) (mvT hZ (hw _ (List.mem_of_getElem? (i := 13) rfl))) (by decide) (StrChars.Road.backV (W := 1) hZ (fun d hd => hw d (own_wNew d hd)) (kI := 4) (hw _ (List.mem_of_getElem? (i := 8) rfl)) (cs := ([(p0 &&& (255 : Int32)), (((p0.toUInt32 >>> ((8 : Int32) &&& 31).toUInt32).toInt32) &&& (255 : Int32)), (((p0.toUInt32 >>> ((16 : Int32) &&& 31).toUInt32).toInt32) &&& (255 : Int32))] : List Int32)) (bs := (([(p0 &&& (255 : Int32)), (((p0.toUInt32 >>> ((8 : Int32) &&& 31).toUInt32).toInt32) &&& (255 : Int32)), (((p0.toUInt32 >>> ((16 : Int32) &&& 31).toUInt32).toInt32) &&& (255 : Int32))] : List Int32)).map (fun c => c.toInt8.toInt32)) (n := 3) g_b48 (own_oldsz O48) A48 F50 F51 c53 (S_CS.ext O48.2) nz_CS rfl rfl (by decide) (by decide) hp52 rfl (by decide) (by decide)) (g := (mkF m 134 #[.val (.int p0), .val (.int (p0 &&& (255 : Int32))), .val (.int (((p0.toUInt32 >>> ((8 : Int32) &&& 31).toUInt32).toInt32) &&& (255 : Int32))), .val (.int (((p0.toUInt32 >>> ((16 : Int32) &&& 31).toUInt32).toInt32) &&& (255 : Int32))), .val (.int (((p0.toUInt32 >>> ((24 : Int32) &&& 31).toUInt32).toInt32) &&& (3 : Int32))), .val (.ref b41)] [(.ref b41), (.ref b48), (.ref b48)])) rfl (by rw [hml]; rfl) (Steps.refl _) (a := b48) (argsL := [(.ref b41)]) (rest := [(.ref b48)]) (lenOf own_pd1 rfl) rfl (by show 2 * 0 + _ ≤ _; exact Nat.le_of_eq rfl) (hb hby own_d_method_4_code_134) (fun _ _ => ⟨rfl, e48, (by decide : 2 + 1 ≤ _), (by decide : 7 + 3 ≤ _)⟩)
        dsimp only [Pt.U, Pt.locs, Pt.cells, Pt.slots] at X52 l52 y52 z52 st52 hQ52
        subst l52 y52 z52
        refine Go.tr st52 ?_
        obtain ⟨rfl, N52q, K52q, E52x, C52x, t52, kb52, gt52, szt52, net52, V52x, A52x⟩ := hQ52
        have N52 := Fr.app N46 N52q
        have O52 := O48.keep K52q (allS g_b48 all0)
        have K52 : Keep h0 T52.heap [] := K48.trans K52q (allS (Or.inr sz_b48) all0)
        have sf54 := Safe.keep K52q (sfS SF_b48 sf0) CR48.1 sf49
        have sf55 := Safe.keep K52q (sfS SF_b48 sf0) CR48.1 SF_b48
        have CR52 := CR48.trans (CHr.keep K52q (sfS SF_b48 sf0) CR48.1)
        have sz_t52 : h0.size ≤ t52 := Nat.le_trans K48.1 szt52
        show Go p.tables e below P (T52.setTop (mkF m 137 #[.val (.int p0), .val (.int (p0 &&& (255 : Int32))), .val (.int (((p0.toUInt32 >>> ((8 : Int32) &&& 31).toUInt32).toInt32) &&& (255 : Int32))), .val (.int (((p0.toUInt32 >>> ((16 : Int32) &&& 31).toUInt32).toInt32) &&& (255 : Int32))), .val (.int (((p0.toUInt32 >>> ((24 : Int32) &&& 31).toUInt32).toInt32) &&& (3 : Int32))), .val (.ref b41)] [(.ref b48)]))
        obtain ⟨fs, hr, hrun, hended, -, hW, hpair, hsame⟩ := X52.leaveW hS0 (Nat.le_trans (Nat.le_trans (Nat.le_trans (Nat.le_trans (Nat.le_trans (Nat.le_trans hk0 E41.1) (Keep.of_wr W42).1) (Keep.of_wr W44).1) (Keep.of_wr W46).1) E48.1) K52q.1) (v := some (.ref b48)) (fun h => by rw [Bd.returns] at h; cases h)
        have hCRe := CR52.trans (CHv.at X52 hZ hEL CR52.1)
        refine ⟨_, ?_, hPend _ _ hrun hended ⟨_, _, rfl, ?_, ?_, ⟨_, rfl⟩, hW, hpair, hsame.mono (by decide) (by decide)⟩⟩
        · exact retOut X52 hx (t := (.object "java/lang/String")) Bd.returns rfl (Or.inr (Or.inr (Or.inr (Or.inr ⟨rfl, rfl, rfl⟩)))) (hb hby own_d_method_4_code_137) hr
        · show Q_rm_str Z _ _ _ _ _ _ h0 n0 _ T52.heap _
          exact ⟨b48, rfl, N52, K52, sz_b48, E52x⟩
        · show CHr Z consts_1 s.vm s.heap T52.vm T52.heap
          rw [hh]
          exact hCRe
theorem own_ef_rm_eqs (m : MethodId) (x0 : Addr) (x1 : Addr) : entryFrame m #[(.ref x0), (.ref x1)] 3 = mkF m 0 #[.val (.ref x0), .val (.ref x1), .unset] [] := by first | (simp [entryFrame, mkF, argsToLocals, Value.category]; done) | rfl
theorem own_d_jdk_42_method_66_code_0 : decode jdk_42_method_66_code 0 = .ok (.aload_n 0, 1) := by decide +kernel
theorem own_d_jdk_42_method_66_code_1 : decode jdk_42_method_66_code 1 = .ok (.aload_n 1, 1) := by decide +kernel
theorem own_d_jdk_42_method_66_code_2 : decode jdk_42_method_66_code 2 = .ok (.if_acmp .ne 5, 3) := by decide +kernel
theorem own_d_jdk_42_method_66_code_5 : decode jdk_42_method_66_code 5 = .ok (.iconst 1, 1) := by decide +kernel
theorem own_d_jdk_42_method_66_code_6 : decode jdk_42_method_66_code 6 = .ok (.ireturn, 1) := by decide +kernel
def Q_rm_eqs (Z : State) (w_A : Addr) (w_B : Addr) (w_C : Addr) (w_D : Addr) (g_CS : Int32) (p0 : Addr) (h0 : Heap) (n0 : Nat) (v : Option Value) (h : Heap) (L : List Loc) : Prop := v = some (.int (1 : Int32)) ∧ Fr n0 L ∧ h = h0
set_option maxRecDepth 65536 in
set_option maxHeartbeats 40000000 in
theorem rm_eqs (l : Launch) (Z : State) (a0 : Array Value) (hw : ∀ d ∈ tables_1, d.before a0 Z = true) (ws : List Jvm.Cond) (w_A : Addr) (S_A : Sta Z Z.heap "com/example/crisp_fixture/crispfixture/dialect/Dialect$Content" "BY_CODE" "Lcom/example/crisp_fixture/crispfixture/dialect/Dialect$Content;" (.ref w_A)) (X_A : Exa Z Z.heap w_A "com/example/crisp_fixture/crispfixture/dialect/Dialect$Content") (w_B : Addr) (S_B : Sta Z Z.heap "com/example/crisp_fixture/crispfixture/dialect/Dialect$Content" "JSON_MEMBERS_IN_ORDER" "Lcom/example/crisp_fixture/crispfixture/dialect/Dialect$Content;" (.ref w_B)) (X_B : Exa Z Z.heap w_B "com/example/crisp_fixture/crispfixture/dialect/Dialect$Content") (w_C : Addr) (S_C : Sta Z Z.heap "com/example/crisp_fixture/crispfixture/dialect/Dialect$Content" "JSON_MEMBERS_BY_NAME" "Lcom/example/crisp_fixture/crispfixture/dialect/Dialect$Content;" (.ref w_C)) (X_C : Exa Z Z.heap w_C "com/example/crisp_fixture/crispfixture/dialect/Dialect$Content") (w_D : Addr) (S_D : Sta Z Z.heap "com/example/crisp_fixture/crispfixture/dialect/Dialect$Content" "UUID" "Lcom/example/crisp_fixture/crispfixture/dialect/Dialect$Content;" (.ref w_D)) (X_D : Exa Z Z.heap w_D "com/example/crisp_fixture/crispfixture/dialect/Dialect$Content") (g_CS : Int32) (S_CS : Sta Z Z.heap "java/lang/String" "COMPACT_STRINGS" "Z" (.int g_CS)) (nz_CS : ¬ (g_CS = (0 : Int32))) (p0 : Addr) (h0 : Heap) (n0 : Nat) (X00 : Old Z n0 h0)  :
    MetFree l (⟨"java/lang/String", "equals", "(Ljava/lang/Object;)Z"⟩ : MethodName) (head1 (Jvm.Cond.code (⟨"java/lang/String", "equals", "(Ljava/lang/Object;)Z"⟩ : MethodName) jdk_42_method_66_code 3 (some .boolean) :: ws) ({ frames := 0, cells := 0, slots := 0, locals := 0 } : Room)) (fun a U => a = #[(.ref p0), (.ref p0)] ∧ Z.Warmed39 U.vm ∧ U.heap = h0) (fun _ _ _ _ _ => True) (fun _ U o U' => ∃ v L, o = .returned v ∧ Q_rm_eqs Z w_A w_B w_C w_D g_CS p0 h0 n0 v U'.heap L ∧ FrameEnd U o U' L ({ frames := 0, cells := 0, slots := 0, locals := 0 } : Room).cells ({ frames := 0, cells := 0, slots := 0, locals := 0 } : Room).slots) := by
  refine MetFree.of_bodySF (plainFor_of_name own_pn2) hisR ?_
  intro p e s m args below meth c s₁ Bd hml0 hP hK
  obtain ⟨rfl, hZ, hh⟩ := hP
  have hx := Bd.exec
  have hby := Bd.bytes
  have hml : c.maxLocals = 3 := hml0
  have hown : s.vm.findClass "java/lang/String" = some m.cls := findClass_of_methodNamed Bd.named
  have hnm := (name_of_methodNamed Bd.named Bd.method).1
  have X0 : Stand p l e ({ frames := 0, cells := 0, slots := 0, locals := 0 } : Room) s m #[(.ref p0), (.ref p0)] below meth c s₁ [] 0 0 := Stand.of_body Bd
  have e0 : s₁.heap = h0 := by rw [← hh, Bd.state]; rfl
  have N0 := Fr.nil n0
  refine Go.start fun P hPend => ?_
  refine Go.st (fun _ k => castTop (own_ef_rm_eqs m p0 p0) k) ?_
  show Go p.tables e below P (s₁.setTop (mkF m 0 #[.val (.ref p0), .val (.ref p0), .unset] []))
  refine Go.st (fun _ => XS.aloadN X0.here hx rfl (hb hby own_d_jdk_42_method_66_code_0) rfl rfl) ?_
  show Go p.tables e below P (s₁.setTop (mkF m 1 #[.val (.ref p0), .val (.ref p0), .unset] [(.ref p0)]))
  refine Go.st (fun _ => XS.aloadN X0.here hx rfl (hb hby own_d_jdk_42_method_66_code_1) rfl rfl) ?_
  show Go p.tables e below P (s₁.setTop (mkF m 2 #[.val (.ref p0), .val (.ref p0), .unset] [(.ref p0), (.ref p0)]))
  refine Go.st (fun _ => Jvm.RoadKit.acmp (g := (mkF m 2 #[.val (.ref p0), .val (.ref p0), .unset] [(.ref p0), (.ref p0)])) X0 hx rfl rfl rfl (pc0 := 2) (pc' := 5) (same := true) rfl (hb hby own_d_jdk_42_method_66_code_2) rfl (decide_eq_true rfl) (by decide) (by decide)) ?_
  show Go p.tables e below P (s₁.setTop (mkF m 5 #[.val (.ref p0), .val (.ref p0), .unset] []))
  refine Go.st (fun _ => XS.iconst X0.here hx rfl (hb hby own_d_jdk_42_method_66_code_5)) ?_
  show Go p.tables e below P (s₁.setTop (mkF m 6 #[.val (.ref p0), .val (.ref p0), .unset] [(.int (1 : Int32))]))
  obtain ⟨fs, hr, hrun, hended, hW, hsame⟩ := X0.leave (v := some (.int (1 : Int32))) (fun h => by rw [Bd.returns] at h; cases h)
  refine ⟨_, ?_, hPend _ _ hrun hended ⟨_, _, rfl, ?_, ⟨_, rfl⟩, hW, hsame.mono (by decide) (by decide)⟩⟩
  · exact retN X0 hx (t := .boolean) Bd.returns (by simp) (hb hby own_d_jdk_42_method_66_code_6) hr
  · show Q_rm_eqs Z _ _ _ _ _ _ h0 n0 _ s₁.heap _
    rw [e0]
    exact ⟨rfl, N0, rfl⟩
theorem own_ef_rm_same (m : MethodId) (x0 : Value) (x1 : Value) (hx0 : x0.isRef = true) (hx1 : x1.isRef = true) : entryFrame m #[x0, x1] 2 = mkF m 0 #[.val x0, .val x1] [] := by rcases own_refcase hx0 with rfl | ⟨_, rfl⟩ <;> rcases own_refcase hx1 with rfl | ⟨_, rfl⟩ <;> rfl
theorem own_d_method_3_code_0 : decode method_3_code 0 = .ok (.aload_n 0, 1) := by decide +kernel
theorem own_d_method_3_code_1 : decode method_3_code 1 = .ok (.ifnonnull 13, 3) := by decide +kernel
theorem own_d_method_3_code_4 : decode method_3_code 4 = .ok (.aload_n 1, 1) := by decide +kernel
theorem own_d_method_3_code_5 : decode method_3_code 5 = .ok (.ifnonnull 7, 3) := by decide +kernel
theorem own_d_method_3_code_8 : decode method_3_code 8 = .ok (.iconst 1, 1) := by decide +kernel
theorem own_d_method_3_code_9 : decode method_3_code 9 = .ok (.goto 4, 3) := by decide +kernel
theorem own_d_method_3_code_13 : decode method_3_code 13 = .ok (.ireturn, 1) := by decide +kernel
theorem own_d_method_3_code_14 : decode method_3_code 14 = .ok (.aload_n 1, 1) := by decide +kernel
theorem own_d_method_3_code_15 : decode method_3_code 15 = .ok (.ifnull 15, 3) := by decide +kernel
theorem own_d_method_3_code_18 : decode method_3_code 18 = .ok (.aload_n 0, 1) := by decide +kernel
theorem own_d_method_3_code_19 : decode method_3_code 19 = .ok (.aload_n 1, 1) := by decide +kernel
theorem own_d_method_3_code_20 : decode method_3_code 20 = .ok (.invokevirtual 59, 3) := by decide +kernel
theorem own_pd2 : parseMethodDescriptor "(Ljava/lang/Object;)Z" = some ⟨[(.object "java/lang/Object")], some .boolean⟩ := by decide +kernel
theorem own_d_method_3_code_23 : decode method_3_code 23 = .ok (.ifCond .eq 7, 3) := by decide +kernel
theorem own_d_method_3_code_26 : decode method_3_code 26 = .ok (.iconst 1, 1) := by decide +kernel
theorem own_d_method_3_code_27 : decode method_3_code 27 = .ok (.goto 4, 3) := by decide +kernel
theorem own_d_method_3_code_31 : decode method_3_code 31 = .ok (.ireturn, 1) := by decide +kernel
def Q_rm_same (Z : State) (w_A : Addr) (w_B : Addr) (w_C : Addr) (w_D : Addr) (g_CS : Int32) (p0 : Value) (h0 : Heap) (n0 : Nat) (v : Option Value) (h : Heap) (L : List Loc) : Prop := v = some (.int (1 : Int32)) ∧ Fr n0 L ∧ h = h0
set_option maxRecDepth 65536 in
set_option maxHeartbeats 40000000 in
theorem rm_same (l : Launch) (Z : State) (a0 : Array Value) (hw : ∀ d ∈ tables_1, d.before a0 Z = true) (ws : List Jvm.Cond) (w_A : Addr) (S_A : Sta Z Z.heap "com/example/crisp_fixture/crispfixture/dialect/Dialect$Content" "BY_CODE" "Lcom/example/crisp_fixture/crispfixture/dialect/Dialect$Content;" (.ref w_A)) (X_A : Exa Z Z.heap w_A "com/example/crisp_fixture/crispfixture/dialect/Dialect$Content") (w_B : Addr) (S_B : Sta Z Z.heap "com/example/crisp_fixture/crispfixture/dialect/Dialect$Content" "JSON_MEMBERS_IN_ORDER" "Lcom/example/crisp_fixture/crispfixture/dialect/Dialect$Content;" (.ref w_B)) (X_B : Exa Z Z.heap w_B "com/example/crisp_fixture/crispfixture/dialect/Dialect$Content") (w_C : Addr) (S_C : Sta Z Z.heap "com/example/crisp_fixture/crispfixture/dialect/Dialect$Content" "JSON_MEMBERS_BY_NAME" "Lcom/example/crisp_fixture/crispfixture/dialect/Dialect$Content;" (.ref w_C)) (X_C : Exa Z Z.heap w_C "com/example/crisp_fixture/crispfixture/dialect/Dialect$Content") (w_D : Addr) (S_D : Sta Z Z.heap "com/example/crisp_fixture/crispfixture/dialect/Dialect$Content" "UUID" "Lcom/example/crisp_fixture/crispfixture/dialect/Dialect$Content;" (.ref w_D)) (X_D : Exa Z Z.heap w_D "com/example/crisp_fixture/crispfixture/dialect/Dialect$Content") (g_CS : Int32) (S_CS : Sta Z Z.heap "java/lang/String" "COMPACT_STRINGS" "Z" (.int g_CS)) (nz_CS : ¬ (g_CS = (0 : Int32))) (p0 : Value) (h0 : Heap) (n0 : Nat) (X00 : Old Z n0 h0) (hp0 : own_SQ Z h0 p0) :
    MetFree l (⟨"com/example/crisp_fixture/crispfixture/dialect/ColumnTypeWithBaseNamePinLaw", "same", "(Ljava/lang/String;Ljava/lang/String;)Z"⟩ : MethodName) (head1 (Jvm.Cond.code (⟨"com/example/crisp_fixture/crispfixture/dialect/ColumnTypeWithBaseNamePinLaw", "same", "(Ljava/lang/String;Ljava/lang/String;)Z"⟩ : MethodName) method_3_code 2 (some .boolean) :: ws) ({ frames := 1, cells := 0, slots := 0, locals := 14 } : Room)) (fun a U => a = #[p0, p0] ∧ Z.Warmed39 U.vm ∧ U.heap = h0) (fun _ _ _ _ _ => True) (fun _ U o U' => ∃ v L, o = .returned v ∧ Q_rm_same Z w_A w_B w_C w_D g_CS p0 h0 n0 v U'.heap L ∧ FrameEnd U o U' L ({ frames := 1, cells := 0, slots := 0, locals := 14 } : Room).cells ({ frames := 1, cells := 0, slots := 0, locals := 14 } : Room).slots) := by
  refine MetFree.of_bodySF (plainFor_of_name own_pn3) hisR ?_
  intro p e s m args below meth c s₁ Bd hml0 hP hK
  obtain ⟨rfl, hZ, hh⟩ := hP
  have hx := Bd.exec
  have hby := Bd.bytes
  have hml : c.maxLocals = 2 := hml0
  have hown : s.vm.findClass "com/example/crisp_fixture/crispfixture/dialect/ColumnTypeWithBaseNamePinLaw" = some m.cls := findClass_of_methodNamed Bd.named
  have hnm := (name_of_methodNamed Bd.named Bd.method).1
  have X0 : Stand p l e ({ frames := 1, cells := 0, slots := 0, locals := 14 } : Room) s m #[p0, p0] below meth c s₁ [] 0 0 := Stand.of_body Bd
  have e0 : s₁.heap = h0 := by rw [← hh, Bd.state]; rfl
  have N0 := Fr.nil n0
  refine Go.start fun P hPend => ?_
  refine Go.st (fun _ k => castTop (own_ef_rm_same m p0 p0 (own_SQ.ref hp0) (own_SQ.ref hp0)) k) ?_
  show Go p.tables e below P (s₁.setTop (mkF m 0 #[.val p0, .val p0] []))
  rcases hp0 with rfl | ⟨pa, rfl, hpa⟩
  · skip
    show Go p.tables e below P (s₁.setTop (mkF m 0 #[.val .null, .val .null] []))
    refine Go.st (fun _ => XS.aloadN X0.here hx rfl (hb hby own_d_method_3_code_0) rfl rfl) ?_
    show Go p.tables e below P (s₁.setTop (mkF m 1 #[.val .null, .val .null] [.null]))
    refine Go.st (fun _ => XS.ifnonnullNo X0.here hx rfl (hb hby own_d_method_3_code_1) rfl) ?_
    show Go p.tables e below P (s₁.setTop (mkF m 4 #[.val .null, .val .null] []))
    refine Go.st (fun _ => XS.aloadN X0.here hx rfl (hb hby own_d_method_3_code_4) rfl rfl) ?_
    show Go p.tables e below P (s₁.setTop (mkF m 5 #[.val .null, .val .null] [.null]))
    refine Go.st (fun _ => XS.ifnonnullNo X0.here hx rfl (hb hby own_d_method_3_code_5) rfl) ?_
    show Go p.tables e below P (s₁.setTop (mkF m 8 #[.val .null, .val .null] []))
    refine Go.st (fun _ => XS.iconst X0.here hx rfl (hb hby own_d_method_3_code_8)) ?_
    show Go p.tables e below P (s₁.setTop (mkF m 9 #[.val .null, .val .null] [(.int (1 : Int32))]))
    refine Go.st (fun _ => XS.goto X0.here hx rfl (pc0 := 9) (pc' := 13) rfl (hb hby own_d_method_3_code_9) (by decide) (by decide)) ?_
    show Go p.tables e below P (s₁.setTop (mkF m 13 #[.val .null, .val .null] [(.int (1 : Int32))]))
    obtain ⟨fs, hr, hrun, hended, hW, hsame⟩ := X0.leave (v := some (.int (1 : Int32))) (fun h => by rw [Bd.returns] at h; cases h)
    refine ⟨_, ?_, hPend _ _ hrun hended ⟨_, _, rfl, ?_, ⟨_, rfl⟩, hW, hsame.mono (by decide) (by decide)⟩⟩
    · exact retN X0 hx (t := .boolean) Bd.returns (by simp) (hb hby own_d_method_3_code_13) hr
    · show Q_rm_same Z _ _ _ _ _ _ h0 n0 _ s₁.heap _
      rw [e0]
      exact ⟨rfl, N0, rfl⟩
  · skip
    show Go p.tables e below P (s₁.setTop (mkF m 0 #[.val (.ref pa), .val (.ref pa)] []))
    refine Go.st (fun _ => XS.aloadN X0.here hx rfl (hb hby own_d_method_3_code_0) rfl rfl) ?_
    show Go p.tables e below P (s₁.setTop (mkF m 1 #[.val (.ref pa), .val (.ref pa)] [(.ref pa)]))
    refine Go.st (fun _ => XS.ifnonnullYes X0.here hx rfl (pc0 := 1) (pc' := 14) rfl (hb hby own_d_method_3_code_1) rfl (by decide) (by decide)) ?_
    show Go p.tables e below P (s₁.setTop (mkF m 14 #[.val (.ref pa), .val (.ref pa)] []))
    refine Go.st (fun _ => XS.aloadN X0.here hx rfl (hb hby own_d_method_3_code_14) rfl rfl) ?_
    show Go p.tables e below P (s₁.setTop (mkF m 15 #[.val (.ref pa), .val (.ref pa)] [(.ref pa)]))
    refine Go.st (fun _ => XS.ifnullNo X0.here hx rfl (hb hby own_d_method_3_code_15) rfl) ?_
    show Go p.tables e below P (s₁.setTop (mkF m 18 #[.val (.ref pa), .val (.ref pa)] []))
    refine Go.st (fun _ => XS.aloadN X0.here hx rfl (hb hby own_d_method_3_code_18) rfl rfl) ?_
    show Go p.tables e below P (s₁.setTop (mkF m 19 #[.val (.ref pa), .val (.ref pa)] [(.ref pa)]))
    refine Go.st (fun _ => XS.aloadN X0.here hx rfl (hb hby own_d_method_3_code_19) rfl rfl) ?_
    show Go p.tables e below P (s₁.setTop (mkF m 20 #[.val (.ref pa), .val (.ref pa)] [(.ref pa), (.ref pa)]))
    obtain ⟨cq1, kq1, q1a, q1b, q1c⟩ := isOf hZ e0 hpa
    obtain ⟨_, _, ⟨T1, L1, k1, n1⟩, -, X1, ⟨Lc1, hQ1, l1, y1, z1⟩, st1⟩ := X0.virtualBack hx (y := (⟨"java/lang/String", "equals", "(Ljava/lang/Object;)Z"⟩ : MethodName)) (z := (⟨"java/lang/String", "equals", "(Ljava/lang/Object;)Z"⟩ : MethodName)) hown (mvT hZ (hw _ (List.mem_of_getElem? (i := 76) rfl))) (mvT hZ (hw _ (List.mem_of_getElem? (i := 77) rfl))) (notFace_of_selects (args := #[]) (mvT hZ (hw _ (List.mem_of_getElem? (i := 79) rfl)))) (mvT hZ (hw _ (List.mem_of_getElem? (i := 79) rfl))) (mvT hZ (hw _ (List.mem_of_getElem? (i := 78) rfl))) (by decide) (backOf (W := 0) (rm_eqs l Z a0 hw [] w_A S_A X_A w_B S_B X_B w_C S_C X_C w_D S_D X_D g_CS S_CS nz_CS pa h0 n0 X00 ) hZ (hw _ (List.mem_of_getElem? (i := 80) rfl)) (hw _ (List.mem_of_getElem? (i := 9) rfl)) (by decide) (by decide)) q1a q1c (g := (mkF m 20 #[.val (.ref pa), .val (.ref pa)] [(.ref pa), (.ref pa)])) rfl (by rw [hml]; rfl) (Steps.refl _) (argsL := [(.ref pa)]) (rest := []) (lenOf own_pd2 rfl) rfl (by show 2 * 0 + _ ≤ _; exact Nat.le_of_eq rfl) (hb hby own_d_method_3_code_20) (fun _ _ => ⟨rfl, e0, (by decide : 0 + 0 ≤ _), (by decide : 0 + 0 ≤ _)⟩)
    dsimp only [Pt.U, Pt.locs, Pt.cells, Pt.slots] at X1 l1 y1 z1 st1 hQ1
    subst l1 y1 z1
    refine Go.tr st1 ?_
    obtain ⟨rfl, N1q, e1⟩ := hQ1
    have N1 := Fr.app N0 N1q
    show Go p.tables e below P (T1.setTop (mkF m 23 #[.val (.ref pa), .val (.ref pa)] [(.int (1 : Int32))]))
    refine Go.st (fun _ => XS.ifNo X1.here hx rfl (hb hby own_d_method_3_code_23) rfl ((if0 _ _).trans (feq (by decide)).1)) ?_
    show Go p.tables e below P (T1.setTop (mkF m 26 #[.val (.ref pa), .val (.ref pa)] []))
    refine Go.st (fun _ => XS.iconst X1.here hx rfl (hb hby own_d_method_3_code_26)) ?_
    show Go p.tables e below P (T1.setTop (mkF m 27 #[.val (.ref pa), .val (.ref pa)] [(.int (1 : Int32))]))
    refine Go.st (fun _ => XS.goto X1.here hx rfl (pc0 := 27) (pc' := 31) rfl (hb hby own_d_method_3_code_27) (by decide) (by decide)) ?_
    show Go p.tables e below P (T1.setTop (mkF m 31 #[.val (.ref pa), .val (.ref pa)] [(.int (1 : Int32))]))
    obtain ⟨fs, hr, hrun, hended, hW, hsame⟩ := X1.leave (v := some (.int (1 : Int32))) (fun h => by rw [Bd.returns] at h; cases h)
    refine ⟨_, ?_, hPend _ _ hrun hended ⟨_, _, rfl, ?_, ⟨_, rfl⟩, hW, hsame.mono (by decide) (by decide)⟩⟩
    · exact retN X1 hx (t := .boolean) Bd.returns (by simp) (hb hby own_d_method_3_code_31) hr
    · show Q_rm_same Z _ _ _ _ _ _ h0 n0 _ T1.heap _
      rw [e1]
      exact ⟨rfl, N1, rfl⟩
theorem own_ef_rm_ini (m : MethodId) (x0 : Addr) (x1 : Int32) (x2 : Value) (x3 : Int32) (x4 : Value) (x5 : Addr) (hx2 : x2.isRef = true) (hx4 : x4.isRef = true) : entryFrame m #[(.ref x0), (.int x1), x2, (.int x3), x4, (.ref x5)] 6 = mkF m 0 #[.val (.ref x0), .val (.int x1), .val x2, .val (.int x3), .val x4, .val (.ref x5)] [] := by rcases own_refcase hx2 with rfl | ⟨_, rfl⟩ <;> rcases own_refcase hx4 with rfl | ⟨_, rfl⟩ <;> rfl
theorem own_pn4 : plainName "com/example/crisp_fixture/crispfixture/dialect/Dialect$ColumnType" = true := by first | (simp [plainName, overriddenIn]; done) | decide +kernel
theorem own_d_prog_51_method_1_code_0 : decode prog_51_method_1_code 0 = .ok (.aload_n 0, 1) := by decide +kernel
theorem own_d_prog_51_method_1_code_1 : decode prog_51_method_1_code 1 = .ok (.invokespecial 1, 3) := by decide +kernel
theorem own_pd3 : parseMethodDescriptor "()V" = some ⟨[], none⟩ := by decide +kernel
theorem own_d_prog_51_method_1_code_4 : decode prog_51_method_1_code 4 = .ok (.aload 5, 2) := by decide +kernel
theorem own_d_prog_51_method_1_code_6 : decode prog_51_method_1_code 6 = .ok (.ldc 7, 2) := by decide +kernel
theorem own_d_prog_51_method_1_code_8 : decode prog_51_method_1_code 8 = .ok (.invokestatic 9, 3) := by decide +kernel
theorem own_pd4 : parseMethodDescriptor "(Ljava/lang/Object;Ljava/lang/String;)Ljava/lang/Object;" = some ⟨[(.object "java/lang/Object"), (.object "java/lang/String")], some (.object "java/lang/Object")⟩ := by decide +kernel
theorem own_d_prog_51_method_1_code_11 : decode prog_51_method_1_code 11 = .ok (.pop, 1) := by decide +kernel
theorem own_d_prog_51_method_1_code_12 : decode prog_51_method_1_code 12 = .ok (.aload_n 0, 1) := by decide +kernel
theorem own_d_prog_51_method_1_code_13 : decode prog_51_method_1_code 13 = .ok (.iload_n 1, 1) := by decide +kernel
theorem own_d_prog_51_method_1_code_14 : decode prog_51_method_1_code 14 = .ok (.putfield 15, 3) := by decide +kernel
theorem own_d_prog_51_method_1_code_17 : decode prog_51_method_1_code 17 = .ok (.aload_n 0, 1) := by decide +kernel
theorem own_d_prog_51_method_1_code_18 : decode prog_51_method_1_code 18 = .ok (.aload_n 2, 1) := by decide +kernel
theorem own_d_prog_51_method_1_code_19 : decode prog_51_method_1_code 19 = .ok (.putfield 21, 3) := by decide +kernel
theorem own_d_prog_51_method_1_code_22 : decode prog_51_method_1_code 22 = .ok (.aload_n 0, 1) := by decide +kernel
theorem own_d_prog_51_method_1_code_23 : decode prog_51_method_1_code 23 = .ok (.iload_n 3, 1) := by decide +kernel
theorem own_d_prog_51_method_1_code_24 : decode prog_51_method_1_code 24 = .ok (.putfield 25, 3) := by decide +kernel
theorem own_d_prog_51_method_1_code_27 : decode prog_51_method_1_code 27 = .ok (.aload_n 0, 1) := by decide +kernel
theorem own_d_prog_51_method_1_code_28 : decode prog_51_method_1_code 28 = .ok (.aload 4, 2) := by decide +kernel
theorem own_d_prog_51_method_1_code_30 : decode prog_51_method_1_code 30 = .ok (.putfield 28, 3) := by decide +kernel
theorem own_d_prog_51_method_1_code_33 : decode prog_51_method_1_code 33 = .ok (.aload_n 0, 1) := by decide +kernel
theorem own_d_prog_51_method_1_code_34 : decode prog_51_method_1_code 34 = .ok (.aload 5, 2) := by decide +kernel
theorem own_d_prog_51_method_1_code_36 : decode prog_51_method_1_code 36 = .ok (.putfield 31, 3) := by decide +kernel
theorem own_d_prog_51_method_1_code_39 : decode prog_51_method_1_code 39 = .ok (.return_, 1) := by decide +kernel
def Q_rm_ini (Z : State) (w_A : Addr) (w_B : Addr) (w_C : Addr) (w_D : Addr) (g_CS : Int32) (p0 : Addr) (p1 : Int32) (p2 : Value) (p3 : Int32) (p4 : Value) (p5 : Addr) (h0 : Heap) (n0 : Nat) (v : Option Value) (h : Heap) (L : List Loc) : Prop := v = none ∧ Fr n0 L ∧ Keep h0 h [p0] ∧ Exa Z h p0 "com/example/crisp_fixture/crispfixture/dialect/Dialect$ColumnType" ∧ Fld Z h p0 "com/example/crisp_fixture/crispfixture/dialect/Dialect$ColumnType" "code" "I" (.int p1) ∧ Fld Z h p0 "com/example/crisp_fixture/crispfixture/dialect/Dialect$ColumnType" "name" "Ljava/lang/String;" p2 ∧ Fld Z h p0 "com/example/crisp_fixture/crispfixture/dialect/Dialect$ColumnType" "size" "I" (.int p3) ∧ Fld Z h p0 "com/example/crisp_fixture/crispfixture/dialect/Dialect$ColumnType" "baseName" "Ljava/lang/String;" p4 ∧ Fld Z h p0 "com/example/crisp_fixture/crispfixture/dialect/Dialect$ColumnType" "content" "Lcom/example/crisp_fixture/crispfixture/dialect/Dialect$Content;" (.ref p5)
set_option maxRecDepth 65536 in
set_option maxHeartbeats 40000000 in
theorem rm_ini (l : Launch) (Z : State) (a0 : Array Value) (hw : ∀ d ∈ tables_1, d.before a0 Z = true) (ws : List Jvm.Cond) (w_A : Addr) (S_A : Sta Z Z.heap "com/example/crisp_fixture/crispfixture/dialect/Dialect$Content" "BY_CODE" "Lcom/example/crisp_fixture/crispfixture/dialect/Dialect$Content;" (.ref w_A)) (X_A : Exa Z Z.heap w_A "com/example/crisp_fixture/crispfixture/dialect/Dialect$Content") (w_B : Addr) (S_B : Sta Z Z.heap "com/example/crisp_fixture/crispfixture/dialect/Dialect$Content" "JSON_MEMBERS_IN_ORDER" "Lcom/example/crisp_fixture/crispfixture/dialect/Dialect$Content;" (.ref w_B)) (X_B : Exa Z Z.heap w_B "com/example/crisp_fixture/crispfixture/dialect/Dialect$Content") (w_C : Addr) (S_C : Sta Z Z.heap "com/example/crisp_fixture/crispfixture/dialect/Dialect$Content" "JSON_MEMBERS_BY_NAME" "Lcom/example/crisp_fixture/crispfixture/dialect/Dialect$Content;" (.ref w_C)) (X_C : Exa Z Z.heap w_C "com/example/crisp_fixture/crispfixture/dialect/Dialect$Content") (w_D : Addr) (S_D : Sta Z Z.heap "com/example/crisp_fixture/crispfixture/dialect/Dialect$Content" "UUID" "Lcom/example/crisp_fixture/crispfixture/dialect/Dialect$Content;" (.ref w_D)) (X_D : Exa Z Z.heap w_D "com/example/crisp_fixture/crispfixture/dialect/Dialect$Content") (g_CS : Int32) (S_CS : Sta Z Z.heap "java/lang/String" "COMPACT_STRINGS" "Z" (.int g_CS)) (nz_CS : ¬ (g_CS = (0 : Int32))) (p0 : Addr) (p1 : Int32) (p2 : Value) (p3 : Int32) (p4 : Value) (p5 : Addr) (h0 : Heap) (n0 : Nat) (X00 : Old Z n0 h0) (hp0 : Exa Z h0 p0 "com/example/crisp_fixture/crispfixture/dialect/Dialect$ColumnType") (hp1 : Fld Z h0 p0 "com/example/crisp_fixture/crispfixture/dialect/Dialect$ColumnType" "code" "I" (.int (0 : Int32))) (hp2 : Fld Z h0 p0 "com/example/crisp_fixture/crispfixture/dialect/Dialect$ColumnType" "name" "Ljava/lang/String;" .null) (hp3 : Fld Z h0 p0 "com/example/crisp_fixture/crispfixture/dialect/Dialect$ColumnType" "size" "I" (.int (0 : Int32))) (hp4 : Fld Z h0 p0 "com/example/crisp_fixture/crispfixture/dialect/Dialect$ColumnType" "baseName" "Ljava/lang/String;" .null) (hp5 : Fld Z h0 p0 "com/example/crisp_fixture/crispfixture/dialect/Dialect$ColumnType" "content" "Lcom/example/crisp_fixture/crispfixture/dialect/Dialect$Content;" .null) (hp6 : n0 ≤ p0) (hr2 : p2.isRef = true) (hr4 : p4.isRef = true) :
    MetFree l (⟨"com/example/crisp_fixture/crispfixture/dialect/Dialect$ColumnType", "<init>", "(ILjava/lang/String;ILjava/lang/String;Lcom/example/crisp_fixture/crispfixture/dialect/Dialect$Content;)V"⟩ : MethodName) (head1 (Jvm.Cond.code (⟨"com/example/crisp_fixture/crispfixture/dialect/Dialect$ColumnType", "<init>", "(ILjava/lang/String;ILjava/lang/String;Lcom/example/crisp_fixture/crispfixture/dialect/Dialect$Content;)V"⟩ : MethodName) prog_51_method_1_code 6 none :: ws) ({ frames := 2, cells := 2, slots := 32, locals := 24 } : Room)) (fun a U => a = #[(.ref p0), (.int p1), p2, (.int p3), p4, (.ref p5)] ∧ Z.Warmed39 U.vm ∧ U.heap = h0 ∧ CHv Z consts_1 U.vm h0) (fun _ _ _ _ _ => True) (fun _ U o U' => ∃ v L, o = .returned v ∧ Q_rm_ini Z w_A w_B w_C w_D g_CS p0 p1 p2 p3 p4 p5 h0 n0 v U'.heap L ∧ CHr Z consts_1 U.vm U.heap U'.vm U'.heap ∧ ReturnedEndW U o U' L ({ frames := 2, cells := 2, slots := 32, locals := 24 } : Room).cells ({ frames := 2, cells := 2, slots := 32, locals := 24 } : Room).slots) := by
  refine MetFree.of_bodySF (plainFor_of_name own_pn4) hisR ?_
  intro p e s m args below meth c s₁ Bd hml0 hP hK
  obtain ⟨rfl, hZ, hh, hCH⟩ := hP
  have hEL := own_EW Z a0 hw
  have CR0 : CHr Z consts_1 s.vm h0 s.vm h0 := CHr.refl hCH
  have hx := Bd.exec
  have hby := Bd.bytes
  have hml : c.maxLocals = 6 := hml0
  have hown : s.vm.findClass "com/example/crisp_fixture/crispfixture/dialect/Dialect$ColumnType" = some m.cls := findClass_of_methodNamed Bd.named
  have hnm := (name_of_methodNamed Bd.named Bd.method).1
  have X0 : Stand p l e ({ frames := 2, cells := 2, slots := 32, locals := 24 } : Room) (s.setVm s.vm) m #[(.ref p0), (.int p1), p2, (.int p3), p4, (.ref p5)] below meth c s₁ [] 0 0 := Stand.of_body Bd
  have e0 : s₁.heap = h0 := by rw [← hh, Bd.state]; rfl
  have N0 := Fr.nil n0
  have hS0 : s.Since s.vm 0 := own_since s
  have hk0 : 0 ≤ h0.size := Nat.zero_le _
  have hZ : Z.Warmed39 (s.setVm s.vm).vm := hZ
  have hown : (s.setVm s.vm).vm.findClass "com/example/crisp_fixture/crispfixture/dialect/Dialect$ColumnType" = some m.cls := hown
  refine Go.start fun P hPend => ?_
  refine Go.st (fun _ k => castTop (own_ef_rm_ini m p0 p1 p2 p3 p4 p5 hr2 hr4) k) ?_
  show Go p.tables e below P (s₁.setTop (mkF m 0 #[.val (.ref p0), .val (.int p1), .val p2, .val (.int p3), .val p4, .val (.ref p5)] []))
  refine Go.st (fun _ => XS.aloadN X0.here hx rfl (hb hby own_d_prog_51_method_1_code_0) rfl rfl) ?_
  show Go p.tables e below P (s₁.setTop (mkF m 1 #[.val (.ref p0), .val (.int p1), .val p2, .val (.int p3), .val p4, .val (.ref p5)] [(.ref p0)]))
  obtain ⟨_, _, ⟨T1, L1, k1, n1⟩, -, X1, ⟨Lc1, hQ1, l1, y1, z1⟩, st1⟩ := X0.specialBack hx (y := (⟨"java/lang/Record", "<init>", "()V"⟩ : MethodName)) rfl hown (mvT hZ (hw _ (List.mem_of_getElem? (i := 35) rfl))) (mvT hZ (hw _ (List.mem_of_getElem? (i := 36) rfl))) (mvT hZ (hw _ (List.mem_of_getElem? (i := 39) rfl))) (by decide) (backOf (W := 0) (rm_rec l Z a0 hw [] w_A S_A X_A w_B S_B X_B w_C S_C X_C w_D S_D X_D g_CS S_CS nz_CS p0 h0 n0 X00 ) hZ (hw _ (List.mem_of_getElem? (i := 39) rfl)) (hw _ (List.mem_of_getElem? (i := 38) rfl)) (by decide) (by decide)) (g := (mkF m 1 #[.val (.ref p0), .val (.int p1), .val p2, .val (.int p3), .val p4, .val (.ref p5)] [(.ref p0)])) rfl (by rw [hml]; rfl) (Steps.refl _) (a := p0) (argsL := []) (rest := []) (lenOf own_pd3 rfl) rfl (by show 2 * 0 + _ ≤ _; exact Nat.le_of_eq rfl) (hb hby own_d_prog_51_method_1_code_1) (fun _ _ => ⟨rfl, e0, (by decide : 0 + 0 ≤ _), (by decide : 0 + 0 ≤ _)⟩)
  dsimp only [Pt.U, Pt.locs, Pt.cells, Pt.slots] at X1 l1 y1 z1 st1 hQ1
  subst l1 y1 z1
  refine Go.tr st1 ?_
  obtain ⟨rfl, N1q, e1⟩ := hQ1
  have N1 := Fr.app N0 N1q
  show Go p.tables e below P (T1.setTop (mkF m 4 #[.val (.ref p0), .val (.int p1), .val p2, .val (.int p3), .val p4, .val (.ref p5)] []))
  refine Go.st (fun _ => XS.aload X1.here hx rfl (hb hby own_d_prog_51_method_1_code_4) rfl rfl) ?_
  show Go p.tables e below P (T1.setTop (mkF m 6 #[.val (.ref p0), .val (.int p1), .val p2, .val (.int p3), .val p4, .val (.ref p5)] [(.ref p5)]))
  obtain ⟨a2, T2, h2, kk2, X2, e2, E2, hS2, hk2, hZ2, hown2, hCR2, Li2, st2⟩ := ldcOH X1 hx hZ hown (hw _ (List.mem_of_getElem? (i := 41) rfl)) (fun a ha => hw a (own_strAtoms a ha)) e1 hS0 hk0 hEL CR0.1 (g := (mkF m 6 #[.val (.ref p0), .val (.int p1), .val p2, .val (.int p3), .val p4, .val (.ref p5)] [(.ref p5)])) rfl (hb hby own_d_prog_51_method_1_code_6) (n := 28) (by decide +kernel) (by decide) (by decide) (by decide)
  refine Go.st st2 ?_
  have K2 : Keep h0 h2 [p0] := (Keep.refl h0 [p0]).ext E2
  have O2 := X00.ext E2
  have CR2 := CR0.trans hCR2
  show Go p.tables e below P (T2.setTop (mkF m 8 #[.val (.ref p0), .val (.int p1), .val p2, .val (.int p3), .val p4, .val (.ref p5)] [(.ref a2), (.ref p5)]))
  obtain ⟨_, _, ⟨T3, L3, k3, n3⟩, -, X3, ⟨Lc3, hQ3, l3, y3, z3⟩, st3⟩ := Jvm.LawKit.callS X2 hx (y := (⟨"java/util/Objects", "requireNonNull", "(Ljava/lang/Object;Ljava/lang/String;)Ljava/lang/Object;"⟩ : MethodName)) hown2 (mvT hZ2 (hw _ (List.mem_of_getElem? (i := 42) rfl))) (mvT hZ2 (hw _ (List.mem_of_getElem? (i := 43) rfl))) (mvT hZ2 (hw _ (List.mem_of_getElem? (i := 44) rfl))) (mvT hZ2 (hw _ (List.mem_of_getElem? (i := 45) rfl))) (by decide) (backOf (W := 0) (rm_rnn l Z a0 hw [] w_A S_A X_A w_B S_B X_B w_C S_C X_C w_D S_D X_D g_CS S_CS nz_CS p5 a2 h2 n0 O2 ) hZ2 (hw _ (List.mem_of_getElem? (i := 45) rfl)) (hw _ (List.mem_of_getElem? (i := 44) rfl)) (by decide) (by decide)) (g := (mkF m 8 #[.val (.ref p0), .val (.int p1), .val p2, .val (.int p3), .val p4, .val (.ref p5)] [(.ref a2), (.ref p5)])) rfl (by rw [hml]; rfl) (argsL := [(.ref p5), (.ref a2)]) (rest := []) (lenOf own_pd4 rfl) rfl (by show 2 * 0 + _ ≤ _; exact Nat.le_of_eq rfl) (hb hby own_d_prog_51_method_1_code_8) (fun _ _ => ⟨rfl, e2, (by decide : 2 + 0 ≤ _), (by decide : 32 + 0 ≤ _)⟩)
  dsimp only [Pt.U, Pt.locs, Pt.cells, Pt.slots] at X3 l3 y3 z3 st3 hQ3
  subst l3 y3 z3
  refine Go.st st3 ?_
  obtain ⟨rfl, N3q, e3⟩ := hQ3
  have N3 := Fr.app N1 N3q
  show Go p.tables e below P (T3.setTop (mkF m 11 #[.val (.ref p0), .val (.int p1), .val p2, .val (.int p3), .val p4, .val (.ref p5)] [(.ref p5)]))
  refine Go.st (fun _ => XS.pop X3.here hx rfl (hb hby own_d_prog_51_method_1_code_11) rfl rfl) ?_
  show Go p.tables e below P (T3.setTop (mkF m 12 #[.val (.ref p0), .val (.int p1), .val p2, .val (.int p3), .val p4, .val (.ref p5)] []))
  refine Go.st (fun _ => XS.aloadN X3.here hx rfl (hb hby own_d_prog_51_method_1_code_12) rfl rfl) ?_
  show Go p.tables e below P (T3.setTop (mkF m 13 #[.val (.ref p0), .val (.int p1), .val p2, .val (.int p3), .val p4, .val (.ref p5)] [(.ref p0)]))
  refine Go.st (fun _ => XS.iloadN X3.here hx rfl (hb hby own_d_prog_51_method_1_code_13) rfl) ?_
  show Go p.tables e below P (T3.setTop (mkF m 14 #[.val (.ref p0), .val (.int p1), .val p2, .val (.int p3), .val p4, .val (.ref p5)] [(.int p1), (.ref p0)]))
  have c5 := (hp0.ext E2)
  have sf4 : Safe Z consts_1 T2.vm h2 p0 := (Safe.exa hZ2.alike c5 (by decide) (by decide))
  have c6 := (hp1.ext E2)
  obtain ⟨T7, h7, X7, e7, W7, st7⟩ := putF X3 hx hZ2 hown2 (host := "") (Or.inl (hw _ (List.mem_of_getElem? (i := 46) rfl))) Via.refl e3 c6 c5 (Or.inr ⟨(hw _ (List.mem_of_getElem? (i := 47) rfl)), rfl, hnm⟩) (hw _ (List.mem_of_getElem? (i := 30) rfl)) (ty := .int) (by decide) rfl rfl (g := (mkF m 14 #[.val (.ref p0), .val (.int p1), .val p2, .val (.int p3), .val p4, .val (.ref p5)] [(.int p1), (.ref p0)])) rfl rfl (hb hby own_d_prog_51_method_1_code_14)
  refine Go.st st7 ?_
  have sf8 := Safe.wr W7 sf4 CR2.1 sf4
  have CR7 := CR2.trans (CHr.wr W7 sf4 CR2.1)
  have K7 : Keep h0 h7 [p0] := K2.wr W7 (Or.inl (List.mem_of_getElem? (i := 0) rfl))
  have O7 := O2.wr W7 hp6
  have N7 := Fr.snoc X7 N3 hp6
  have F7 := c6.same W7
  show Go p.tables e below P (T7.setTop (mkF m 17 #[.val (.ref p0), .val (.int p1), .val p2, .val (.int p3), .val p4, .val (.ref p5)] []))
  refine Go.st (fun _ => XS.aloadN X7.here hx rfl (hb hby own_d_prog_51_method_1_code_17) rfl rfl) ?_
  show Go p.tables e below P (T7.setTop (mkF m 18 #[.val (.ref p0), .val (.int p1), .val p2, .val (.int p3), .val p4, .val (.ref p5)] [(.ref p0)]))
  refine Go.st (fun _ => XS.aloadN X7.here hx rfl (hb hby own_d_prog_51_method_1_code_18) rfl hr2) ?_
  show Go p.tables e below P (T7.setTop (mkF m 19 #[.val (.ref p0), .val (.int p1), .val p2, .val (.int p3), .val p4, .val (.ref p5)] [p2, (.ref p0)]))
  have c9 := ((hp2.ext E2).other W7 (Or.inr (slot_ne (Or.inr (hw _ (List.mem_of_getElem? (i := 49) rfl))) (Or.inr (hw _ (List.mem_of_getElem? (i := 47) rfl))) (by decide) (t := (.object "java/lang/String")) (t' := .int) (by decide) (by decide))))
  have c10 := (c5.wr W7)
  obtain ⟨T11, h11, X11, e11, W11, st11⟩ := putF X7 hx hZ2 hown2 (host := "") (Or.inl (hw _ (List.mem_of_getElem? (i := 48) rfl))) Via.refl e7 c9 c10 (Or.inr ⟨(hw _ (List.mem_of_getElem? (i := 49) rfl)), rfl, hnm⟩) (hw _ (List.mem_of_getElem? (i := 30) rfl)) (ty := (.object "java/lang/String")) (by decide) (own_nar_ref hr2) (own_fits_ref hr2) (g := (mkF m 19 #[.val (.ref p0), .val (.int p1), .val p2, .val (.int p3), .val p4, .val (.ref p5)] [p2, (.ref p0)])) rfl rfl (hb hby own_d_prog_51_method_1_code_19)
  refine Go.st st11 ?_
  have sf12 := Safe.wr W11 sf8 CR7.1 sf8
  have CR11 := CR7.trans (CHr.wr W11 sf8 CR7.1)
  have K11 : Keep h0 h11 [p0] := K7.wr W11 (Or.inl (List.mem_of_getElem? (i := 0) rfl))
  have O11 := O7.wr W11 hp6
  have N11 := Fr.snoc X11 N7 hp6
  have F11 := c9.same W11
  show Go p.tables e below P (T11.setTop (mkF m 22 #[.val (.ref p0), .val (.int p1), .val p2, .val (.int p3), .val p4, .val (.ref p5)] []))
  refine Go.st (fun _ => XS.aloadN X11.here hx rfl (hb hby own_d_prog_51_method_1_code_22) rfl rfl) ?_
  show Go p.tables e below P (T11.setTop (mkF m 23 #[.val (.ref p0), .val (.int p1), .val p2, .val (.int p3), .val p4, .val (.ref p5)] [(.ref p0)]))
  refine Go.st (fun _ => XS.iloadN X11.here hx rfl (hb hby own_d_prog_51_method_1_code_23) rfl) ?_
  show Go p.tables e below P (T11.setTop (mkF m 24 #[.val (.ref p0), .val (.int p1), .val p2, .val (.int p3), .val p4, .val (.ref p5)] [(.int p3), (.ref p0)]))
  have c13 := (((hp3.ext E2).other W7 (Or.inr (slot_ne (Or.inr (hw _ (List.mem_of_getElem? (i := 51) rfl))) (Or.inr (hw _ (List.mem_of_getElem? (i := 47) rfl))) (by decide) (t := .int) (t' := .int) (by decide) (by decide)))).other W11 (Or.inr (slot_ne (Or.inr (hw _ (List.mem_of_getElem? (i := 51) rfl))) (Or.inr (hw _ (List.mem_of_getElem? (i := 49) rfl))) (by decide) (t := .int) (t' := (.object "java/lang/String")) (by decide) (by decide))))
  have c14 := (c10.wr W11)
  obtain ⟨T15, h15, X15, e15, W15, st15⟩ := putF X11 hx hZ2 hown2 (host := "") (Or.inl (hw _ (List.mem_of_getElem? (i := 50) rfl))) Via.refl e11 c13 c14 (Or.inr ⟨(hw _ (List.mem_of_getElem? (i := 51) rfl)), rfl, hnm⟩) (hw _ (List.mem_of_getElem? (i := 30) rfl)) (ty := .int) (by decide) rfl rfl (g := (mkF m 24 #[.val (.ref p0), .val (.int p1), .val p2, .val (.int p3), .val p4, .val (.ref p5)] [(.int p3), (.ref p0)])) rfl rfl (hb hby own_d_prog_51_method_1_code_24)
  refine Go.st st15 ?_
  have sf16 := Safe.wr W15 sf12 CR11.1 sf12
  have CR15 := CR11.trans (CHr.wr W15 sf12 CR11.1)
  have K15 : Keep h0 h15 [p0] := K11.wr W15 (Or.inl (List.mem_of_getElem? (i := 0) rfl))
  have O15 := O11.wr W15 hp6
  have N15 := Fr.snoc X15 N11 hp6
  have F15 := c13.same W15
  show Go p.tables e below P (T15.setTop (mkF m 27 #[.val (.ref p0), .val (.int p1), .val p2, .val (.int p3), .val p4, .val (.ref p5)] []))
  refine Go.st (fun _ => XS.aloadN X15.here hx rfl (hb hby own_d_prog_51_method_1_code_27) rfl rfl) ?_
  show Go p.tables e below P (T15.setTop (mkF m 28 #[.val (.ref p0), .val (.int p1), .val p2, .val (.int p3), .val p4, .val (.ref p5)] [(.ref p0)]))
  refine Go.st (fun _ => XS.aload X15.here hx rfl (hb hby own_d_prog_51_method_1_code_28) rfl hr4) ?_
  show Go p.tables e below P (T15.setTop (mkF m 30 #[.val (.ref p0), .val (.int p1), .val p2, .val (.int p3), .val p4, .val (.ref p5)] [p4, (.ref p0)]))
  have c17 := ((((hp4.ext E2).other W7 (Or.inr (slot_ne (Or.inr (hw _ (List.mem_of_getElem? (i := 53) rfl))) (Or.inr (hw _ (List.mem_of_getElem? (i := 47) rfl))) (by decide) (t := (.object "java/lang/String")) (t' := .int) (by decide) (by decide)))).other W11 (Or.inr (slot_ne (Or.inr (hw _ (List.mem_of_getElem? (i := 53) rfl))) (Or.inr (hw _ (List.mem_of_getElem? (i := 49) rfl))) (by decide) (t := (.object "java/lang/String")) (t' := (.object "java/lang/String")) (by decide) (by decide)))).other W15 (Or.inr (slot_ne (Or.inr (hw _ (List.mem_of_getElem? (i := 53) rfl))) (Or.inr (hw _ (List.mem_of_getElem? (i := 51) rfl))) (by decide) (t := (.object "java/lang/String")) (t' := .int) (by decide) (by decide))))
  have c18 := (c14.wr W15)
  obtain ⟨T19, h19, X19, e19, W19, st19⟩ := putF X15 hx hZ2 hown2 (host := "") (Or.inl (hw _ (List.mem_of_getElem? (i := 52) rfl))) Via.refl e15 c17 c18 (Or.inr ⟨(hw _ (List.mem_of_getElem? (i := 53) rfl)), rfl, hnm⟩) (hw _ (List.mem_of_getElem? (i := 30) rfl)) (ty := (.object "java/lang/String")) (by decide) (own_nar_ref hr4) (own_fits_ref hr4) (g := (mkF m 30 #[.val (.ref p0), .val (.int p1), .val p2, .val (.int p3), .val p4, .val (.ref p5)] [p4, (.ref p0)])) rfl rfl (hb hby own_d_prog_51_method_1_code_30)
  refine Go.st st19 ?_
  have sf20 := Safe.wr W19 sf16 CR15.1 sf16
  have CR19 := CR15.trans (CHr.wr W19 sf16 CR15.1)
  have K19 : Keep h0 h19 [p0] := K15.wr W19 (Or.inl (List.mem_of_getElem? (i := 0) rfl))
  have O19 := O15.wr W19 hp6
  have N19 := Fr.snoc X19 N15 hp6
  have F19 := c17.same W19
  show Go p.tables e below P (T19.setTop (mkF m 33 #[.val (.ref p0), .val (.int p1), .val p2, .val (.int p3), .val p4, .val (.ref p5)] []))
  refine Go.st (fun _ => XS.aloadN X19.here hx rfl (hb hby own_d_prog_51_method_1_code_33) rfl rfl) ?_
  show Go p.tables e below P (T19.setTop (mkF m 34 #[.val (.ref p0), .val (.int p1), .val p2, .val (.int p3), .val p4, .val (.ref p5)] [(.ref p0)]))
  refine Go.st (fun _ => XS.aload X19.here hx rfl (hb hby own_d_prog_51_method_1_code_34) rfl rfl) ?_
  show Go p.tables e below P (T19.setTop (mkF m 36 #[.val (.ref p0), .val (.int p1), .val p2, .val (.int p3), .val p4, .val (.ref p5)] [(.ref p5), (.ref p0)]))
  have c21 := (((((hp5.ext E2).other W7 (Or.inr (slot_ne (Or.inr (hw _ (List.mem_of_getElem? (i := 55) rfl))) (Or.inr (hw _ (List.mem_of_getElem? (i := 47) rfl))) (by decide) (t := (.object "com/example/crisp_fixture/crispfixture/dialect/Dialect$Content")) (t' := .int) (by decide) (by decide)))).other W11 (Or.inr (slot_ne (Or.inr (hw _ (List.mem_of_getElem? (i := 55) rfl))) (Or.inr (hw _ (List.mem_of_getElem? (i := 49) rfl))) (by decide) (t := (.object "com/example/crisp_fixture/crispfixture/dialect/Dialect$Content")) (t' := (.object "java/lang/String")) (by decide) (by decide)))).other W15 (Or.inr (slot_ne (Or.inr (hw _ (List.mem_of_getElem? (i := 55) rfl))) (Or.inr (hw _ (List.mem_of_getElem? (i := 51) rfl))) (by decide) (t := (.object "com/example/crisp_fixture/crispfixture/dialect/Dialect$Content")) (t' := .int) (by decide) (by decide)))).other W19 (Or.inr (slot_ne (Or.inr (hw _ (List.mem_of_getElem? (i := 55) rfl))) (Or.inr (hw _ (List.mem_of_getElem? (i := 53) rfl))) (by decide) (t := (.object "com/example/crisp_fixture/crispfixture/dialect/Dialect$Content")) (t' := (.object "java/lang/String")) (by decide) (by decide))))
  have c22 := (c18.wr W19)
  obtain ⟨T23, h23, X23, e23, W23, st23⟩ := putF X19 hx hZ2 hown2 (host := "") (Or.inl (hw _ (List.mem_of_getElem? (i := 54) rfl))) Via.refl e19 c21 c22 (Or.inr ⟨(hw _ (List.mem_of_getElem? (i := 55) rfl)), rfl, hnm⟩) (hw _ (List.mem_of_getElem? (i := 30) rfl)) (ty := (.object "com/example/crisp_fixture/crispfixture/dialect/Dialect$Content")) (by decide) rfl rfl (g := (mkF m 36 #[.val (.ref p0), .val (.int p1), .val p2, .val (.int p3), .val p4, .val (.ref p5)] [(.ref p5), (.ref p0)])) rfl rfl (hb hby own_d_prog_51_method_1_code_36)
  refine Go.st st23 ?_
  have sf24 := Safe.wr W23 sf20 CR19.1 sf20
  have CR23 := CR19.trans (CHr.wr W23 sf20 CR19.1)
  have K23 : Keep h0 h23 [p0] := K19.wr W23 (Or.inl (List.mem_of_getElem? (i := 0) rfl))
  have O23 := O19.wr W23 hp6
  have N23 := Fr.snoc X23 N19 hp6
  have F23 := c21.same W23
  show Go p.tables e below P (T23.setTop (mkF m 39 #[.val (.ref p0), .val (.int p1), .val p2, .val (.int p3), .val p4, .val (.ref p5)] []))
  obtain ⟨fs, hr, hrun, hended, -, hW, hpair, hsame⟩ := X23.leaveW hS2 (by rw [e23]; exact (Nat.le_trans (Nat.le_trans (Nat.le_trans (Nat.le_trans (Nat.le_trans hk2 (Keep.of_wr W7).1) (Keep.of_wr W11).1) (Keep.of_wr W15).1) (Keep.of_wr W19).1) (Keep.of_wr W23).1)) (v := none) (fun _ => rfl)
  have hCRe := CR23.trans (CHv.at X23 hZ2 hEL CR23.1)
  refine ⟨_, ?_, hPend _ _ hrun hended ⟨_, _, rfl, ?_, ?_, ⟨_, rfl⟩, hW, hpair, hsame.mono (by decide) (by decide)⟩⟩
  · exact X23.returnOut hx Bd.returns (hb hby own_d_prog_51_method_1_code_39) hr
  · show Q_rm_ini Z _ _ _ _ _ _ _ _ _ _ _ h0 n0 _ T23.heap _
    rw [e23]
    have c25 := (c22.wr W23)
    have c26 := ((((F7.other W11 (Or.inr (slot_ne (Or.inr (hw _ (List.mem_of_getElem? (i := 47) rfl))) (Or.inr (hw _ (List.mem_of_getElem? (i := 49) rfl))) (by decide) (t := .int) (t' := (.object "java/lang/String")) (by decide) (by decide)))).other W15 (Or.inr (slot_ne (Or.inr (hw _ (List.mem_of_getElem? (i := 47) rfl))) (Or.inr (hw _ (List.mem_of_getElem? (i := 51) rfl))) (by decide) (t := .int) (t' := .int) (by decide) (by decide)))).other W19 (Or.inr (slot_ne (Or.inr (hw _ (List.mem_of_getElem? (i := 47) rfl))) (Or.inr (hw _ (List.mem_of_getElem? (i := 53) rfl))) (by decide) (t := .int) (t' := (.object "java/lang/String")) (by decide) (by decide)))).other W23 (Or.inr (slot_ne (Or.inr (hw _ (List.mem_of_getElem? (i := 47) rfl))) (Or.inr (hw _ (List.mem_of_getElem? (i := 55) rfl))) (by decide) (t := .int) (t' := (.object "com/example/crisp_fixture/crispfixture/dialect/Dialect$Content")) (by decide) (by decide))))
    have c27 := (((F11.other W15 (Or.inr (slot_ne (Or.inr (hw _ (List.mem_of_getElem? (i := 49) rfl))) (Or.inr (hw _ (List.mem_of_getElem? (i := 51) rfl))) (by decide) (t := (.object "java/lang/String")) (t' := .int) (by decide) (by decide)))).other W19 (Or.inr (slot_ne (Or.inr (hw _ (List.mem_of_getElem? (i := 49) rfl))) (Or.inr (hw _ (List.mem_of_getElem? (i := 53) rfl))) (by decide) (t := (.object "java/lang/String")) (t' := (.object "java/lang/String")) (by decide) (by decide)))).other W23 (Or.inr (slot_ne (Or.inr (hw _ (List.mem_of_getElem? (i := 49) rfl))) (Or.inr (hw _ (List.mem_of_getElem? (i := 55) rfl))) (by decide) (t := (.object "java/lang/String")) (t' := (.object "com/example/crisp_fixture/crispfixture/dialect/Dialect$Content")) (by decide) (by decide))))
    have c28 := ((F15.other W19 (Or.inr (slot_ne (Or.inr (hw _ (List.mem_of_getElem? (i := 51) rfl))) (Or.inr (hw _ (List.mem_of_getElem? (i := 53) rfl))) (by decide) (t := .int) (t' := (.object "java/lang/String")) (by decide) (by decide)))).other W23 (Or.inr (slot_ne (Or.inr (hw _ (List.mem_of_getElem? (i := 51) rfl))) (Or.inr (hw _ (List.mem_of_getElem? (i := 55) rfl))) (by decide) (t := .int) (t' := (.object "com/example/crisp_fixture/crispfixture/dialect/Dialect$Content")) (by decide) (by decide))))
    have c29 := (F19.other W23 (Or.inr (slot_ne (Or.inr (hw _ (List.mem_of_getElem? (i := 53) rfl))) (Or.inr (hw _ (List.mem_of_getElem? (i := 55) rfl))) (by decide) (t := (.object "java/lang/String")) (t' := (.object "com/example/crisp_fixture/crispfixture/dialect/Dialect$Content")) (by decide) (by decide))))
    exact ⟨rfl, N23, K23, c25, c26, c27, c28, c29, F23⟩
  · show CHr Z consts_1 s.vm s.heap T23.vm T23.heap
    rw [hh, e23]
    exact hCRe
theorem own_ef_rm_wb (m : MethodId) (x0 : Addr) (x1 : Value) (hx1 : x1.isRef = true) : entryFrame m #[(.ref x0), x1] 2 = mkF m 0 #[.val (.ref x0), .val x1] [] := by rcases own_refcase hx1 with rfl | ⟨_, rfl⟩ <;> rfl
theorem own_d_prog_51_method_4_code_0 : decode prog_51_method_4_code 0 = .ok (.new 16, 3) := by decide +kernel
theorem own_d_prog_51_method_4_code_3 : decode prog_51_method_4_code 3 = .ok (.dup, 1) := by decide +kernel
theorem own_d_prog_51_method_4_code_4 : decode prog_51_method_4_code 4 = .ok (.aload_n 0, 1) := by decide +kernel
theorem own_d_prog_51_method_4_code_5 : decode prog_51_method_4_code 5 = .ok (.getfield 15, 3) := by decide +kernel
theorem own_d_prog_51_method_4_code_8 : decode prog_51_method_4_code 8 = .ok (.aload_n 0, 1) := by decide +kernel
theorem own_d_prog_51_method_4_code_9 : decode prog_51_method_4_code 9 = .ok (.getfield 21, 3) := by decide +kernel
theorem own_d_prog_51_method_4_code_12 : decode prog_51_method_4_code 12 = .ok (.aload_n 0, 1) := by decide +kernel
theorem own_d_prog_51_method_4_code_13 : decode prog_51_method_4_code 13 = .ok (.getfield 25, 3) := by decide +kernel
theorem own_d_prog_51_method_4_code_16 : decode prog_51_method_4_code 16 = .ok (.aload_n 1, 1) := by decide +kernel
theorem own_d_prog_51_method_4_code_17 : decode prog_51_method_4_code 17 = .ok (.aload_n 0, 1) := by decide +kernel
theorem own_d_prog_51_method_4_code_18 : decode prog_51_method_4_code 18 = .ok (.getfield 31, 3) := by decide +kernel
theorem own_d_prog_51_method_4_code_21 : decode prog_51_method_4_code 21 = .ok (.invokespecial 39, 3) := by decide +kernel
theorem own_pd5 : parseMethodDescriptor "(ILjava/lang/String;ILjava/lang/String;Lcom/example/crisp_fixture/crispfixture/dialect/Dialect$Content;)V" = some ⟨[.int, (.object "java/lang/String"), .int, (.object "java/lang/String"), (.object "com/example/crisp_fixture/crispfixture/dialect/Dialect$Content")], none⟩ := by decide +kernel
theorem own_d_prog_51_method_4_code_24 : decode prog_51_method_4_code 24 = .ok (.areturn, 1) := by decide +kernel
def Q_rm_wb (Z : State) (w_A : Addr) (w_B : Addr) (w_C : Addr) (w_D : Addr) (g_CS : Int32) (p0 : Addr) (p1 : Value) (pn : Value) (pz : Int32) (pk : Int32) (pc : Addr) (h0 : Heap) (n0 : Nat) (v : Option Value) (h : Heap) (L : List Loc) : Prop := ∃ (ob : Addr), v = some (.ref ob) ∧ Fr n0 L ∧ Keep h0 h [] ∧ h0.size ≤ ob ∧ Exa Z h ob "com/example/crisp_fixture/crispfixture/dialect/Dialect$ColumnType" ∧ Fld Z h ob "com/example/crisp_fixture/crispfixture/dialect/Dialect$ColumnType" "code" "I" (.int pk) ∧ Fld Z h ob "com/example/crisp_fixture/crispfixture/dialect/Dialect$ColumnType" "name" "Ljava/lang/String;" pn ∧ Fld Z h ob "com/example/crisp_fixture/crispfixture/dialect/Dialect$ColumnType" "size" "I" (.int pz) ∧ Fld Z h ob "com/example/crisp_fixture/crispfixture/dialect/Dialect$ColumnType" "baseName" "Ljava/lang/String;" p1 ∧ Fld Z h ob "com/example/crisp_fixture/crispfixture/dialect/Dialect$ColumnType" "content" "Lcom/example/crisp_fixture/crispfixture/dialect/Dialect$Content;" (.ref pc)
set_option maxRecDepth 65536 in
set_option maxHeartbeats 40000000 in
theorem rm_wb (l : Launch) (Z : State) (a0 : Array Value) (hw : ∀ d ∈ tables_1, d.before a0 Z = true) (ws : List Jvm.Cond) (w_A : Addr) (S_A : Sta Z Z.heap "com/example/crisp_fixture/crispfixture/dialect/Dialect$Content" "BY_CODE" "Lcom/example/crisp_fixture/crispfixture/dialect/Dialect$Content;" (.ref w_A)) (X_A : Exa Z Z.heap w_A "com/example/crisp_fixture/crispfixture/dialect/Dialect$Content") (w_B : Addr) (S_B : Sta Z Z.heap "com/example/crisp_fixture/crispfixture/dialect/Dialect$Content" "JSON_MEMBERS_IN_ORDER" "Lcom/example/crisp_fixture/crispfixture/dialect/Dialect$Content;" (.ref w_B)) (X_B : Exa Z Z.heap w_B "com/example/crisp_fixture/crispfixture/dialect/Dialect$Content") (w_C : Addr) (S_C : Sta Z Z.heap "com/example/crisp_fixture/crispfixture/dialect/Dialect$Content" "JSON_MEMBERS_BY_NAME" "Lcom/example/crisp_fixture/crispfixture/dialect/Dialect$Content;" (.ref w_C)) (X_C : Exa Z Z.heap w_C "com/example/crisp_fixture/crispfixture/dialect/Dialect$Content") (w_D : Addr) (S_D : Sta Z Z.heap "com/example/crisp_fixture/crispfixture/dialect/Dialect$Content" "UUID" "Lcom/example/crisp_fixture/crispfixture/dialect/Dialect$Content;" (.ref w_D)) (X_D : Exa Z Z.heap w_D "com/example/crisp_fixture/crispfixture/dialect/Dialect$Content") (g_CS : Int32) (S_CS : Sta Z Z.heap "java/lang/String" "COMPACT_STRINGS" "Z" (.int g_CS)) (nz_CS : ¬ (g_CS = (0 : Int32))) (p0 : Addr) (p1 : Value) (pn : Value) (pz : Int32) (pk : Int32) (pc : Addr) (h0 : Heap) (n0 : Nat) (X00 : Old Z n0 h0) (hp0 : Exa Z h0 p0 "com/example/crisp_fixture/crispfixture/dialect/Dialect$ColumnType") (hp1 : Fld Z h0 p0 "com/example/crisp_fixture/crispfixture/dialect/Dialect$ColumnType" "code" "I" (.int pk)) (hp2 : Fld Z h0 p0 "com/example/crisp_fixture/crispfixture/dialect/Dialect$ColumnType" "name" "Ljava/lang/String;" pn) (hp3 : Fld Z h0 p0 "com/example/crisp_fixture/crispfixture/dialect/Dialect$ColumnType" "size" "I" (.int pz)) (hp4 : Fld Z h0 p0 "com/example/crisp_fixture/crispfixture/dialect/Dialect$ColumnType" "content" "Lcom/example/crisp_fixture/crispfixture/dialect/Dialect$Content;" (.ref pc)) (hr1 : p1.isRef = true) (hrn : pn.isRef = true) :
    MetFree l (⟨"com/example/crisp_fixture/crispfixture/dialect/Dialect$ColumnType", "withBaseName", "(Ljava/lang/String;)Lcom/example/crisp_fixture/crispfixture/dialect/Dialect$ColumnType;"⟩ : MethodName) (head1 (Jvm.Cond.code (⟨"com/example/crisp_fixture/crispfixture/dialect/Dialect$ColumnType", "withBaseName", "(Ljava/lang/String;)Lcom/example/crisp_fixture/crispfixture/dialect/Dialect$ColumnType;"⟩ : MethodName) prog_51_method_4_code 2 (some (.object "com/example/crisp_fixture/crispfixture/dialect/Dialect$ColumnType")) :: ws) ({ frames := 3, cells := 3, slots := 37, locals := 42 } : Room)) (fun a U => a = #[(.ref p0), p1] ∧ Z.Warmed39 U.vm ∧ U.heap = h0 ∧ CHv Z consts_1 U.vm h0) (fun _ _ _ _ _ => True) (fun _ U o U' => ∃ v L, o = .returned v ∧ Q_rm_wb Z w_A w_B w_C w_D g_CS p0 p1 pn pz pk pc h0 n0 v U'.heap L ∧ CHr Z consts_1 U.vm U.heap U'.vm U'.heap ∧ ReturnedEndW U o U' L ({ frames := 3, cells := 3, slots := 37, locals := 42 } : Room).cells ({ frames := 3, cells := 3, slots := 37, locals := 42 } : Room).slots) := by
  refine MetFree.of_bodySF (plainFor_of_name own_pn4) hisR ?_
  intro p e s m args below meth c s₁ Bd hml0 hP hK
  obtain ⟨rfl, hZ, hh, hCH⟩ := hP
  have hEL := own_EW Z a0 hw
  have CR0 : CHr Z consts_1 s.vm h0 s.vm h0 := CHr.refl hCH
  have hx := Bd.exec
  have hby := Bd.bytes
  have hml : c.maxLocals = 2 := hml0
  have hown : s.vm.findClass "com/example/crisp_fixture/crispfixture/dialect/Dialect$ColumnType" = some m.cls := findClass_of_methodNamed Bd.named
  have hnm := (name_of_methodNamed Bd.named Bd.method).1
  have X0 : Stand p l e ({ frames := 3, cells := 3, slots := 37, locals := 42 } : Room) (s.setVm s.vm) m #[(.ref p0), p1] below meth c s₁ [] 0 0 := Stand.of_body Bd
  have e0 : s₁.heap = h0 := by rw [← hh, Bd.state]; rfl
  have N0 := Fr.nil n0
  have hS0 : s.Since s.vm 0 := own_since s
  have hk0 : 0 ≤ h0.size := Nat.zero_le _
  have hZ : Z.Warmed39 (s.setVm s.vm).vm := hZ
  have hown : (s.setVm s.vm).vm.findClass "com/example/crisp_fixture/crispfixture/dialect/Dialect$ColumnType" = some m.cls := hown
  refine Go.start fun P hPend => ?_
  refine Go.st (fun _ k => castTop (own_ef_rm_wb m p0 p1 hr1) k) ?_
  show Go p.tables e below P (s₁.setTop (mkF m 0 #[.val (.ref p0), .val p1] []))
  obtain ⟨T1, h1, X1, e1, E1, A1, D1, -, st1⟩ := newO X0 hx hZ hown (hw _ (List.mem_of_getElem? (i := 61) rfl)) (hw _ (List.mem_of_getElem? (i := 30) rfl)) (hw _ (List.mem_of_getElem? (i := 31) rfl)) e0 (g := (mkF m 0 #[.val (.ref p0), .val p1] [])) rfl (hb hby own_d_prog_51_method_4_code_0) (by decide) (by decide)
  obtain ⟨b1, g1⟩ : ∃ z, z = h0.size := ⟨_, rfl⟩
  rw [← g1] at A1 D1 st1
  refine Go.st st1 ?_
  have g_b1 : n0 ≤ b1 := Nat.le_trans (own_oldsz X00) (Nat.le_of_eq g1.symm)
  have sz_b1 : h0.size ≤ b1 := Nat.le_trans (Keep.refl h0 []).1 (Nat.le_of_eq g1.symm)
  have K1 : Keep h0 h1 [] := (Keep.refl h0 []).ext E1
  have O1 := X00.ext E1
  have SF_b1 : Safe Z consts_1 s.vm h1 b1 := Safe.ext E1 CR0.1 (Safe.new (Nat.le_of_eq g1.symm))
  have CR1 := CR0.trans (CHr.ext E1 CR0.1)
  have F2 : Fld Z h1 b1 "com/example/crisp_fixture/crispfixture/dialect/Dialect$ColumnType" "code" "I" (.int (0 : Int32)) := D1 (Or.inr (hw _ (List.mem_of_getElem? (i := 47) rfl))) (ty := .int) (by decide)
  have F3 : Fld Z h1 b1 "com/example/crisp_fixture/crispfixture/dialect/Dialect$ColumnType" "name" "Ljava/lang/String;" .null := D1 (Or.inr (hw _ (List.mem_of_getElem? (i := 49) rfl))) (ty := (.object "java/lang/String")) (by decide)
  have F4 : Fld Z h1 b1 "com/example/crisp_fixture/crispfixture/dialect/Dialect$ColumnType" "size" "I" (.int (0 : Int32)) := D1 (Or.inr (hw _ (List.mem_of_getElem? (i := 51) rfl))) (ty := .int) (by decide)
  have F5 : Fld Z h1 b1 "com/example/crisp_fixture/crispfixture/dialect/Dialect$ColumnType" "baseName" "Ljava/lang/String;" .null := D1 (Or.inr (hw _ (List.mem_of_getElem? (i := 53) rfl))) (ty := (.object "java/lang/String")) (by decide)
  have F6 : Fld Z h1 b1 "com/example/crisp_fixture/crispfixture/dialect/Dialect$ColumnType" "content" "Lcom/example/crisp_fixture/crispfixture/dialect/Dialect$Content;" .null := D1 (Or.inr (hw _ (List.mem_of_getElem? (i := 55) rfl))) (ty := (.object "com/example/crisp_fixture/crispfixture/dialect/Dialect$Content")) (by decide)
  show Go p.tables e below P (T1.setTop (mkF m 3 #[.val (.ref p0), .val p1] [(.ref b1)]))
  refine Go.st (fun _ => XS.dup X1.here hx rfl (hb hby own_d_prog_51_method_4_code_3) rfl rfl) ?_
  show Go p.tables e below P (T1.setTop (mkF m 4 #[.val (.ref p0), .val p1] [(.ref b1), (.ref b1)]))
  refine Go.st (fun _ => XS.aloadN X1.here hx rfl (hb hby own_d_prog_51_method_4_code_4) rfl rfl) ?_
  show Go p.tables e below P (T1.setTop (mkF m 5 #[.val (.ref p0), .val p1] [(.ref p0), (.ref b1), (.ref b1)]))
  have c7 := (hp1.ext E1)
  obtain ⟨T8, X8, e8, st8⟩ := getF X1 hx hZ hown (host := "") (Or.inl (hw _ (List.mem_of_getElem? (i := 46) rfl))) Via.refl e1 c7 (g := (mkF m 5 #[.val (.ref p0), .val p1] [(.ref p0), (.ref b1), (.ref b1)])) rfl rfl (hb hby own_d_prog_51_method_4_code_5)
  refine Go.st st8 ?_
  show Go p.tables e below P (T8.setTop (mkF m 8 #[.val (.ref p0), .val p1] [(.int pk), (.ref b1), (.ref b1)]))
  refine Go.st (fun _ => XS.aloadN X8.here hx rfl (hb hby own_d_prog_51_method_4_code_8) rfl rfl) ?_
  show Go p.tables e below P (T8.setTop (mkF m 9 #[.val (.ref p0), .val p1] [(.ref p0), (.int pk), (.ref b1), (.ref b1)]))
  have c9 := (hp2.ext E1)
  obtain ⟨T10, X10, e10, st10⟩ := getF X8 hx hZ hown (host := "") (Or.inl (hw _ (List.mem_of_getElem? (i := 48) rfl))) Via.refl e8 c9 (g := (mkF m 9 #[.val (.ref p0), .val p1] [(.ref p0), (.int pk), (.ref b1), (.ref b1)])) rfl rfl (hb hby own_d_prog_51_method_4_code_9)
  refine Go.st st10 ?_
  show Go p.tables e below P (T10.setTop (mkF m 12 #[.val (.ref p0), .val p1] [pn, (.int pk), (.ref b1), (.ref b1)]))
  refine Go.st (fun _ => XS.aloadN X10.here hx rfl (hb hby own_d_prog_51_method_4_code_12) rfl rfl) ?_
  show Go p.tables e below P (T10.setTop (mkF m 13 #[.val (.ref p0), .val p1] [(.ref p0), pn, (.int pk), (.ref b1), (.ref b1)]))
  have c11 := (hp3.ext E1)
  obtain ⟨T12, X12, e12, st12⟩ := getF X10 hx hZ hown (host := "") (Or.inl (hw _ (List.mem_of_getElem? (i := 50) rfl))) Via.refl e10 c11 (g := (mkF m 13 #[.val (.ref p0), .val p1] [(.ref p0), pn, (.int pk), (.ref b1), (.ref b1)])) rfl rfl (hb hby own_d_prog_51_method_4_code_13)
  refine Go.st st12 ?_
  show Go p.tables e below P (T12.setTop (mkF m 16 #[.val (.ref p0), .val p1] [(.int pz), pn, (.int pk), (.ref b1), (.ref b1)]))
  refine Go.st (fun _ => XS.aloadN X12.here hx rfl (hb hby own_d_prog_51_method_4_code_16) rfl hr1) ?_
  show Go p.tables e below P (T12.setTop (mkF m 17 #[.val (.ref p0), .val p1] [p1, (.int pz), pn, (.int pk), (.ref b1), (.ref b1)]))
  refine Go.st (fun _ => XS.aloadN X12.here hx rfl (hb hby own_d_prog_51_method_4_code_17) rfl rfl) ?_
  show Go p.tables e below P (T12.setTop (mkF m 18 #[.val (.ref p0), .val p1] [(.ref p0), p1, (.int pz), pn, (.int pk), (.ref b1), (.ref b1)]))
  have c13 := (hp4.ext E1)
  obtain ⟨T14, X14, e14, st14⟩ := getF X12 hx hZ hown (host := "") (Or.inl (hw _ (List.mem_of_getElem? (i := 54) rfl))) Via.refl e12 c13 (g := (mkF m 18 #[.val (.ref p0), .val p1] [(.ref p0), p1, (.int pz), pn, (.int pk), (.ref b1), (.ref b1)])) rfl rfl (hb hby own_d_prog_51_method_4_code_18)
  refine Go.st st14 ?_
  show Go p.tables e below P (T14.setTop (mkF m 21 #[.val (.ref p0), .val p1] [(.ref pc), p1, (.int pz), pn, (.int pk), (.ref b1), (.ref b1)]))
  have c16 := (hp0.ext E1)
  obtain ⟨_, _, ⟨T15, L15, k15, n15⟩, -, X15, hS15, hg15, ⟨Lc15, hQ15, l15, y15, z15, hCR15⟩, st15⟩ := X14.specialBackS hx (y := (⟨"com/example/crisp_fixture/crispfixture/dialect/Dialect$ColumnType", "<init>", "(ILjava/lang/String;ILjava/lang/String;Lcom/example/crisp_fixture/crispfixture/dialect/Dialect$Content;)V"⟩ : MethodName)) rfl hown (mvT hZ (hw _ (List.mem_of_getElem? (i := 62) rfl))) (mvT hZ (hw _ (List.mem_of_getElem? (i := 33) rfl))) (mvT hZ (hw _ (List.mem_of_getElem? (i := 34) rfl))) (by decide) (backOfSH (W := 1) (rm_ini l Z a0 hw [] w_A S_A X_A w_B S_B X_B w_C S_C X_C w_D S_D X_D g_CS S_CS nz_CS b1 pk pn pz p1 pc h1 n0 O1 A1 F2 F3 F4 F5 F6 g_b1 hrn hr1) hZ (hw _ (List.mem_of_getElem? (i := 34) rfl)) (hw _ (List.mem_of_getElem? (i := 31) rfl)) (by decide) (by decide) hEL CR1.1) (g := (mkF m 21 #[.val (.ref p0), .val p1] [(.ref pc), p1, (.int pz), pn, (.int pk), (.ref b1), (.ref b1)])) rfl (by rw [hml]; rfl) (Steps.refl _) (a := b1) (argsL := [(.int pk), pn, (.int pz), p1, (.ref pc)]) (rest := [(.ref b1)]) (lenOf own_pd5 rfl) rfl (by show 2 * 0 + _ ≤ _; exact Nat.le_of_eq rfl) (hb hby own_d_prog_51_method_4_code_21) (fun _ _ => ⟨rfl, e14, (by decide : 1 + 2 ≤ _), (by decide : 5 + 32 ≤ _)⟩)
  dsimp only [Pt.U, Pt.locs, Pt.cells, Pt.slots] at X15 l15 y15 z15 st15 hQ15 hS15 hg15 hCR15
  subst l15 y15 z15
  refine Go.tr st15 ?_
  obtain ⟨XX15, hSS15, hZ15, hown15⟩ := rebS hS0 (by rw [e14]; exact (Nat.le_trans hk0 E1.1)) X15 hS15 hg15 hZ hown
  obtain ⟨rfl, N15q, K15q, q15_0, q15_1, q15_2, q15_3, q15_4, q15_5⟩ := hQ15
  have N15 := Fr.app N0 N15q
  have sf17 := hCR15.safe A1.lt SF_b1
  have CR15 := CR1.trans hCR15
  have O15 := O1.keep K15q (allS g_b1 all0)
  have K15 : Keep h0 T15.heap [] := K1.trans K15q (allS (Or.inr sz_b1) all0)
  show Go p.tables e below P (T15.setTop (mkF m 24 #[.val (.ref p0), .val p1] [(.ref b1)]))
  obtain ⟨fs, hr, hrun, hended, -, hW, hpair, hsame⟩ := XX15.leaveW hSS15 (Nat.le_refl _) (v := some (.ref b1)) (fun h => by rw [Bd.returns] at h; cases h)
  have hCRe := CR15.trans (CHv.at XX15 hZ15 hEL CR15.1)
  refine ⟨_, ?_, hPend _ _ hrun hended ⟨_, _, rfl, ?_, ?_, ⟨_, rfl⟩, hW, hpair, hsame.mono (by decide) (by decide)⟩⟩
  · exact retOut XX15 hx (t := (.object "com/example/crisp_fixture/crispfixture/dialect/Dialect$ColumnType")) Bd.returns rfl (Or.inr (Or.inr (Or.inr (Or.inr ⟨rfl, rfl, rfl⟩)))) (hb hby own_d_prog_51_method_4_code_24) hr
  · show Q_rm_wb Z _ _ _ _ _ _ _ _ _ _ _ h0 n0 _ T15.heap _
    exact ⟨b1, rfl, N15, K15, sz_b1, q15_0, q15_1, q15_2, q15_3, q15_4, q15_5⟩
  · show CHr Z consts_1 s.vm s.heap T15.vm T15.heap
    rw [hh]
    exact hCRe
theorem own_ef_rm_gc (m : MethodId) (x0 : Addr) : entryFrame m #[(.ref x0)] 1 = mkF m 0 #[.val (.ref x0)] [] := by first | (simp [entryFrame, mkF, argsToLocals, Value.category]; done) | rfl
theorem own_d_prog_51_method_9_code_0 : decode prog_51_method_9_code 0 = .ok (.aload_n 0, 1) := by decide +kernel
theorem own_d_prog_51_method_9_code_1 : decode prog_51_method_9_code 1 = .ok (.getfield 15, 3) := by decide +kernel
theorem own_d_prog_51_method_9_code_4 : decode prog_51_method_9_code 4 = .ok (.ireturn, 1) := by decide +kernel
def Q_rm_gc (Z : State) (w_A : Addr) (w_B : Addr) (w_C : Addr) (w_D : Addr) (g_CS : Int32) (p0 : Addr) (pv : Int32) (h0 : Heap) (n0 : Nat) (v : Option Value) (h : Heap) (L : List Loc) : Prop := v = some (.int pv) ∧ Fr n0 L ∧ h = h0
set_option maxRecDepth 65536 in
set_option maxHeartbeats 40000000 in
theorem rm_gc (l : Launch) (Z : State) (a0 : Array Value) (hw : ∀ d ∈ tables_1, d.before a0 Z = true) (ws : List Jvm.Cond) (w_A : Addr) (S_A : Sta Z Z.heap "com/example/crisp_fixture/crispfixture/dialect/Dialect$Content" "BY_CODE" "Lcom/example/crisp_fixture/crispfixture/dialect/Dialect$Content;" (.ref w_A)) (X_A : Exa Z Z.heap w_A "com/example/crisp_fixture/crispfixture/dialect/Dialect$Content") (w_B : Addr) (S_B : Sta Z Z.heap "com/example/crisp_fixture/crispfixture/dialect/Dialect$Content" "JSON_MEMBERS_IN_ORDER" "Lcom/example/crisp_fixture/crispfixture/dialect/Dialect$Content;" (.ref w_B)) (X_B : Exa Z Z.heap w_B "com/example/crisp_fixture/crispfixture/dialect/Dialect$Content") (w_C : Addr) (S_C : Sta Z Z.heap "com/example/crisp_fixture/crispfixture/dialect/Dialect$Content" "JSON_MEMBERS_BY_NAME" "Lcom/example/crisp_fixture/crispfixture/dialect/Dialect$Content;" (.ref w_C)) (X_C : Exa Z Z.heap w_C "com/example/crisp_fixture/crispfixture/dialect/Dialect$Content") (w_D : Addr) (S_D : Sta Z Z.heap "com/example/crisp_fixture/crispfixture/dialect/Dialect$Content" "UUID" "Lcom/example/crisp_fixture/crispfixture/dialect/Dialect$Content;" (.ref w_D)) (X_D : Exa Z Z.heap w_D "com/example/crisp_fixture/crispfixture/dialect/Dialect$Content") (g_CS : Int32) (S_CS : Sta Z Z.heap "java/lang/String" "COMPACT_STRINGS" "Z" (.int g_CS)) (nz_CS : ¬ (g_CS = (0 : Int32))) (p0 : Addr) (pv : Int32) (h0 : Heap) (n0 : Nat) (X00 : Old Z n0 h0) (hp0 : Fld Z h0 p0 "com/example/crisp_fixture/crispfixture/dialect/Dialect$ColumnType" "code" "I" (.int pv)) :
    MetFree l (⟨"com/example/crisp_fixture/crispfixture/dialect/Dialect$ColumnType", "code", "()I"⟩ : MethodName) (head1 (Jvm.Cond.code (⟨"com/example/crisp_fixture/crispfixture/dialect/Dialect$ColumnType", "code", "()I"⟩ : MethodName) prog_51_method_9_code 1 (some .int) :: ws) ({ frames := 0, cells := 0, slots := 0, locals := 0 } : Room)) (fun a U => a = #[(.ref p0)] ∧ Z.Warmed39 U.vm ∧ U.heap = h0) (fun _ _ _ _ _ => True) (fun _ U o U' => ∃ v L, o = .returned v ∧ Q_rm_gc Z w_A w_B w_C w_D g_CS p0 pv h0 n0 v U'.heap L ∧ FrameEnd U o U' L ({ frames := 0, cells := 0, slots := 0, locals := 0 } : Room).cells ({ frames := 0, cells := 0, slots := 0, locals := 0 } : Room).slots) := by
  refine MetFree.of_bodySF (plainFor_of_name own_pn4) hisR ?_
  intro p e s m args below meth c s₁ Bd hml0 hP hK
  obtain ⟨rfl, hZ, hh⟩ := hP
  have hx := Bd.exec
  have hby := Bd.bytes
  have hml : c.maxLocals = 1 := hml0
  have hown : s.vm.findClass "com/example/crisp_fixture/crispfixture/dialect/Dialect$ColumnType" = some m.cls := findClass_of_methodNamed Bd.named
  have hnm := (name_of_methodNamed Bd.named Bd.method).1
  have X0 : Stand p l e ({ frames := 0, cells := 0, slots := 0, locals := 0 } : Room) s m #[(.ref p0)] below meth c s₁ [] 0 0 := Stand.of_body Bd
  have e0 : s₁.heap = h0 := by rw [← hh, Bd.state]; rfl
  have N0 := Fr.nil n0
  refine Go.start fun P hPend => ?_
  refine Go.st (fun _ k => castTop (own_ef_rm_gc m p0) k) ?_
  show Go p.tables e below P (s₁.setTop (mkF m 0 #[.val (.ref p0)] []))
  refine Go.st (fun _ => XS.aloadN X0.here hx rfl (hb hby own_d_prog_51_method_9_code_0) rfl rfl) ?_
  show Go p.tables e below P (s₁.setTop (mkF m 1 #[.val (.ref p0)] [(.ref p0)]))
  obtain ⟨T1, X1, e1, st1⟩ := getF X0 hx hZ hown (host := "") (Or.inl (hw _ (List.mem_of_getElem? (i := 46) rfl))) Via.refl e0 hp0 (g := (mkF m 1 #[.val (.ref p0)] [(.ref p0)])) rfl rfl (hb hby own_d_prog_51_method_9_code_1)
  refine Go.st st1 ?_
  show Go p.tables e below P (T1.setTop (mkF m 4 #[.val (.ref p0)] [(.int pv)]))
  obtain ⟨fs, hr, hrun, hended, hW, hsame⟩ := X1.leave (v := some (.int pv)) (fun h => by rw [Bd.returns] at h; cases h)
  refine ⟨_, ?_, hPend _ _ hrun hended ⟨_, _, rfl, ?_, ⟨_, rfl⟩, hW, hsame.mono (by decide) (by decide)⟩⟩
  · exact retOut X1 hx (t := .int) Bd.returns rfl (Or.inl ⟨rfl, Or.inl rfl, _, rfl⟩) (hb hby own_d_prog_51_method_9_code_4) hr
  · show Q_rm_gc Z _ _ _ _ _ _ _ h0 n0 _ T1.heap _
    rw [e1]
    exact ⟨rfl, N0, rfl⟩
theorem own_ef_rm_gn (m : MethodId) (x0 : Addr) : entryFrame m #[(.ref x0)] 1 = mkF m 0 #[.val (.ref x0)] [] := by first | (simp [entryFrame, mkF, argsToLocals, Value.category]; done) | rfl
theorem own_d_prog_51_method_10_code_0 : decode prog_51_method_10_code 0 = .ok (.aload_n 0, 1) := by decide +kernel
theorem own_d_prog_51_method_10_code_1 : decode prog_51_method_10_code 1 = .ok (.getfield 21, 3) := by decide +kernel
theorem own_d_prog_51_method_10_code_4 : decode prog_51_method_10_code 4 = .ok (.areturn, 1) := by decide +kernel
def Q_rm_gn (Z : State) (w_A : Addr) (w_B : Addr) (w_C : Addr) (w_D : Addr) (g_CS : Int32) (p0 : Addr) (pv : Value) (h0 : Heap) (n0 : Nat) (v : Option Value) (h : Heap) (L : List Loc) : Prop := v = some pv ∧ Fr n0 L ∧ h = h0
set_option maxRecDepth 65536 in
set_option maxHeartbeats 40000000 in
theorem rm_gn (l : Launch) (Z : State) (a0 : Array Value) (hw : ∀ d ∈ tables_1, d.before a0 Z = true) (ws : List Jvm.Cond) (w_A : Addr) (S_A : Sta Z Z.heap "com/example/crisp_fixture/crispfixture/dialect/Dialect$Content" "BY_CODE" "Lcom/example/crisp_fixture/crispfixture/dialect/Dialect$Content;" (.ref w_A)) (X_A : Exa Z Z.heap w_A "com/example/crisp_fixture/crispfixture/dialect/Dialect$Content") (w_B : Addr) (S_B : Sta Z Z.heap "com/example/crisp_fixture/crispfixture/dialect/Dialect$Content" "JSON_MEMBERS_IN_ORDER" "Lcom/example/crisp_fixture/crispfixture/dialect/Dialect$Content;" (.ref w_B)) (X_B : Exa Z Z.heap w_B "com/example/crisp_fixture/crispfixture/dialect/Dialect$Content") (w_C : Addr) (S_C : Sta Z Z.heap "com/example/crisp_fixture/crispfixture/dialect/Dialect$Content" "JSON_MEMBERS_BY_NAME" "Lcom/example/crisp_fixture/crispfixture/dialect/Dialect$Content;" (.ref w_C)) (X_C : Exa Z Z.heap w_C "com/example/crisp_fixture/crispfixture/dialect/Dialect$Content") (w_D : Addr) (S_D : Sta Z Z.heap "com/example/crisp_fixture/crispfixture/dialect/Dialect$Content" "UUID" "Lcom/example/crisp_fixture/crispfixture/dialect/Dialect$Content;" (.ref w_D)) (X_D : Exa Z Z.heap w_D "com/example/crisp_fixture/crispfixture/dialect/Dialect$Content") (g_CS : Int32) (S_CS : Sta Z Z.heap "java/lang/String" "COMPACT_STRINGS" "Z" (.int g_CS)) (nz_CS : ¬ (g_CS = (0 : Int32))) (p0 : Addr) (pv : Value) (h0 : Heap) (n0 : Nat) (X00 : Old Z n0 h0) (hp0 : Fld Z h0 p0 "com/example/crisp_fixture/crispfixture/dialect/Dialect$ColumnType" "name" "Ljava/lang/String;" pv) (hrv : pv.isRef = true) :
    MetFree l (⟨"com/example/crisp_fixture/crispfixture/dialect/Dialect$ColumnType", "name", "()Ljava/lang/String;"⟩ : MethodName) (head1 (Jvm.Cond.code (⟨"com/example/crisp_fixture/crispfixture/dialect/Dialect$ColumnType", "name", "()Ljava/lang/String;"⟩ : MethodName) prog_51_method_10_code 1 (some (.object "java/lang/String")) :: ws) ({ frames := 0, cells := 0, slots := 0, locals := 0 } : Room)) (fun a U => a = #[(.ref p0)] ∧ Z.Warmed39 U.vm ∧ U.heap = h0) (fun _ _ _ _ _ => True) (fun _ U o U' => ∃ v L, o = .returned v ∧ Q_rm_gn Z w_A w_B w_C w_D g_CS p0 pv h0 n0 v U'.heap L ∧ FrameEnd U o U' L ({ frames := 0, cells := 0, slots := 0, locals := 0 } : Room).cells ({ frames := 0, cells := 0, slots := 0, locals := 0 } : Room).slots) := by
  refine MetFree.of_bodySF (plainFor_of_name own_pn4) hisR ?_
  intro p e s m args below meth c s₁ Bd hml0 hP hK
  obtain ⟨rfl, hZ, hh⟩ := hP
  have hx := Bd.exec
  have hby := Bd.bytes
  have hml : c.maxLocals = 1 := hml0
  have hown : s.vm.findClass "com/example/crisp_fixture/crispfixture/dialect/Dialect$ColumnType" = some m.cls := findClass_of_methodNamed Bd.named
  have hnm := (name_of_methodNamed Bd.named Bd.method).1
  have X0 : Stand p l e ({ frames := 0, cells := 0, slots := 0, locals := 0 } : Room) s m #[(.ref p0)] below meth c s₁ [] 0 0 := Stand.of_body Bd
  have e0 : s₁.heap = h0 := by rw [← hh, Bd.state]; rfl
  have N0 := Fr.nil n0
  refine Go.start fun P hPend => ?_
  refine Go.st (fun _ k => castTop (own_ef_rm_gn m p0) k) ?_
  show Go p.tables e below P (s₁.setTop (mkF m 0 #[.val (.ref p0)] []))
  refine Go.st (fun _ => XS.aloadN X0.here hx rfl (hb hby own_d_prog_51_method_10_code_0) rfl rfl) ?_
  show Go p.tables e below P (s₁.setTop (mkF m 1 #[.val (.ref p0)] [(.ref p0)]))
  obtain ⟨T1, X1, e1, st1⟩ := getF X0 hx hZ hown (host := "") (Or.inl (hw _ (List.mem_of_getElem? (i := 48) rfl))) Via.refl e0 hp0 (g := (mkF m 1 #[.val (.ref p0)] [(.ref p0)])) rfl rfl (hb hby own_d_prog_51_method_10_code_1)
  refine Go.st st1 ?_
  show Go p.tables e below P (T1.setTop (mkF m 4 #[.val (.ref p0)] [pv]))
  obtain ⟨fs, hr, hrun, hended, hW, hsame⟩ := X1.leave (v := some pv) (fun h => by rw [Bd.returns] at h; cases h)
  refine ⟨_, ?_, hPend _ _ hrun hended ⟨_, _, rfl, ?_, ⟨_, rfl⟩, hW, hsame.mono (by decide) (by decide)⟩⟩
  · exact retOut X1 hx (t := (.object "java/lang/String")) Bd.returns (own_nar_ref hrv) (Or.inr (Or.inr (Or.inr (Or.inr ⟨rfl, rfl, hrv⟩)))) (hb hby own_d_prog_51_method_10_code_4) hr
  · show Q_rm_gn Z _ _ _ _ _ _ _ h0 n0 _ T1.heap _
    rw [e1]
    exact ⟨rfl, N0, rfl⟩
theorem own_ef_rm_gs (m : MethodId) (x0 : Addr) : entryFrame m #[(.ref x0)] 1 = mkF m 0 #[.val (.ref x0)] [] := by first | (simp [entryFrame, mkF, argsToLocals, Value.category]; done) | rfl
theorem own_d_prog_51_method_11_code_0 : decode prog_51_method_11_code 0 = .ok (.aload_n 0, 1) := by decide +kernel
theorem own_d_prog_51_method_11_code_1 : decode prog_51_method_11_code 1 = .ok (.getfield 25, 3) := by decide +kernel
theorem own_d_prog_51_method_11_code_4 : decode prog_51_method_11_code 4 = .ok (.ireturn, 1) := by decide +kernel
def Q_rm_gs (Z : State) (w_A : Addr) (w_B : Addr) (w_C : Addr) (w_D : Addr) (g_CS : Int32) (p0 : Addr) (pv : Int32) (h0 : Heap) (n0 : Nat) (v : Option Value) (h : Heap) (L : List Loc) : Prop := v = some (.int pv) ∧ Fr n0 L ∧ h = h0
set_option maxRecDepth 65536 in
set_option maxHeartbeats 40000000 in
theorem rm_gs (l : Launch) (Z : State) (a0 : Array Value) (hw : ∀ d ∈ tables_1, d.before a0 Z = true) (ws : List Jvm.Cond) (w_A : Addr) (S_A : Sta Z Z.heap "com/example/crisp_fixture/crispfixture/dialect/Dialect$Content" "BY_CODE" "Lcom/example/crisp_fixture/crispfixture/dialect/Dialect$Content;" (.ref w_A)) (X_A : Exa Z Z.heap w_A "com/example/crisp_fixture/crispfixture/dialect/Dialect$Content") (w_B : Addr) (S_B : Sta Z Z.heap "com/example/crisp_fixture/crispfixture/dialect/Dialect$Content" "JSON_MEMBERS_IN_ORDER" "Lcom/example/crisp_fixture/crispfixture/dialect/Dialect$Content;" (.ref w_B)) (X_B : Exa Z Z.heap w_B "com/example/crisp_fixture/crispfixture/dialect/Dialect$Content") (w_C : Addr) (S_C : Sta Z Z.heap "com/example/crisp_fixture/crispfixture/dialect/Dialect$Content" "JSON_MEMBERS_BY_NAME" "Lcom/example/crisp_fixture/crispfixture/dialect/Dialect$Content;" (.ref w_C)) (X_C : Exa Z Z.heap w_C "com/example/crisp_fixture/crispfixture/dialect/Dialect$Content") (w_D : Addr) (S_D : Sta Z Z.heap "com/example/crisp_fixture/crispfixture/dialect/Dialect$Content" "UUID" "Lcom/example/crisp_fixture/crispfixture/dialect/Dialect$Content;" (.ref w_D)) (X_D : Exa Z Z.heap w_D "com/example/crisp_fixture/crispfixture/dialect/Dialect$Content") (g_CS : Int32) (S_CS : Sta Z Z.heap "java/lang/String" "COMPACT_STRINGS" "Z" (.int g_CS)) (nz_CS : ¬ (g_CS = (0 : Int32))) (p0 : Addr) (pv : Int32) (h0 : Heap) (n0 : Nat) (X00 : Old Z n0 h0) (hp0 : Fld Z h0 p0 "com/example/crisp_fixture/crispfixture/dialect/Dialect$ColumnType" "size" "I" (.int pv)) :
    MetFree l (⟨"com/example/crisp_fixture/crispfixture/dialect/Dialect$ColumnType", "size", "()I"⟩ : MethodName) (head1 (Jvm.Cond.code (⟨"com/example/crisp_fixture/crispfixture/dialect/Dialect$ColumnType", "size", "()I"⟩ : MethodName) prog_51_method_11_code 1 (some .int) :: ws) ({ frames := 0, cells := 0, slots := 0, locals := 0 } : Room)) (fun a U => a = #[(.ref p0)] ∧ Z.Warmed39 U.vm ∧ U.heap = h0) (fun _ _ _ _ _ => True) (fun _ U o U' => ∃ v L, o = .returned v ∧ Q_rm_gs Z w_A w_B w_C w_D g_CS p0 pv h0 n0 v U'.heap L ∧ FrameEnd U o U' L ({ frames := 0, cells := 0, slots := 0, locals := 0 } : Room).cells ({ frames := 0, cells := 0, slots := 0, locals := 0 } : Room).slots) := by
  refine MetFree.of_bodySF (plainFor_of_name own_pn4) hisR ?_
  intro p e s m args below meth c s₁ Bd hml0 hP hK
  obtain ⟨rfl, hZ, hh⟩ := hP
  have hx := Bd.exec
  have hby := Bd.bytes
  have hml : c.maxLocals = 1 := hml0
  have hown : s.vm.findClass "com/example/crisp_fixture/crispfixture/dialect/Dialect$ColumnType" = some m.cls := findClass_of_methodNamed Bd.named
  have hnm := (name_of_methodNamed Bd.named Bd.method).1
  have X0 : Stand p l e ({ frames := 0, cells := 0, slots := 0, locals := 0 } : Room) s m #[(.ref p0)] below meth c s₁ [] 0 0 := Stand.of_body Bd
  have e0 : s₁.heap = h0 := by rw [← hh, Bd.state]; rfl
  have N0 := Fr.nil n0
  refine Go.start fun P hPend => ?_
  refine Go.st (fun _ k => castTop (own_ef_rm_gs m p0) k) ?_
  show Go p.tables e below P (s₁.setTop (mkF m 0 #[.val (.ref p0)] []))
  refine Go.st (fun _ => XS.aloadN X0.here hx rfl (hb hby own_d_prog_51_method_11_code_0) rfl rfl) ?_
  show Go p.tables e below P (s₁.setTop (mkF m 1 #[.val (.ref p0)] [(.ref p0)]))
  obtain ⟨T1, X1, e1, st1⟩ := getF X0 hx hZ hown (host := "") (Or.inl (hw _ (List.mem_of_getElem? (i := 50) rfl))) Via.refl e0 hp0 (g := (mkF m 1 #[.val (.ref p0)] [(.ref p0)])) rfl rfl (hb hby own_d_prog_51_method_11_code_1)
  refine Go.st st1 ?_
  show Go p.tables e below P (T1.setTop (mkF m 4 #[.val (.ref p0)] [(.int pv)]))
  obtain ⟨fs, hr, hrun, hended, hW, hsame⟩ := X1.leave (v := some (.int pv)) (fun h => by rw [Bd.returns] at h; cases h)
  refine ⟨_, ?_, hPend _ _ hrun hended ⟨_, _, rfl, ?_, ⟨_, rfl⟩, hW, hsame.mono (by decide) (by decide)⟩⟩
  · exact retOut X1 hx (t := .int) Bd.returns rfl (Or.inl ⟨rfl, Or.inl rfl, _, rfl⟩) (hb hby own_d_prog_51_method_11_code_4) hr
  · show Q_rm_gs Z _ _ _ _ _ _ _ h0 n0 _ T1.heap _
    rw [e1]
    exact ⟨rfl, N0, rfl⟩
theorem own_ef_rm_gb (m : MethodId) (x0 : Addr) : entryFrame m #[(.ref x0)] 1 = mkF m 0 #[.val (.ref x0)] [] := by first | (simp [entryFrame, mkF, argsToLocals, Value.category]; done) | rfl
theorem own_d_prog_51_method_12_code_0 : decode prog_51_method_12_code 0 = .ok (.aload_n 0, 1) := by decide +kernel
theorem own_d_prog_51_method_12_code_1 : decode prog_51_method_12_code 1 = .ok (.getfield 28, 3) := by decide +kernel
theorem own_d_prog_51_method_12_code_4 : decode prog_51_method_12_code 4 = .ok (.areturn, 1) := by decide +kernel
def Q_rm_gb (Z : State) (w_A : Addr) (w_B : Addr) (w_C : Addr) (w_D : Addr) (g_CS : Int32) (p0 : Addr) (pv : Value) (h0 : Heap) (n0 : Nat) (v : Option Value) (h : Heap) (L : List Loc) : Prop := v = some pv ∧ Fr n0 L ∧ h = h0
set_option maxRecDepth 65536 in
set_option maxHeartbeats 40000000 in
theorem rm_gb (l : Launch) (Z : State) (a0 : Array Value) (hw : ∀ d ∈ tables_1, d.before a0 Z = true) (ws : List Jvm.Cond) (w_A : Addr) (S_A : Sta Z Z.heap "com/example/crisp_fixture/crispfixture/dialect/Dialect$Content" "BY_CODE" "Lcom/example/crisp_fixture/crispfixture/dialect/Dialect$Content;" (.ref w_A)) (X_A : Exa Z Z.heap w_A "com/example/crisp_fixture/crispfixture/dialect/Dialect$Content") (w_B : Addr) (S_B : Sta Z Z.heap "com/example/crisp_fixture/crispfixture/dialect/Dialect$Content" "JSON_MEMBERS_IN_ORDER" "Lcom/example/crisp_fixture/crispfixture/dialect/Dialect$Content;" (.ref w_B)) (X_B : Exa Z Z.heap w_B "com/example/crisp_fixture/crispfixture/dialect/Dialect$Content") (w_C : Addr) (S_C : Sta Z Z.heap "com/example/crisp_fixture/crispfixture/dialect/Dialect$Content" "JSON_MEMBERS_BY_NAME" "Lcom/example/crisp_fixture/crispfixture/dialect/Dialect$Content;" (.ref w_C)) (X_C : Exa Z Z.heap w_C "com/example/crisp_fixture/crispfixture/dialect/Dialect$Content") (w_D : Addr) (S_D : Sta Z Z.heap "com/example/crisp_fixture/crispfixture/dialect/Dialect$Content" "UUID" "Lcom/example/crisp_fixture/crispfixture/dialect/Dialect$Content;" (.ref w_D)) (X_D : Exa Z Z.heap w_D "com/example/crisp_fixture/crispfixture/dialect/Dialect$Content") (g_CS : Int32) (S_CS : Sta Z Z.heap "java/lang/String" "COMPACT_STRINGS" "Z" (.int g_CS)) (nz_CS : ¬ (g_CS = (0 : Int32))) (p0 : Addr) (pv : Value) (h0 : Heap) (n0 : Nat) (X00 : Old Z n0 h0) (hp0 : Fld Z h0 p0 "com/example/crisp_fixture/crispfixture/dialect/Dialect$ColumnType" "baseName" "Ljava/lang/String;" pv) (hrv : pv.isRef = true) :
    MetFree l (⟨"com/example/crisp_fixture/crispfixture/dialect/Dialect$ColumnType", "baseName", "()Ljava/lang/String;"⟩ : MethodName) (head1 (Jvm.Cond.code (⟨"com/example/crisp_fixture/crispfixture/dialect/Dialect$ColumnType", "baseName", "()Ljava/lang/String;"⟩ : MethodName) prog_51_method_12_code 1 (some (.object "java/lang/String")) :: ws) ({ frames := 0, cells := 0, slots := 0, locals := 0 } : Room)) (fun a U => a = #[(.ref p0)] ∧ Z.Warmed39 U.vm ∧ U.heap = h0) (fun _ _ _ _ _ => True) (fun _ U o U' => ∃ v L, o = .returned v ∧ Q_rm_gb Z w_A w_B w_C w_D g_CS p0 pv h0 n0 v U'.heap L ∧ FrameEnd U o U' L ({ frames := 0, cells := 0, slots := 0, locals := 0 } : Room).cells ({ frames := 0, cells := 0, slots := 0, locals := 0 } : Room).slots) := by
  refine MetFree.of_bodySF (plainFor_of_name own_pn4) hisR ?_
  intro p e s m args below meth c s₁ Bd hml0 hP hK
  obtain ⟨rfl, hZ, hh⟩ := hP
  have hx := Bd.exec
  have hby := Bd.bytes
  have hml : c.maxLocals = 1 := hml0
  have hown : s.vm.findClass "com/example/crisp_fixture/crispfixture/dialect/Dialect$ColumnType" = some m.cls := findClass_of_methodNamed Bd.named
  have hnm := (name_of_methodNamed Bd.named Bd.method).1
  have X0 : Stand p l e ({ frames := 0, cells := 0, slots := 0, locals := 0 } : Room) s m #[(.ref p0)] below meth c s₁ [] 0 0 := Stand.of_body Bd
  have e0 : s₁.heap = h0 := by rw [← hh, Bd.state]; rfl
  have N0 := Fr.nil n0
  refine Go.start fun P hPend => ?_
  refine Go.st (fun _ k => castTop (own_ef_rm_gb m p0) k) ?_
  show Go p.tables e below P (s₁.setTop (mkF m 0 #[.val (.ref p0)] []))
  refine Go.st (fun _ => XS.aloadN X0.here hx rfl (hb hby own_d_prog_51_method_12_code_0) rfl rfl) ?_
  show Go p.tables e below P (s₁.setTop (mkF m 1 #[.val (.ref p0)] [(.ref p0)]))
  obtain ⟨T1, X1, e1, st1⟩ := getF X0 hx hZ hown (host := "") (Or.inl (hw _ (List.mem_of_getElem? (i := 52) rfl))) Via.refl e0 hp0 (g := (mkF m 1 #[.val (.ref p0)] [(.ref p0)])) rfl rfl (hb hby own_d_prog_51_method_12_code_1)
  refine Go.st st1 ?_
  show Go p.tables e below P (T1.setTop (mkF m 4 #[.val (.ref p0)] [pv]))
  obtain ⟨fs, hr, hrun, hended, hW, hsame⟩ := X1.leave (v := some pv) (fun h => by rw [Bd.returns] at h; cases h)
  refine ⟨_, ?_, hPend _ _ hrun hended ⟨_, _, rfl, ?_, ⟨_, rfl⟩, hW, hsame.mono (by decide) (by decide)⟩⟩
  · exact retOut X1 hx (t := (.object "java/lang/String")) Bd.returns (own_nar_ref hrv) (Or.inr (Or.inr (Or.inr (Or.inr ⟨rfl, rfl, hrv⟩)))) (hb hby own_d_prog_51_method_12_code_4) hr
  · show Q_rm_gb Z _ _ _ _ _ _ _ h0 n0 _ T1.heap _
    rw [e1]
    exact ⟨rfl, N0, rfl⟩
theorem own_ef_rm_gt (m : MethodId) (x0 : Addr) : entryFrame m #[(.ref x0)] 1 = mkF m 0 #[.val (.ref x0)] [] := by first | (simp [entryFrame, mkF, argsToLocals, Value.category]; done) | rfl
theorem own_d_prog_51_method_13_code_0 : decode prog_51_method_13_code 0 = .ok (.aload_n 0, 1) := by decide +kernel
theorem own_d_prog_51_method_13_code_1 : decode prog_51_method_13_code 1 = .ok (.getfield 31, 3) := by decide +kernel
theorem own_d_prog_51_method_13_code_4 : decode prog_51_method_13_code 4 = .ok (.areturn, 1) := by decide +kernel
def Q_rm_gt (Z : State) (w_A : Addr) (w_B : Addr) (w_C : Addr) (w_D : Addr) (g_CS : Int32) (p0 : Addr) (pv : Addr) (h0 : Heap) (n0 : Nat) (v : Option Value) (h : Heap) (L : List Loc) : Prop := v = some (.ref pv) ∧ Fr n0 L ∧ h = h0
set_option maxRecDepth 65536 in
set_option maxHeartbeats 40000000 in
theorem rm_gt (l : Launch) (Z : State) (a0 : Array Value) (hw : ∀ d ∈ tables_1, d.before a0 Z = true) (ws : List Jvm.Cond) (w_A : Addr) (S_A : Sta Z Z.heap "com/example/crisp_fixture/crispfixture/dialect/Dialect$Content" "BY_CODE" "Lcom/example/crisp_fixture/crispfixture/dialect/Dialect$Content;" (.ref w_A)) (X_A : Exa Z Z.heap w_A "com/example/crisp_fixture/crispfixture/dialect/Dialect$Content") (w_B : Addr) (S_B : Sta Z Z.heap "com/example/crisp_fixture/crispfixture/dialect/Dialect$Content" "JSON_MEMBERS_IN_ORDER" "Lcom/example/crisp_fixture/crispfixture/dialect/Dialect$Content;" (.ref w_B)) (X_B : Exa Z Z.heap w_B "com/example/crisp_fixture/crispfixture/dialect/Dialect$Content") (w_C : Addr) (S_C : Sta Z Z.heap "com/example/crisp_fixture/crispfixture/dialect/Dialect$Content" "JSON_MEMBERS_BY_NAME" "Lcom/example/crisp_fixture/crispfixture/dialect/Dialect$Content;" (.ref w_C)) (X_C : Exa Z Z.heap w_C "com/example/crisp_fixture/crispfixture/dialect/Dialect$Content") (w_D : Addr) (S_D : Sta Z Z.heap "com/example/crisp_fixture/crispfixture/dialect/Dialect$Content" "UUID" "Lcom/example/crisp_fixture/crispfixture/dialect/Dialect$Content;" (.ref w_D)) (X_D : Exa Z Z.heap w_D "com/example/crisp_fixture/crispfixture/dialect/Dialect$Content") (g_CS : Int32) (S_CS : Sta Z Z.heap "java/lang/String" "COMPACT_STRINGS" "Z" (.int g_CS)) (nz_CS : ¬ (g_CS = (0 : Int32))) (p0 : Addr) (pv : Addr) (h0 : Heap) (n0 : Nat) (X00 : Old Z n0 h0) (hp0 : Fld Z h0 p0 "com/example/crisp_fixture/crispfixture/dialect/Dialect$ColumnType" "content" "Lcom/example/crisp_fixture/crispfixture/dialect/Dialect$Content;" (.ref pv)) :
    MetFree l (⟨"com/example/crisp_fixture/crispfixture/dialect/Dialect$ColumnType", "content", "()Lcom/example/crisp_fixture/crispfixture/dialect/Dialect$Content;"⟩ : MethodName) (head1 (Jvm.Cond.code (⟨"com/example/crisp_fixture/crispfixture/dialect/Dialect$ColumnType", "content", "()Lcom/example/crisp_fixture/crispfixture/dialect/Dialect$Content;"⟩ : MethodName) prog_51_method_13_code 1 (some (.object "com/example/crisp_fixture/crispfixture/dialect/Dialect$Content")) :: ws) ({ frames := 0, cells := 0, slots := 0, locals := 0 } : Room)) (fun a U => a = #[(.ref p0)] ∧ Z.Warmed39 U.vm ∧ U.heap = h0) (fun _ _ _ _ _ => True) (fun _ U o U' => ∃ v L, o = .returned v ∧ Q_rm_gt Z w_A w_B w_C w_D g_CS p0 pv h0 n0 v U'.heap L ∧ FrameEnd U o U' L ({ frames := 0, cells := 0, slots := 0, locals := 0 } : Room).cells ({ frames := 0, cells := 0, slots := 0, locals := 0 } : Room).slots) := by
  refine MetFree.of_bodySF (plainFor_of_name own_pn4) hisR ?_
  intro p e s m args below meth c s₁ Bd hml0 hP hK
  obtain ⟨rfl, hZ, hh⟩ := hP
  have hx := Bd.exec
  have hby := Bd.bytes
  have hml : c.maxLocals = 1 := hml0
  have hown : s.vm.findClass "com/example/crisp_fixture/crispfixture/dialect/Dialect$ColumnType" = some m.cls := findClass_of_methodNamed Bd.named
  have hnm := (name_of_methodNamed Bd.named Bd.method).1
  have X0 : Stand p l e ({ frames := 0, cells := 0, slots := 0, locals := 0 } : Room) s m #[(.ref p0)] below meth c s₁ [] 0 0 := Stand.of_body Bd
  have e0 : s₁.heap = h0 := by rw [← hh, Bd.state]; rfl
  have N0 := Fr.nil n0
  refine Go.start fun P hPend => ?_
  refine Go.st (fun _ k => castTop (own_ef_rm_gt m p0) k) ?_
  show Go p.tables e below P (s₁.setTop (mkF m 0 #[.val (.ref p0)] []))
  refine Go.st (fun _ => XS.aloadN X0.here hx rfl (hb hby own_d_prog_51_method_13_code_0) rfl rfl) ?_
  show Go p.tables e below P (s₁.setTop (mkF m 1 #[.val (.ref p0)] [(.ref p0)]))
  obtain ⟨T1, X1, e1, st1⟩ := getF X0 hx hZ hown (host := "") (Or.inl (hw _ (List.mem_of_getElem? (i := 54) rfl))) Via.refl e0 hp0 (g := (mkF m 1 #[.val (.ref p0)] [(.ref p0)])) rfl rfl (hb hby own_d_prog_51_method_13_code_1)
  refine Go.st st1 ?_
  show Go p.tables e below P (T1.setTop (mkF m 4 #[.val (.ref p0)] [(.ref pv)]))
  obtain ⟨fs, hr, hrun, hended, hW, hsame⟩ := X1.leave (v := some (.ref pv)) (fun h => by rw [Bd.returns] at h; cases h)
  refine ⟨_, ?_, hPend _ _ hrun hended ⟨_, _, rfl, ?_, ⟨_, rfl⟩, hW, hsame.mono (by decide) (by decide)⟩⟩
  · exact retOut X1 hx (t := (.object "com/example/crisp_fixture/crispfixture/dialect/Dialect$Content")) Bd.returns rfl (Or.inr (Or.inr (Or.inr (Or.inr ⟨rfl, rfl, rfl⟩)))) (hb hby own_d_prog_51_method_13_code_4) hr
  · show Q_rm_gt Z _ _ _ _ _ _ _ h0 n0 _ T1.heap _
    rw [e1]
    exact ⟨rfl, N0, rfl⟩
theorem own_ef_rm_law (m : MethodId) (x0 : Int32) (x1 : Int32) (x2 : Int32) (x3 : Int32) (x4 : Int32) (x5 : Int32) : entryFrame m #[(.int x0), (.int x1), (.int x2), (.int x3), (.int x4), (.int x5)] maxLocals = mkF m 0 #[.val (.int x0), .val (.int x1), .val (.int x2), .val (.int x3), .val (.int x4), .val (.int x5), .unset, .unset, .unset, .unset, .unset, .unset, .unset] [] := by first | (simp [entryFrame, mkF, argsToLocals, Value.category, maxLocals]; done) | rfl
theorem own_pd6 : parseMethodDescriptor "(Ljava/lang/String;)Lcom/example/crisp_fixture/crispfixture/dialect/Dialect$ColumnType;" = some ⟨[(.object "java/lang/String")], some (.object "com/example/crisp_fixture/crispfixture/dialect/Dialect$ColumnType")⟩ := by decide +kernel
theorem own_pd7 : parseMethodDescriptor "()I" = some ⟨[], some .int⟩ := by decide +kernel
theorem own_pd8 : parseMethodDescriptor "()Ljava/lang/String;" = some ⟨[], some (.object "java/lang/String")⟩ := by decide +kernel
theorem own_pd9 : parseMethodDescriptor "(Ljava/lang/String;Ljava/lang/String;)Z" = some ⟨[(.object "java/lang/String"), (.object "java/lang/String")], some .boolean⟩ := by decide +kernel
theorem own_pd10 : parseMethodDescriptor "()Lcom/example/crisp_fixture/crispfixture/dialect/Dialect$Content;" = some ⟨[], some (.object "com/example/crisp_fixture/crispfixture/dialect/Dialect$Content")⟩ := by decide +kernel
theorem own_pd11 : parseMethodDescriptor "(I)Ljava/lang/String;" = some ⟨[.int], some (.object "java/lang/String")⟩ := by decide +kernel
def Q_rm_law (Z : State) (w_A : Addr) (w_B : Addr) (w_C : Addr) (w_D : Addr) (g_CS : Int32) (p0 : Int32) (p1 : Int32) (p2 : Int32) (p3 : Int32) (p4 : Int32) (p5 : Int32) (h0 : Heap) (n0 : Nat) (v : Option Value) (h : Heap) (L : List Loc) : Prop := v = some (.int (1 : Int32)) ∧ Fr n0 L ∧ Keep h0 h []
set_option maxRecDepth 65536 in
set_option maxHeartbeats 40000000 in
theorem rm_law (l : Launch) (Z : State) (a0 : Array Value) (hw : ∀ d ∈ tables_1, d.before a0 Z = true) (ws : List Jvm.Cond) (w_A : Addr) (S_A : Sta Z Z.heap "com/example/crisp_fixture/crispfixture/dialect/Dialect$Content" "BY_CODE" "Lcom/example/crisp_fixture/crispfixture/dialect/Dialect$Content;" (.ref w_A)) (X_A : Exa Z Z.heap w_A "com/example/crisp_fixture/crispfixture/dialect/Dialect$Content") (w_B : Addr) (S_B : Sta Z Z.heap "com/example/crisp_fixture/crispfixture/dialect/Dialect$Content" "JSON_MEMBERS_IN_ORDER" "Lcom/example/crisp_fixture/crispfixture/dialect/Dialect$Content;" (.ref w_B)) (X_B : Exa Z Z.heap w_B "com/example/crisp_fixture/crispfixture/dialect/Dialect$Content") (w_C : Addr) (S_C : Sta Z Z.heap "com/example/crisp_fixture/crispfixture/dialect/Dialect$Content" "JSON_MEMBERS_BY_NAME" "Lcom/example/crisp_fixture/crispfixture/dialect/Dialect$Content;" (.ref w_C)) (X_C : Exa Z Z.heap w_C "com/example/crisp_fixture/crispfixture/dialect/Dialect$Content") (w_D : Addr) (S_D : Sta Z Z.heap "com/example/crisp_fixture/crispfixture/dialect/Dialect$Content" "UUID" "Lcom/example/crisp_fixture/crispfixture/dialect/Dialect$Content;" (.ref w_D)) (X_D : Exa Z Z.heap w_D "com/example/crisp_fixture/crispfixture/dialect/Dialect$Content") (g_CS : Int32) (S_CS : Sta Z Z.heap "java/lang/String" "COMPACT_STRINGS" "Z" (.int g_CS)) (nz_CS : ¬ (g_CS = (0 : Int32))) (p0 : Int32) (p1 : Int32) (p2 : Int32) (p3 : Int32) (p4 : Int32) (p5 : Int32) (h0 : Heap) (n0 : Nat) (X00 : Old Z n0 h0)  :
    MetFree l x (head1 (Jvm.Cond.code x code maxLocals ret :: ws) room_1) (fun a U => a = #[(.int p0), (.int p1), (.int p2), (.int p3), (.int p4), (.int p5)] ∧ Z.Warmed39 U.vm ∧ U.heap = h0 ∧ CHv Z consts_1 U.vm h0) (fun _ _ _ _ _ => True) (fun _ U o U' => ∃ v L, o = .returned v ∧ Q_rm_law Z w_A w_B w_C w_D g_CS p0 p1 p2 p3 p4 p5 h0 n0 v U'.heap L ∧ CHr Z consts_1 U.vm U.heap U'.vm U'.heap ∧ ReturnedEndW U o U' L 24 110) := by
  refine MetFree.of_bodySF (plainFor_of_name own_pn3) hisR ?_
  intro p e s m args below meth c s₁ Bd hml0 hP hK
  obtain ⟨rfl, hZ, hh, hCH⟩ := hP
  have hEL := own_EW Z a0 hw
  have CR0 : CHr Z consts_1 s.vm h0 s.vm h0 := CHr.refl hCH
  have hx := Bd.exec
  have hby := Bd.bytes
  have hml : c.maxLocals = 13 := hml0
  have hown : s.vm.findClass "com/example/crisp_fixture/crispfixture/dialect/ColumnTypeWithBaseNamePinLaw" = some m.cls := findClass_of_methodNamed Bd.named
  have hnm := (name_of_methodNamed Bd.named Bd.method).1
  have X0 : Stand p l e room_1 (s.setVm s.vm) m #[(.int p0), (.int p1), (.int p2), (.int p3), (.int p4), (.int p5)] below meth c s₁ [] 0 0 := Stand.of_body Bd
  have e0 : s₁.heap = h0 := by rw [← hh, Bd.state]; rfl
  have N0 := Fr.nil n0
  have hS0 : s.Since s.vm 0 := own_since s
  have hk0 : 0 ≤ h0.size := Nat.zero_le _
  have hZ : Z.Warmed39 (s.setVm s.vm).vm := hZ
  have hown : (s.setVm s.vm).vm.findClass "com/example/crisp_fixture/crispfixture/dialect/ColumnTypeWithBaseNamePinLaw" = some m.cls := hown
  refine Go.start fun P hPend => ?_
  refine Go.st (fun _ k => castTop (own_ef_rm_law m p0 p1 p2 p3 p4 p5) k) ?_
  show Go p.tables e below P (s₁.setTop (mkF m 0 #[.val (.int p0), .val (.int p1), .val (.int p2), .val (.int p3), .val (.int p4), .val (.int p5), .unset, .unset, .unset, .unset, .unset, .unset, .unset] []))
  refine Go.st (fun _ => XS.iload X0.here hx rfl (hb hby at_0) rfl) ?_
  show Go p.tables e below P (s₁.setTop (mkF m 2 #[.val (.int p0), .val (.int p1), .val (.int p2), .val (.int p3), .val (.int p4), .val (.int p5), .unset, .unset, .unset, .unset, .unset, .unset, .unset] [(.int p5)]))
  refine Go.st (fun _ => XS.iconst X0.here hx rfl (hb hby at_2)) ?_
  show Go p.tables e below P (s₁.setTop (mkF m 3 #[.val (.int p0), .val (.int p1), .val (.int p2), .val (.int p3), .val (.int p4), .val (.int p5), .unset, .unset, .unset, .unset, .unset, .unset, .unset] [(.int (3 : Int32)), (.int p5)]))
  refine Go.st (fun _ => XS.iand X0.here hx rfl (hb hby at_3) rfl) ?_
  show Go p.tables e below P (s₁.setTop (mkF m 4 #[.val (.int p0), .val (.int p1), .val (.int p2), .val (.int p3), .val (.int p4), .val (.int p5), .unset, .unset, .unset, .unset, .unset, .unset, .unset] [(.int (p5 &&& (3 : Int32)))]))
  refine Go.st (fun _ => XS.istore X0.here hx rfl (hb hby at_4) rfl (l' := #[.val (.int p0), .val (.int p1), .val (.int p2), .val (.int p3), .val (.int p4), .val (.int p5), .val (.int (p5 &&& (3 : Int32))), .unset, .unset, .unset, .unset, .unset, .unset]) rfl) ?_
  show Go p.tables e below P (s₁.setTop (mkF m 6 #[.val (.int p0), .val (.int p1), .val (.int p2), .val (.int p3), .val (.int p4), .val (.int p5), .val (.int (p5 &&& (3 : Int32))), .unset, .unset, .unset, .unset, .unset, .unset] []))
  refine Go.st (fun _ => XS.iload X0.here hx rfl (hb hby at_6) rfl) ?_
  show Go p.tables e below P (s₁.setTop (mkF m 8 #[.val (.int p0), .val (.int p1), .val (.int p2), .val (.int p3), .val (.int p4), .val (.int p5), .val (.int (p5 &&& (3 : Int32))), .unset, .unset, .unset, .unset, .unset, .unset] [(.int (p5 &&& (3 : Int32)))]))
  have J1 : ∀ (Tj1 : State) (Lj1 : List Loc) (Xj1 : Stand p l e room_1 (s.setVm s.vm) m #[(.int p0), (.int p1), (.int p2), (.int p3), (.int p4), (.int p5)] below meth c Tj1 Lj1 0 0) (ej1 : Tj1.heap = h0) (Nj1 : Fr n0 Lj1) (jc : Addr), Go p.tables e below P (Tj1.setTop (mkF m 52 #[.val (.int p0), .val (.int p1), .val (.int p2), .val (.int p3), .val (.int p4), .val (.int p5), .val (.int (p5 &&& (3 : Int32))), .val (.ref jc), .unset, .unset, .unset, .unset, .unset] [])) := by
    intro Tj1 Lj1 Xj1 ej1 Nj1 jc
    show Go p.tables e below P (Tj1.setTop (mkF m 52 #[.val (.int p0), .val (.int p1), .val (.int p2), .val (.int p3), .val (.int p4), .val (.int p5), .val (.int (p5 &&& (3 : Int32))), .val (.ref jc), .unset, .unset, .unset, .unset, .unset] []))
    refine Go.st (fun _ => XS.iload Xj1.here hx rfl (hb hby at_52) rfl) ?_
    show Go p.tables e below P (Tj1.setTop (mkF m 54 #[.val (.int p0), .val (.int p1), .val (.int p2), .val (.int p3), .val (.int p4), .val (.int p5), .val (.int (p5 &&& (3 : Int32))), .val (.ref jc), .unset, .unset, .unset, .unset, .unset] [(.int p5)]))
    refine Go.st (fun _ => XS.iconst Xj1.here hx rfl (hb hby at_54)) ?_
    show Go p.tables e below P (Tj1.setTop (mkF m 55 #[.val (.int p0), .val (.int p1), .val (.int p2), .val (.int p3), .val (.int p4), .val (.int p5), .val (.int (p5 &&& (3 : Int32))), .val (.ref jc), .unset, .unset, .unset, .unset, .unset] [(.int (2 : Int32)), (.int p5)]))
    refine Go.st (fun _ => XS.iushr Xj1.here hx rfl (hb hby at_55) rfl) ?_
    show Go p.tables e below P (Tj1.setTop (mkF m 56 #[.val (.int p0), .val (.int p1), .val (.int p2), .val (.int p3), .val (.int p4), .val (.int p5), .val (.int (p5 &&& (3 : Int32))), .val (.ref jc), .unset, .unset, .unset, .unset, .unset] [(.int ((p5.toUInt32 >>> ((2 : Int32) &&& 31).toUInt32).toInt32))]))
    refine Go.st (fun _ => XS.iconst Xj1.here hx rfl (hb hby at_56)) ?_
    show Go p.tables e below P (Tj1.setTop (mkF m 57 #[.val (.int p0), .val (.int p1), .val (.int p2), .val (.int p3), .val (.int p4), .val (.int p5), .val (.int (p5 &&& (3 : Int32))), .val (.ref jc), .unset, .unset, .unset, .unset, .unset] [(.int (1 : Int32)), (.int ((p5.toUInt32 >>> ((2 : Int32) &&& 31).toUInt32).toInt32))]))
    refine Go.st (fun _ => XS.iand Xj1.here hx rfl (hb hby at_57) rfl) ?_
    show Go p.tables e below P (Tj1.setTop (mkF m 58 #[.val (.int p0), .val (.int p1), .val (.int p2), .val (.int p3), .val (.int p4), .val (.int p5), .val (.int (p5 &&& (3 : Int32))), .val (.ref jc), .unset, .unset, .unset, .unset, .unset] [(.int (((p5.toUInt32 >>> ((2 : Int32) &&& 31).toUInt32).toInt32) &&& (1 : Int32)))]))
    have J2 : ∀ (Tj2 : State) (hj2 : Heap) (Lj2 : List Loc) (vmj2 : Vm) (kj2 : Nat) (Xj2 : Stand p l e room_1 (s.setVm vmj2) m #[(.int p0), (.int p1), (.int p2), (.int p3), (.int p4), (.int p5)] below meth c Tj2 Lj2 6 12) (ej2 : Tj2.heap = hj2) (Kj2 : Keep h0 hj2 []) (Oj2 : Old Z n0 hj2) (Nj2 : Fr n0 Lj2) (hSj2 : s.Since vmj2 kj2) (hkj2 : kj2 ≤ hj2.size) (hZj2 : Z.Warmed39 (s.setVm vmj2).vm) (hownj2 : (s.setVm vmj2).vm.findClass "com/example/crisp_fixture/crispfixture/dialect/ColumnTypeWithBaseNamePinLaw" = some m.cls) (CRj2 : CHr Z consts_1 s.vm h0 vmj2 hj2) (jn : Value) (hr_jn : jn.isRef = true) (hq_jn : own_SQ Z hj2 jn), Go p.tables e below P (Tj2.setTop (mkF m 69 #[.val (.int p0), .val (.int p1), .val (.int p2), .val (.int p3), .val (.int p4), .val (.int p5), .val (.int (p5 &&& (3 : Int32))), .val (.ref jc), .unset, .unset, .unset, .unset, .unset] [jn])) := by
      intro Tj2 hj2 Lj2 vmj2 kj2 Xj2 ej2 Kj2 Oj2 Nj2 hSj2 hkj2 hZj2 hownj2 CRj2 jn hr_jn hq_jn
      show Go p.tables e below P (Tj2.setTop (mkF m 69 #[.val (.int p0), .val (.int p1), .val (.int p2), .val (.int p3), .val (.int p4), .val (.int p5), .val (.int (p5 &&& (3 : Int32))), .val (.ref jc), .unset, .unset, .unset, .unset, .unset] [jn]))
      refine Go.st (fun _ => XS.astore Xj2.here hx rfl (hb hby at_69) rfl hr_jn (l' := #[.val (.int p0), .val (.int p1), .val (.int p2), .val (.int p3), .val (.int p4), .val (.int p5), .val (.int (p5 &&& (3 : Int32))), .val (.ref jc), .val jn, .unset, .unset, .unset, .unset]) (by rcases own_refcase (v := jn) hr_jn with e0 | ⟨_, e0⟩ <;> rw [e0] <;> rfl)) ?_
      show Go p.tables e below P (Tj2.setTop (mkF m 71 #[.val (.int p0), .val (.int p1), .val (.int p2), .val (.int p3), .val (.int p4), .val (.int p5), .val (.int (p5 &&& (3 : Int32))), .val (.ref jc), .val jn, .unset, .unset, .unset, .unset] []))
      refine Go.st (fun _ => XS.iload Xj2.here hx rfl (hb hby at_71) rfl) ?_
      show Go p.tables e below P (Tj2.setTop (mkF m 73 #[.val (.int p0), .val (.int p1), .val (.int p2), .val (.int p3), .val (.int p4), .val (.int p5), .val (.int (p5 &&& (3 : Int32))), .val (.ref jc), .val jn, .unset, .unset, .unset, .unset] [(.int p5)]))
      refine Go.st (fun _ => XS.iconst Xj2.here hx rfl (hb hby at_73)) ?_
      show Go p.tables e below P (Tj2.setTop (mkF m 74 #[.val (.int p0), .val (.int p1), .val (.int p2), .val (.int p3), .val (.int p4), .val (.int p5), .val (.int (p5 &&& (3 : Int32))), .val (.ref jc), .val jn, .unset, .unset, .unset, .unset] [(.int (3 : Int32)), (.int p5)]))
      refine Go.st (fun _ => XS.iushr Xj2.here hx rfl (hb hby at_74) rfl) ?_
      show Go p.tables e below P (Tj2.setTop (mkF m 75 #[.val (.int p0), .val (.int p1), .val (.int p2), .val (.int p3), .val (.int p4), .val (.int p5), .val (.int (p5 &&& (3 : Int32))), .val (.ref jc), .val jn, .unset, .unset, .unset, .unset] [(.int ((p5.toUInt32 >>> ((3 : Int32) &&& 31).toUInt32).toInt32))]))
      refine Go.st (fun _ => XS.iconst Xj2.here hx rfl (hb hby at_75)) ?_
      show Go p.tables e below P (Tj2.setTop (mkF m 76 #[.val (.int p0), .val (.int p1), .val (.int p2), .val (.int p3), .val (.int p4), .val (.int p5), .val (.int (p5 &&& (3 : Int32))), .val (.ref jc), .val jn, .unset, .unset, .unset, .unset] [(.int (1 : Int32)), (.int ((p5.toUInt32 >>> ((3 : Int32) &&& 31).toUInt32).toInt32))]))
      refine Go.st (fun _ => XS.iand Xj2.here hx rfl (hb hby at_76) rfl) ?_
      show Go p.tables e below P (Tj2.setTop (mkF m 77 #[.val (.int p0), .val (.int p1), .val (.int p2), .val (.int p3), .val (.int p4), .val (.int p5), .val (.int (p5 &&& (3 : Int32))), .val (.ref jc), .val jn, .unset, .unset, .unset, .unset] [(.int (((p5.toUInt32 >>> ((3 : Int32) &&& 31).toUInt32).toInt32) &&& (1 : Int32)))]))
      have J3 : ∀ (Tj3 : State) (hj3 : Heap) (Lj3 : List Loc) (vmj3 : Vm) (kj3 : Nat) (Xj3 : Stand p l e room_1 (s.setVm vmj3) m #[(.int p0), (.int p1), (.int p2), (.int p3), (.int p4), (.int p5)] below meth c Tj3 Lj3 12 24) (ej3 : Tj3.heap = hj3) (Kj3 : Keep h0 hj3 []) (Oj3 : Old Z n0 hj3) (Nj3 : Fr n0 Lj3) (hSj3 : s.Since vmj3 kj3) (hkj3 : kj3 ≤ hj3.size) (hZj3 : Z.Warmed39 (s.setVm vmj3).vm) (hownj3 : (s.setVm vmj3).vm.findClass "com/example/crisp_fixture/crispfixture/dialect/ColumnTypeWithBaseNamePinLaw" = some m.cls) (CRj3 : CHr Z consts_1 s.vm h0 vmj3 hj3) (fj3_0 : own_SQ Z hj3 jn) (jb : Value) (hr_jb : jb.isRef = true) (hq_jb : own_SQ Z hj3 jb), Go p.tables e below P (Tj3.setTop (mkF m 88 #[.val (.int p0), .val (.int p1), .val (.int p2), .val (.int p3), .val (.int p4), .val (.int p5), .val (.int (p5 &&& (3 : Int32))), .val (.ref jc), .val jn, .unset, .unset, .unset, .unset] [jb])) := by
        intro Tj3 hj3 Lj3 vmj3 kj3 Xj3 ej3 Kj3 Oj3 Nj3 hSj3 hkj3 hZj3 hownj3 CRj3 fj3_0 jb hr_jb hq_jb
        show Go p.tables e below P (Tj3.setTop (mkF m 88 #[.val (.int p0), .val (.int p1), .val (.int p2), .val (.int p3), .val (.int p4), .val (.int p5), .val (.int (p5 &&& (3 : Int32))), .val (.ref jc), .val jn, .unset, .unset, .unset, .unset] [jb]))
        refine Go.st (fun _ => XS.astore Xj3.here hx rfl (hb hby at_88) rfl hr_jb (l' := #[.val (.int p0), .val (.int p1), .val (.int p2), .val (.int p3), .val (.int p4), .val (.int p5), .val (.int (p5 &&& (3 : Int32))), .val (.ref jc), .val jn, .val jb, .unset, .unset, .unset]) (by rcases own_refcase (v := jb) hr_jb with e0 | ⟨_, e0⟩ <;> rw [e0] <;> rfl)) ?_
        show Go p.tables e below P (Tj3.setTop (mkF m 90 #[.val (.int p0), .val (.int p1), .val (.int p2), .val (.int p3), .val (.int p4), .val (.int p5), .val (.int (p5 &&& (3 : Int32))), .val (.ref jc), .val jn, .val jb, .unset, .unset, .unset] []))
        refine Go.st (fun _ => XS.iload Xj3.here hx rfl (hb hby at_90) rfl) ?_
        show Go p.tables e below P (Tj3.setTop (mkF m 92 #[.val (.int p0), .val (.int p1), .val (.int p2), .val (.int p3), .val (.int p4), .val (.int p5), .val (.int (p5 &&& (3 : Int32))), .val (.ref jc), .val jn, .val jb, .unset, .unset, .unset] [(.int p5)]))
        refine Go.st (fun _ => XS.iconst Xj3.here hx rfl (hb hby at_92)) ?_
        show Go p.tables e below P (Tj3.setTop (mkF m 93 #[.val (.int p0), .val (.int p1), .val (.int p2), .val (.int p3), .val (.int p4), .val (.int p5), .val (.int (p5 &&& (3 : Int32))), .val (.ref jc), .val jn, .val jb, .unset, .unset, .unset] [(.int (4 : Int32)), (.int p5)]))
        refine Go.st (fun _ => XS.iushr Xj3.here hx rfl (hb hby at_93) rfl) ?_
        show Go p.tables e below P (Tj3.setTop (mkF m 94 #[.val (.int p0), .val (.int p1), .val (.int p2), .val (.int p3), .val (.int p4), .val (.int p5), .val (.int (p5 &&& (3 : Int32))), .val (.ref jc), .val jn, .val jb, .unset, .unset, .unset] [(.int ((p5.toUInt32 >>> ((4 : Int32) &&& 31).toUInt32).toInt32))]))
        refine Go.st (fun _ => XS.iconst Xj3.here hx rfl (hb hby at_94)) ?_
        show Go p.tables e below P (Tj3.setTop (mkF m 95 #[.val (.int p0), .val (.int p1), .val (.int p2), .val (.int p3), .val (.int p4), .val (.int p5), .val (.int (p5 &&& (3 : Int32))), .val (.ref jc), .val jn, .val jb, .unset, .unset, .unset] [(.int (1 : Int32)), (.int ((p5.toUInt32 >>> ((4 : Int32) &&& 31).toUInt32).toInt32))]))
        refine Go.st (fun _ => XS.iand Xj3.here hx rfl (hb hby at_95) rfl) ?_
        show Go p.tables e below P (Tj3.setTop (mkF m 96 #[.val (.int p0), .val (.int p1), .val (.int p2), .val (.int p3), .val (.int p4), .val (.int p5), .val (.int (p5 &&& (3 : Int32))), .val (.ref jc), .val jn, .val jb, .unset, .unset, .unset] [(.int (((p5.toUInt32 >>> ((4 : Int32) &&& 31).toUInt32).toInt32) &&& (1 : Int32)))]))
        have J4 : ∀ (Tj4 : State) (hj4 : Heap) (Lj4 : List Loc) (vmj4 : Vm) (kj4 : Nat) (Xj4 : Stand p l e room_1 (s.setVm vmj4) m #[(.int p0), (.int p1), (.int p2), (.int p3), (.int p4), (.int p5)] below meth c Tj4 Lj4 18 36) (ej4 : Tj4.heap = hj4) (Kj4 : Keep h0 hj4 []) (Oj4 : Old Z n0 hj4) (Nj4 : Fr n0 Lj4) (hSj4 : s.Since vmj4 kj4) (hkj4 : kj4 ≤ hj4.size) (hZj4 : Z.Warmed39 (s.setVm vmj4).vm) (hownj4 : (s.setVm vmj4).vm.findClass "com/example/crisp_fixture/crispfixture/dialect/ColumnTypeWithBaseNamePinLaw" = some m.cls) (CRj4 : CHr Z consts_1 s.vm h0 vmj4 hj4) (fj4_0 : own_SQ Z hj4 jn) (fj4_1 : own_SQ Z hj4 jb) (jo : Value) (hr_jo : jo.isRef = true) (hq_jo : own_SQ Z hj4 jo), Go p.tables e below P (Tj4.setTop (mkF m 108 #[.val (.int p0), .val (.int p1), .val (.int p2), .val (.int p3), .val (.int p4), .val (.int p5), .val (.int (p5 &&& (3 : Int32))), .val (.ref jc), .val jn, .val jb, .unset, .unset, .unset] [jo])) := by
          intro Tj4 hj4 Lj4 vmj4 kj4 Xj4 ej4 Kj4 Oj4 Nj4 hSj4 hkj4 hZj4 hownj4 CRj4 fj4_0 fj4_1 jo hr_jo hq_jo
          show Go p.tables e below P (Tj4.setTop (mkF m 108 #[.val (.int p0), .val (.int p1), .val (.int p2), .val (.int p3), .val (.int p4), .val (.int p5), .val (.int (p5 &&& (3 : Int32))), .val (.ref jc), .val jn, .val jb, .unset, .unset, .unset] [jo]))
          refine Go.st (fun _ => XS.astore Xj4.here hx rfl (hb hby at_108) rfl hr_jo (l' := #[.val (.int p0), .val (.int p1), .val (.int p2), .val (.int p3), .val (.int p4), .val (.int p5), .val (.int (p5 &&& (3 : Int32))), .val (.ref jc), .val jn, .val jb, .val jo, .unset, .unset]) (by rcases own_refcase (v := jo) hr_jo with e0 | ⟨_, e0⟩ <;> rw [e0] <;> rfl)) ?_
          show Go p.tables e below P (Tj4.setTop (mkF m 110 #[.val (.int p0), .val (.int p1), .val (.int p2), .val (.int p3), .val (.int p4), .val (.int p5), .val (.int (p5 &&& (3 : Int32))), .val (.ref jc), .val jn, .val jb, .val jo, .unset, .unset] []))
          obtain ⟨T5, h5, X5, e5, E5, A5, D5, -, st5⟩ := newO Xj4 hx hZj4 hownj4 (hw _ (List.mem_of_getElem? (i := 29) rfl)) (hw _ (List.mem_of_getElem? (i := 30) rfl)) (hw _ (List.mem_of_getElem? (i := 31) rfl)) ej4 (g := (mkF m 110 #[.val (.int p0), .val (.int p1), .val (.int p2), .val (.int p3), .val (.int p4), .val (.int p5), .val (.int (p5 &&& (3 : Int32))), .val (.ref jc), .val jn, .val jb, .val jo, .unset, .unset] [])) rfl (hb hby at_110) (by decide) (by decide)
          obtain ⟨b5, g5⟩ : ∃ z, z = hj4.size := ⟨_, rfl⟩
          rw [← g5] at A5 D5 st5
          refine Go.st st5 ?_
          have g_b5 : n0 ≤ b5 := Nat.le_trans (own_oldsz Oj4) (Nat.le_of_eq g5.symm)
          have sz_b5 : h0.size ≤ b5 := Nat.le_trans Kj4.1 (Nat.le_of_eq g5.symm)
          have K5 : Keep h0 h5 [] := Kj4.ext E5
          have O5 := Oj4.ext E5
          have SF_b5 : Safe Z consts_1 vmj4 h5 b5 := Safe.ext E5 CRj4.1 (Safe.new (Nat.le_of_eq g5.symm))
          have CR5 := CRj4.trans (CHr.ext E5 CRj4.1)
          have F6 : Fld Z h5 b5 "com/example/crisp_fixture/crispfixture/dialect/Dialect$ColumnType" "code" "I" (.int (0 : Int32)) := D5 (Or.inr (hw _ (List.mem_of_getElem? (i := 47) rfl))) (ty := .int) (by decide)
          have F7 : Fld Z h5 b5 "com/example/crisp_fixture/crispfixture/dialect/Dialect$ColumnType" "name" "Ljava/lang/String;" .null := D5 (Or.inr (hw _ (List.mem_of_getElem? (i := 49) rfl))) (ty := (.object "java/lang/String")) (by decide)
          have F8 : Fld Z h5 b5 "com/example/crisp_fixture/crispfixture/dialect/Dialect$ColumnType" "size" "I" (.int (0 : Int32)) := D5 (Or.inr (hw _ (List.mem_of_getElem? (i := 51) rfl))) (ty := .int) (by decide)
          have F9 : Fld Z h5 b5 "com/example/crisp_fixture/crispfixture/dialect/Dialect$ColumnType" "baseName" "Ljava/lang/String;" .null := D5 (Or.inr (hw _ (List.mem_of_getElem? (i := 53) rfl))) (ty := (.object "java/lang/String")) (by decide)
          have F10 : Fld Z h5 b5 "com/example/crisp_fixture/crispfixture/dialect/Dialect$ColumnType" "content" "Lcom/example/crisp_fixture/crispfixture/dialect/Dialect$Content;" .null := D5 (Or.inr (hw _ (List.mem_of_getElem? (i := 55) rfl))) (ty := (.object "com/example/crisp_fixture/crispfixture/dialect/Dialect$Content")) (by decide)
          show Go p.tables e below P (T5.setTop (mkF m 113 #[.val (.int p0), .val (.int p1), .val (.int p2), .val (.int p3), .val (.int p4), .val (.int p5), .val (.int (p5 &&& (3 : Int32))), .val (.ref jc), .val jn, .val jb, .val jo, .unset, .unset] [(.ref b5)]))
          refine Go.st (fun _ => XS.dup X5.here hx rfl (hb hby at_113) rfl rfl) ?_
          show Go p.tables e below P (T5.setTop (mkF m 114 #[.val (.int p0), .val (.int p1), .val (.int p2), .val (.int p3), .val (.int p4), .val (.int p5), .val (.int (p5 &&& (3 : Int32))), .val (.ref jc), .val jn, .val jb, .val jo, .unset, .unset] [(.ref b5), (.ref b5)]))
          refine Go.st (fun _ => XS.iloadN X5.here hx rfl (hb hby at_114) rfl) ?_
          show Go p.tables e below P (T5.setTop (mkF m 115 #[.val (.int p0), .val (.int p1), .val (.int p2), .val (.int p3), .val (.int p4), .val (.int p5), .val (.int (p5 &&& (3 : Int32))), .val (.ref jc), .val jn, .val jb, .val jo, .unset, .unset] [(.int p0), (.ref b5), (.ref b5)]))
          refine Go.st (fun _ => XS.aload X5.here hx rfl (hb hby at_115) rfl hr_jn) ?_
          show Go p.tables e below P (T5.setTop (mkF m 117 #[.val (.int p0), .val (.int p1), .val (.int p2), .val (.int p3), .val (.int p4), .val (.int p5), .val (.int (p5 &&& (3 : Int32))), .val (.ref jc), .val jn, .val jb, .val jo, .unset, .unset] [jn, (.int p0), (.ref b5), (.ref b5)]))
          refine Go.st (fun _ => XS.iloadN X5.here hx rfl (hb hby at_117) rfl) ?_
          show Go p.tables e below P (T5.setTop (mkF m 118 #[.val (.int p0), .val (.int p1), .val (.int p2), .val (.int p3), .val (.int p4), .val (.int p5), .val (.int (p5 &&& (3 : Int32))), .val (.ref jc), .val jn, .val jb, .val jo, .unset, .unset] [(.int p1), jn, (.int p0), (.ref b5), (.ref b5)]))
          refine Go.st (fun _ => XS.aload X5.here hx rfl (hb hby at_118) rfl hr_jb) ?_
          show Go p.tables e below P (T5.setTop (mkF m 120 #[.val (.int p0), .val (.int p1), .val (.int p2), .val (.int p3), .val (.int p4), .val (.int p5), .val (.int (p5 &&& (3 : Int32))), .val (.ref jc), .val jn, .val jb, .val jo, .unset, .unset] [jb, (.int p1), jn, (.int p0), (.ref b5), (.ref b5)]))
          refine Go.st (fun _ => XS.aload X5.here hx rfl (hb hby at_120) rfl rfl) ?_
          show Go p.tables e below P (T5.setTop (mkF m 122 #[.val (.int p0), .val (.int p1), .val (.int p2), .val (.int p3), .val (.int p4), .val (.int p5), .val (.int (p5 &&& (3 : Int32))), .val (.ref jc), .val jn, .val jb, .val jo, .unset, .unset] [(.ref jc), jb, (.int p1), jn, (.int p0), (.ref b5), (.ref b5)]))
          obtain ⟨_, _, ⟨T11, L11, k11, n11⟩, -, X11, hS11, hg11, ⟨Lc11, hQ11, l11, y11, z11, hCR11⟩, st11⟩ := X5.specialBackS hx (y := (⟨"com/example/crisp_fixture/crispfixture/dialect/Dialect$ColumnType", "<init>", "(ILjava/lang/String;ILjava/lang/String;Lcom/example/crisp_fixture/crispfixture/dialect/Dialect$Content;)V"⟩ : MethodName)) rfl hownj4 (mvT hZj4 (hw _ (List.mem_of_getElem? (i := 32) rfl))) (mvT hZj4 (hw _ (List.mem_of_getElem? (i := 33) rfl))) (mvT hZj4 (hw _ (List.mem_of_getElem? (i := 34) rfl))) (by decide) (backOfSH (W := 1) (rm_ini l Z a0 hw [] w_A S_A X_A w_B S_B X_B w_C S_C X_C w_D S_D X_D g_CS S_CS nz_CS b5 p0 jn p1 jb jc h5 n0 O5 A5 F6 F7 F8 F9 F10 g_b5 hr_jn hr_jb) hZj4 (hw _ (List.mem_of_getElem? (i := 34) rfl)) (hw _ (List.mem_of_getElem? (i := 31) rfl)) (by decide) (by decide) hEL CR5.1) (g := (mkF m 122 #[.val (.int p0), .val (.int p1), .val (.int p2), .val (.int p3), .val (.int p4), .val (.int p5), .val (.int (p5 &&& (3 : Int32))), .val (.ref jc), .val jn, .val jb, .val jo, .unset, .unset] [(.ref jc), jb, (.int p1), jn, (.int p0), (.ref b5), (.ref b5)])) rfl (by rw [hml]; rfl) (Steps.refl _) (a := b5) (argsL := [(.int p0), jn, (.int p1), jb, (.ref jc)]) (rest := [(.ref b5)]) (lenOf own_pd5 rfl) rfl (by show 2 * 0 + _ ≤ _; exact Nat.le_of_eq rfl) (hb hby at_122) (fun _ _ => ⟨rfl, e5, (by decide : 19 + 2 ≤ _), (by decide : 41 + 32 ≤ _)⟩)
          dsimp only [Pt.U, Pt.locs, Pt.cells, Pt.slots] at X11 l11 y11 z11 st11 hQ11 hS11 hg11 hCR11
          subst l11 y11 z11
          refine Go.tr st11 ?_
          obtain ⟨XX11, hSS11, hZ11, hown11⟩ := rebS hSj4 (by rw [e5]; exact (Nat.le_trans hkj4 E5.1)) X11 hS11 hg11 hZj4 hownj4
          obtain ⟨rfl, N11q, K11q, q11_0, q11_1, q11_2, q11_3, q11_4, q11_5⟩ := hQ11
          have N11 := Fr.app Nj4 N11q
          have sf12 := hCR11.safe A5.lt SF_b5
          have CR11 := CR5.trans hCR11
          have O11 := O5.keep K11q (allS g_b5 all0)
          have K11 : Keep h0 T11.heap [] := K5.trans K11q (allS (Or.inr sz_b5) all0)
          show Go p.tables e below P (T11.setTop (mkF m 125 #[.val (.int p0), .val (.int p1), .val (.int p2), .val (.int p3), .val (.int p4), .val (.int p5), .val (.int (p5 &&& (3 : Int32))), .val (.ref jc), .val jn, .val jb, .val jo, .unset, .unset] [(.ref b5)]))
          refine Go.st (fun _ => XS.astore XX11.here hx rfl (hb hby at_125) rfl rfl (l' := #[.val (.int p0), .val (.int p1), .val (.int p2), .val (.int p3), .val (.int p4), .val (.int p5), .val (.int (p5 &&& (3 : Int32))), .val (.ref jc), .val jn, .val jb, .val jo, .val (.ref b5), .unset]) rfl) ?_
          show Go p.tables e below P (T11.setTop (mkF m 127 #[.val (.int p0), .val (.int p1), .val (.int p2), .val (.int p3), .val (.int p4), .val (.int p5), .val (.int (p5 &&& (3 : Int32))), .val (.ref jc), .val jn, .val jb, .val jo, .val (.ref b5), .unset] []))
          refine Go.st (fun _ => XS.aload XX11.here hx rfl (hb hby at_127) rfl rfl) ?_
          show Go p.tables e below P (T11.setTop (mkF m 129 #[.val (.int p0), .val (.int p1), .val (.int p2), .val (.int p3), .val (.int p4), .val (.int p5), .val (.int (p5 &&& (3 : Int32))), .val (.ref jc), .val jn, .val jb, .val jo, .val (.ref b5), .unset] [(.ref b5)]))
          refine Go.st (fun _ => XS.aload XX11.here hx rfl (hb hby at_129) rfl hr_jo) ?_
          show Go p.tables e below P (T11.setTop (mkF m 131 #[.val (.int p0), .val (.int p1), .val (.int p2), .val (.int p3), .val (.int p4), .val (.int p5), .val (.int (p5 &&& (3 : Int32))), .val (.ref jc), .val jn, .val jb, .val jo, .val (.ref b5), .unset] [jo, (.ref b5)]))
          obtain ⟨cq13, kq13, q13a, q13b, q13c⟩ := isOf hZ11 rfl q11_0
          obtain ⟨_, _, ⟨T13, L13, k13, n13⟩, -, X13, hS13, hg13, ⟨Lc13, hQ13, l13, y13, z13, hCR13⟩, st13⟩ := XX11.virtualBackS hx (y := (⟨"com/example/crisp_fixture/crispfixture/dialect/Dialect$ColumnType", "withBaseName", "(Ljava/lang/String;)Lcom/example/crisp_fixture/crispfixture/dialect/Dialect$ColumnType;"⟩ : MethodName)) (z := (⟨"com/example/crisp_fixture/crispfixture/dialect/Dialect$ColumnType", "withBaseName", "(Ljava/lang/String;)Lcom/example/crisp_fixture/crispfixture/dialect/Dialect$ColumnType;"⟩ : MethodName)) hown11 (mvT hZ11 (hw _ (List.mem_of_getElem? (i := 56) rfl))) (mvT hZ11 (hw _ (List.mem_of_getElem? (i := 57) rfl))) (notFace_of_selects (args := #[]) (mvT hZ11 (hw _ (List.mem_of_getElem? (i := 59) rfl)))) (mvT hZ11 (hw _ (List.mem_of_getElem? (i := 59) rfl))) (mvT hZ11 (hw _ (List.mem_of_getElem? (i := 58) rfl))) (by decide) (backOfSH (W := 0) (rm_wb l Z a0 hw [] w_A S_A X_A w_B S_B X_B w_C S_C X_C w_D S_D X_D g_CS S_CS nz_CS b5 jo jn p1 p0 jc T11.heap n0 O11 q11_0 q11_1 q11_2 q11_3 q11_5 hr_jo hr_jn) hZ11 (hw _ (List.mem_of_getElem? (i := 60) rfl)) (hw _ (List.mem_of_getElem? (i := 31) rfl)) (by decide) (by decide) hEL CR11.1) q13a q13c (g := (mkF m 131 #[.val (.int p0), .val (.int p1), .val (.int p2), .val (.int p3), .val (.int p4), .val (.int p5), .val (.int (p5 &&& (3 : Int32))), .val (.ref jc), .val jn, .val jb, .val jo, .val (.ref b5), .unset] [jo, (.ref b5)])) rfl (by rw [hml]; rfl) (Steps.refl _) (argsL := [jo]) (rest := []) (lenOf own_pd6 rfl) rfl (by show 2 * 0 + _ ≤ _; exact Nat.le_of_eq rfl) (hb hby at_131) (fun _ _ => ⟨rfl, rfl, (by decide : 21 + 3 ≤ _), (by decide : 73 + 37 ≤ _)⟩)
          dsimp only [Pt.U, Pt.locs, Pt.cells, Pt.slots] at X13 l13 y13 z13 st13 hQ13 hS13 hg13 hCR13
          subst l13 y13 z13
          refine Go.tr st13 ?_
          obtain ⟨XX13, hSS13, hZ13, hown13⟩ := rebS hSS11 (Nat.le_refl _) X13 hS13 hg13 hZ11 hown11
          obtain ⟨ob_14, rfl, N13q, K13q, q13_0, q13_1, q13_2, q13_3, q13_4, q13_5, q13_6⟩ := hQ13
          have N13 := Fr.app N11 N13q
          have sf15 := hCR13.safe q11_0.lt sf12
          have CR13 := CR11.trans hCR13
          have O13 := O11.keep K13q all0
          have K13 : Keep h0 T13.heap [] := K11.trans K13q all0
          have sz_ob_14 : h0.size ≤ ob_14 := Nat.le_trans K11.1 q13_0
          have g_ob_14 : n0 ≤ ob_14 := Nat.le_trans (own_oldsz X00) sz_ob_14
          show Go p.tables e below P (T13.setTop (mkF m 134 #[.val (.int p0), .val (.int p1), .val (.int p2), .val (.int p3), .val (.int p4), .val (.int p5), .val (.int (p5 &&& (3 : Int32))), .val (.ref jc), .val jn, .val jb, .val jo, .val (.ref b5), .unset] [(.ref ob_14)]))
          refine Go.st (fun _ => XS.astore XX13.here hx rfl (hb hby at_134) rfl rfl (l' := #[.val (.int p0), .val (.int p1), .val (.int p2), .val (.int p3), .val (.int p4), .val (.int p5), .val (.int (p5 &&& (3 : Int32))), .val (.ref jc), .val jn, .val jb, .val jo, .val (.ref b5), .val (.ref ob_14)]) rfl) ?_
          show Go p.tables e below P (T13.setTop (mkF m 136 #[.val (.int p0), .val (.int p1), .val (.int p2), .val (.int p3), .val (.int p4), .val (.int p5), .val (.int (p5 &&& (3 : Int32))), .val (.ref jc), .val jn, .val jb, .val jo, .val (.ref b5), .val (.ref ob_14)] []))
          refine Go.st (fun _ => XS.aload XX13.here hx rfl (hb hby at_136) rfl rfl) ?_
          show Go p.tables e below P (T13.setTop (mkF m 138 #[.val (.int p0), .val (.int p1), .val (.int p2), .val (.int p3), .val (.int p4), .val (.int p5), .val (.int (p5 &&& (3 : Int32))), .val (.ref jc), .val jn, .val jb, .val jo, .val (.ref b5), .val (.ref ob_14)] [(.ref ob_14)]))
          refine Go.st (fun _ => XS.ifnonnullYes XX13.here hx rfl (pc0 := 138) (pc' := 143) rfl (hb hby at_138) rfl (by decide) (by decide)) ?_
          show Go p.tables e below P (T13.setTop (mkF m 143 #[.val (.int p0), .val (.int p1), .val (.int p2), .val (.int p3), .val (.int p4), .val (.int p5), .val (.int (p5 &&& (3 : Int32))), .val (.ref jc), .val jn, .val jb, .val jo, .val (.ref b5), .val (.ref ob_14)] []))
          refine Go.st (fun _ => XS.aload XX13.here hx rfl (hb hby at_143) rfl rfl) ?_
          show Go p.tables e below P (T13.setTop (mkF m 145 #[.val (.int p0), .val (.int p1), .val (.int p2), .val (.int p3), .val (.int p4), .val (.int p5), .val (.int (p5 &&& (3 : Int32))), .val (.ref jc), .val jn, .val jb, .val jo, .val (.ref b5), .val (.ref ob_14)] [(.ref ob_14)]))
          obtain ⟨cq16, kq16, q16a, q16b, q16c⟩ := isOf hZ13 rfl q13_1
          obtain ⟨_, _, ⟨T16, L16, k16, n16⟩, -, X16, ⟨Lc16, hQ16, l16, y16, z16⟩, st16⟩ := XX13.virtualBack hx (y := (⟨"com/example/crisp_fixture/crispfixture/dialect/Dialect$ColumnType", "code", "()I"⟩ : MethodName)) (z := (⟨"com/example/crisp_fixture/crispfixture/dialect/Dialect$ColumnType", "code", "()I"⟩ : MethodName)) hown13 (mvT hZ13 (hw _ (List.mem_of_getElem? (i := 63) rfl))) (mvT hZ13 (hw _ (List.mem_of_getElem? (i := 64) rfl))) (notFace_of_selects (args := #[]) (mvT hZ13 (hw _ (List.mem_of_getElem? (i := 66) rfl)))) (mvT hZ13 (hw _ (List.mem_of_getElem? (i := 66) rfl))) (mvT hZ13 (hw _ (List.mem_of_getElem? (i := 65) rfl))) (by decide) (backOf (W := 0) (rm_gc l Z a0 hw [] w_A S_A X_A w_B S_B X_B w_C S_C X_C w_D S_D X_D g_CS S_CS nz_CS ob_14 p0 T13.heap n0 O13 q13_2) hZ13 (hw _ (List.mem_of_getElem? (i := 67) rfl)) (hw _ (List.mem_of_getElem? (i := 31) rfl)) (by decide) (by decide)) q16a q16c (g := (mkF m 145 #[.val (.int p0), .val (.int p1), .val (.int p2), .val (.int p3), .val (.int p4), .val (.int p5), .val (.int (p5 &&& (3 : Int32))), .val (.ref jc), .val jn, .val jb, .val jo, .val (.ref b5), .val (.ref ob_14)] [(.ref ob_14)])) rfl (by rw [hml]; rfl) (Steps.refl _) (argsL := []) (rest := []) (lenOf own_pd7 rfl) rfl (by show 2 * 0 + _ ≤ _; exact Nat.le_of_eq rfl) (hb hby at_145) (fun _ _ => ⟨rfl, rfl, (by decide : 24 + 0 ≤ _), (by decide : 110 + 0 ≤ _)⟩)
          dsimp only [Pt.U, Pt.locs, Pt.cells, Pt.slots] at X16 l16 y16 z16 st16 hQ16
          subst l16 y16 z16
          refine Go.tr st16 ?_
          obtain ⟨rfl, N16q, e16⟩ := hQ16
          have N16 := Fr.app N13 N16q
          show Go p.tables e below P (T16.setTop (mkF m 148 #[.val (.int p0), .val (.int p1), .val (.int p2), .val (.int p3), .val (.int p4), .val (.int p5), .val (.int (p5 &&& (3 : Int32))), .val (.ref jc), .val jn, .val jb, .val jo, .val (.ref b5), .val (.ref ob_14)] [(.int p0)]))
          refine Go.st (fun _ => XS.iloadN X16.here hx rfl (hb hby at_148) rfl) ?_
          show Go p.tables e below P (T16.setTop (mkF m 149 #[.val (.int p0), .val (.int p1), .val (.int p2), .val (.int p3), .val (.int p4), .val (.int p5), .val (.int (p5 &&& (3 : Int32))), .val (.ref jc), .val jn, .val jb, .val jo, .val (.ref b5), .val (.ref ob_14)] [(.int p0), (.int p0)]))
          refine Go.st (fun _ => XS.icmpNo X16.here hx rfl (hb hby at_149) rfl (teq (rfl)).2) ?_
          show Go p.tables e below P (T16.setTop (mkF m 152 #[.val (.int p0), .val (.int p1), .val (.int p2), .val (.int p3), .val (.int p4), .val (.int p5), .val (.int (p5 &&& (3 : Int32))), .val (.ref jc), .val jn, .val jb, .val jo, .val (.ref b5), .val (.ref ob_14)] []))
          refine Go.st (fun _ => XS.aload X16.here hx rfl (hb hby at_152) rfl rfl) ?_
          show Go p.tables e below P (T16.setTop (mkF m 154 #[.val (.int p0), .val (.int p1), .val (.int p2), .val (.int p3), .val (.int p4), .val (.int p5), .val (.int (p5 &&& (3 : Int32))), .val (.ref jc), .val jn, .val jb, .val jo, .val (.ref b5), .val (.ref ob_14)] [(.ref ob_14)]))
          obtain ⟨cq17, kq17, q17a, q17b, q17c⟩ := isOf hZ13 e16 q13_1
          obtain ⟨_, _, ⟨T17, L17, k17, n17⟩, -, X17, ⟨Lc17, hQ17, l17, y17, z17⟩, st17⟩ := X16.virtualBack hx (y := (⟨"com/example/crisp_fixture/crispfixture/dialect/Dialect$ColumnType", "name", "()Ljava/lang/String;"⟩ : MethodName)) (z := (⟨"com/example/crisp_fixture/crispfixture/dialect/Dialect$ColumnType", "name", "()Ljava/lang/String;"⟩ : MethodName)) hown13 (mvT hZ13 (hw _ (List.mem_of_getElem? (i := 68) rfl))) (mvT hZ13 (hw _ (List.mem_of_getElem? (i := 69) rfl))) (notFace_of_selects (args := #[]) (mvT hZ13 (hw _ (List.mem_of_getElem? (i := 71) rfl)))) (mvT hZ13 (hw _ (List.mem_of_getElem? (i := 71) rfl))) (mvT hZ13 (hw _ (List.mem_of_getElem? (i := 70) rfl))) (by decide) (backOf (W := 0) (rm_gn l Z a0 hw [] w_A S_A X_A w_B S_B X_B w_C S_C X_C w_D S_D X_D g_CS S_CS nz_CS ob_14 jn T13.heap n0 O13 q13_3 hr_jn) hZ13 (hw _ (List.mem_of_getElem? (i := 72) rfl)) (hw _ (List.mem_of_getElem? (i := 31) rfl)) (by decide) (by decide)) q17a q17c (g := (mkF m 154 #[.val (.int p0), .val (.int p1), .val (.int p2), .val (.int p3), .val (.int p4), .val (.int p5), .val (.int (p5 &&& (3 : Int32))), .val (.ref jc), .val jn, .val jb, .val jo, .val (.ref b5), .val (.ref ob_14)] [(.ref ob_14)])) rfl (by rw [hml]; rfl) (Steps.refl _) (argsL := []) (rest := []) (lenOf own_pd8 rfl) rfl (by show 2 * 0 + _ ≤ _; exact Nat.le_of_eq rfl) (hb hby at_154) (fun _ _ => ⟨rfl, e16, (by decide : 24 + 0 ≤ _), (by decide : 110 + 0 ≤ _)⟩)
          dsimp only [Pt.U, Pt.locs, Pt.cells, Pt.slots] at X17 l17 y17 z17 st17 hQ17
          subst l17 y17 z17
          refine Go.tr st17 ?_
          obtain ⟨rfl, N17q, e17⟩ := hQ17
          have N17 := Fr.app N16 N17q
          show Go p.tables e below P (T17.setTop (mkF m 157 #[.val (.int p0), .val (.int p1), .val (.int p2), .val (.int p3), .val (.int p4), .val (.int p5), .val (.int (p5 &&& (3 : Int32))), .val (.ref jc), .val jn, .val jb, .val jo, .val (.ref b5), .val (.ref ob_14)] [jn]))
          refine Go.st (fun _ => XS.aload X17.here hx rfl (hb hby at_157) rfl hr_jn) ?_
          show Go p.tables e below P (T17.setTop (mkF m 159 #[.val (.int p0), .val (.int p1), .val (.int p2), .val (.int p3), .val (.int p4), .val (.int p5), .val (.int (p5 &&& (3 : Int32))), .val (.ref jc), .val jn, .val jb, .val jo, .val (.ref b5), .val (.ref ob_14)] [jn, jn]))
          have c19 := (((fj4_0.ext E5).keep K11q).keep K13q)
          obtain ⟨_, _, ⟨T18, L18, k18, n18⟩, -, X18, ⟨Lc18, hQ18, l18, y18, z18⟩, st18⟩ := Jvm.LawKit.callS X17 hx (y := (⟨"com/example/crisp_fixture/crispfixture/dialect/ColumnTypeWithBaseNamePinLaw", "same", "(Ljava/lang/String;Ljava/lang/String;)Z"⟩ : MethodName)) hown13 (mvT hZ13 (hw _ (List.mem_of_getElem? (i := 73) rfl))) (mvT hZ13 (hw _ (List.mem_of_getElem? (i := 74) rfl))) (mvT hZ13 (hw _ (List.mem_of_getElem? (i := 5) rfl))) (mvT hZ13 (hw _ (List.mem_of_getElem? (i := 75) rfl))) (by decide) (backOf (W := 0) (rm_same l Z a0 hw [] w_A S_A X_A w_B S_B X_B w_C S_C X_C w_D S_D X_D g_CS S_CS nz_CS jn T13.heap n0 O13 c19) hZ13 (hw _ (List.mem_of_getElem? (i := 75) rfl)) (hw _ (List.mem_of_getElem? (i := 5) rfl)) (by decide) (by decide)) (g := (mkF m 159 #[.val (.int p0), .val (.int p1), .val (.int p2), .val (.int p3), .val (.int p4), .val (.int p5), .val (.int (p5 &&& (3 : Int32))), .val (.ref jc), .val jn, .val jb, .val jo, .val (.ref b5), .val (.ref ob_14)] [jn, jn])) rfl (by rw [hml]; rfl) (argsL := [jn, jn]) (rest := []) (lenOf own_pd9 rfl) rfl (by show 2 * 0 + _ ≤ _; exact Nat.le_of_eq rfl) (hb hby at_159) (fun _ _ => ⟨rfl, e17, (by decide : 24 + 0 ≤ _), (by decide : 110 + 0 ≤ _)⟩)
          dsimp only [Pt.U, Pt.locs, Pt.cells, Pt.slots] at X18 l18 y18 z18 st18 hQ18
          subst l18 y18 z18
          refine Go.st st18 ?_
          obtain ⟨rfl, N18q, e18⟩ := hQ18
          have N18 := Fr.app N17 N18q
          show Go p.tables e below P (T18.setTop (mkF m 162 #[.val (.int p0), .val (.int p1), .val (.int p2), .val (.int p3), .val (.int p4), .val (.int p5), .val (.int (p5 &&& (3 : Int32))), .val (.ref jc), .val jn, .val jb, .val jo, .val (.ref b5), .val (.ref ob_14)] [(.int (1 : Int32))]))
          refine Go.st (fun _ => XS.ifNo X18.here hx rfl (hb hby at_162) rfl ((if0 _ _).trans (feq (by decide)).1)) ?_
          show Go p.tables e below P (T18.setTop (mkF m 165 #[.val (.int p0), .val (.int p1), .val (.int p2), .val (.int p3), .val (.int p4), .val (.int p5), .val (.int (p5 &&& (3 : Int32))), .val (.ref jc), .val jn, .val jb, .val jo, .val (.ref b5), .val (.ref ob_14)] []))
          refine Go.st (fun _ => XS.aload X18.here hx rfl (hb hby at_165) rfl rfl) ?_
          show Go p.tables e below P (T18.setTop (mkF m 167 #[.val (.int p0), .val (.int p1), .val (.int p2), .val (.int p3), .val (.int p4), .val (.int p5), .val (.int (p5 &&& (3 : Int32))), .val (.ref jc), .val jn, .val jb, .val jo, .val (.ref b5), .val (.ref ob_14)] [(.ref ob_14)]))
          obtain ⟨cq20, kq20, q20a, q20b, q20c⟩ := isOf hZ13 e18 q13_1
          obtain ⟨_, _, ⟨T20, L20, k20, n20⟩, -, X20, ⟨Lc20, hQ20, l20, y20, z20⟩, st20⟩ := X18.virtualBack hx (y := (⟨"com/example/crisp_fixture/crispfixture/dialect/Dialect$ColumnType", "size", "()I"⟩ : MethodName)) (z := (⟨"com/example/crisp_fixture/crispfixture/dialect/Dialect$ColumnType", "size", "()I"⟩ : MethodName)) hown13 (mvT hZ13 (hw _ (List.mem_of_getElem? (i := 81) rfl))) (mvT hZ13 (hw _ (List.mem_of_getElem? (i := 82) rfl))) (notFace_of_selects (args := #[]) (mvT hZ13 (hw _ (List.mem_of_getElem? (i := 84) rfl)))) (mvT hZ13 (hw _ (List.mem_of_getElem? (i := 84) rfl))) (mvT hZ13 (hw _ (List.mem_of_getElem? (i := 83) rfl))) (by decide) (backOf (W := 0) (rm_gs l Z a0 hw [] w_A S_A X_A w_B S_B X_B w_C S_C X_C w_D S_D X_D g_CS S_CS nz_CS ob_14 p1 T13.heap n0 O13 q13_4) hZ13 (hw _ (List.mem_of_getElem? (i := 85) rfl)) (hw _ (List.mem_of_getElem? (i := 31) rfl)) (by decide) (by decide)) q20a q20c (g := (mkF m 167 #[.val (.int p0), .val (.int p1), .val (.int p2), .val (.int p3), .val (.int p4), .val (.int p5), .val (.int (p5 &&& (3 : Int32))), .val (.ref jc), .val jn, .val jb, .val jo, .val (.ref b5), .val (.ref ob_14)] [(.ref ob_14)])) rfl (by rw [hml]; rfl) (Steps.refl _) (argsL := []) (rest := []) (lenOf own_pd7 rfl) rfl (by show 2 * 0 + _ ≤ _; exact Nat.le_of_eq rfl) (hb hby at_167) (fun _ _ => ⟨rfl, e18, (by decide : 24 + 0 ≤ _), (by decide : 110 + 0 ≤ _)⟩)
          dsimp only [Pt.U, Pt.locs, Pt.cells, Pt.slots] at X20 l20 y20 z20 st20 hQ20
          subst l20 y20 z20
          refine Go.tr st20 ?_
          obtain ⟨rfl, N20q, e20⟩ := hQ20
          have N20 := Fr.app N18 N20q
          show Go p.tables e below P (T20.setTop (mkF m 170 #[.val (.int p0), .val (.int p1), .val (.int p2), .val (.int p3), .val (.int p4), .val (.int p5), .val (.int (p5 &&& (3 : Int32))), .val (.ref jc), .val jn, .val jb, .val jo, .val (.ref b5), .val (.ref ob_14)] [(.int p1)]))
          refine Go.st (fun _ => XS.iloadN X20.here hx rfl (hb hby at_170) rfl) ?_
          show Go p.tables e below P (T20.setTop (mkF m 171 #[.val (.int p0), .val (.int p1), .val (.int p2), .val (.int p3), .val (.int p4), .val (.int p5), .val (.int (p5 &&& (3 : Int32))), .val (.ref jc), .val jn, .val jb, .val jo, .val (.ref b5), .val (.ref ob_14)] [(.int p1), (.int p1)]))
          refine Go.st (fun _ => XS.icmpNo X20.here hx rfl (hb hby at_171) rfl (teq (rfl)).2) ?_
          show Go p.tables e below P (T20.setTop (mkF m 174 #[.val (.int p0), .val (.int p1), .val (.int p2), .val (.int p3), .val (.int p4), .val (.int p5), .val (.int (p5 &&& (3 : Int32))), .val (.ref jc), .val jn, .val jb, .val jo, .val (.ref b5), .val (.ref ob_14)] []))
          refine Go.st (fun _ => XS.aload X20.here hx rfl (hb hby at_174) rfl rfl) ?_
          show Go p.tables e below P (T20.setTop (mkF m 176 #[.val (.int p0), .val (.int p1), .val (.int p2), .val (.int p3), .val (.int p4), .val (.int p5), .val (.int (p5 &&& (3 : Int32))), .val (.ref jc), .val jn, .val jb, .val jo, .val (.ref b5), .val (.ref ob_14)] [(.ref ob_14)]))
          obtain ⟨cq21, kq21, q21a, q21b, q21c⟩ := isOf hZ13 e20 q13_1
          obtain ⟨_, _, ⟨T21, L21, k21, n21⟩, -, X21, ⟨Lc21, hQ21, l21, y21, z21⟩, st21⟩ := X20.virtualBack hx (y := (⟨"com/example/crisp_fixture/crispfixture/dialect/Dialect$ColumnType", "baseName", "()Ljava/lang/String;"⟩ : MethodName)) (z := (⟨"com/example/crisp_fixture/crispfixture/dialect/Dialect$ColumnType", "baseName", "()Ljava/lang/String;"⟩ : MethodName)) hown13 (mvT hZ13 (hw _ (List.mem_of_getElem? (i := 86) rfl))) (mvT hZ13 (hw _ (List.mem_of_getElem? (i := 87) rfl))) (notFace_of_selects (args := #[]) (mvT hZ13 (hw _ (List.mem_of_getElem? (i := 89) rfl)))) (mvT hZ13 (hw _ (List.mem_of_getElem? (i := 89) rfl))) (mvT hZ13 (hw _ (List.mem_of_getElem? (i := 88) rfl))) (by decide) (backOf (W := 0) (rm_gb l Z a0 hw [] w_A S_A X_A w_B S_B X_B w_C S_C X_C w_D S_D X_D g_CS S_CS nz_CS ob_14 jo T13.heap n0 O13 q13_5 hr_jo) hZ13 (hw _ (List.mem_of_getElem? (i := 90) rfl)) (hw _ (List.mem_of_getElem? (i := 31) rfl)) (by decide) (by decide)) q21a q21c (g := (mkF m 176 #[.val (.int p0), .val (.int p1), .val (.int p2), .val (.int p3), .val (.int p4), .val (.int p5), .val (.int (p5 &&& (3 : Int32))), .val (.ref jc), .val jn, .val jb, .val jo, .val (.ref b5), .val (.ref ob_14)] [(.ref ob_14)])) rfl (by rw [hml]; rfl) (Steps.refl _) (argsL := []) (rest := []) (lenOf own_pd8 rfl) rfl (by show 2 * 0 + _ ≤ _; exact Nat.le_of_eq rfl) (hb hby at_176) (fun _ _ => ⟨rfl, e20, (by decide : 24 + 0 ≤ _), (by decide : 110 + 0 ≤ _)⟩)
          dsimp only [Pt.U, Pt.locs, Pt.cells, Pt.slots] at X21 l21 y21 z21 st21 hQ21
          subst l21 y21 z21
          refine Go.tr st21 ?_
          obtain ⟨rfl, N21q, e21⟩ := hQ21
          have N21 := Fr.app N20 N21q
          show Go p.tables e below P (T21.setTop (mkF m 179 #[.val (.int p0), .val (.int p1), .val (.int p2), .val (.int p3), .val (.int p4), .val (.int p5), .val (.int (p5 &&& (3 : Int32))), .val (.ref jc), .val jn, .val jb, .val jo, .val (.ref b5), .val (.ref ob_14)] [jo]))
          refine Go.st (fun _ => XS.aload X21.here hx rfl (hb hby at_179) rfl hr_jo) ?_
          show Go p.tables e below P (T21.setTop (mkF m 181 #[.val (.int p0), .val (.int p1), .val (.int p2), .val (.int p3), .val (.int p4), .val (.int p5), .val (.int (p5 &&& (3 : Int32))), .val (.ref jc), .val jn, .val jb, .val jo, .val (.ref b5), .val (.ref ob_14)] [jo, jo]))
          have c23 := (((hq_jo.ext E5).keep K11q).keep K13q)
          obtain ⟨_, _, ⟨T22, L22, k22, n22⟩, -, X22, ⟨Lc22, hQ22, l22, y22, z22⟩, st22⟩ := Jvm.LawKit.callS X21 hx (y := (⟨"com/example/crisp_fixture/crispfixture/dialect/ColumnTypeWithBaseNamePinLaw", "same", "(Ljava/lang/String;Ljava/lang/String;)Z"⟩ : MethodName)) hown13 (mvT hZ13 (hw _ (List.mem_of_getElem? (i := 73) rfl))) (mvT hZ13 (hw _ (List.mem_of_getElem? (i := 74) rfl))) (mvT hZ13 (hw _ (List.mem_of_getElem? (i := 5) rfl))) (mvT hZ13 (hw _ (List.mem_of_getElem? (i := 75) rfl))) (by decide) (backOf (W := 0) (rm_same l Z a0 hw [] w_A S_A X_A w_B S_B X_B w_C S_C X_C w_D S_D X_D g_CS S_CS nz_CS jo T13.heap n0 O13 c23) hZ13 (hw _ (List.mem_of_getElem? (i := 75) rfl)) (hw _ (List.mem_of_getElem? (i := 5) rfl)) (by decide) (by decide)) (g := (mkF m 181 #[.val (.int p0), .val (.int p1), .val (.int p2), .val (.int p3), .val (.int p4), .val (.int p5), .val (.int (p5 &&& (3 : Int32))), .val (.ref jc), .val jn, .val jb, .val jo, .val (.ref b5), .val (.ref ob_14)] [jo, jo])) rfl (by rw [hml]; rfl) (argsL := [jo, jo]) (rest := []) (lenOf own_pd9 rfl) rfl (by show 2 * 0 + _ ≤ _; exact Nat.le_of_eq rfl) (hb hby at_181) (fun _ _ => ⟨rfl, e21, (by decide : 24 + 0 ≤ _), (by decide : 110 + 0 ≤ _)⟩)
          dsimp only [Pt.U, Pt.locs, Pt.cells, Pt.slots] at X22 l22 y22 z22 st22 hQ22
          subst l22 y22 z22
          refine Go.st st22 ?_
          obtain ⟨rfl, N22q, e22⟩ := hQ22
          have N22 := Fr.app N21 N22q
          show Go p.tables e below P (T22.setTop (mkF m 184 #[.val (.int p0), .val (.int p1), .val (.int p2), .val (.int p3), .val (.int p4), .val (.int p5), .val (.int (p5 &&& (3 : Int32))), .val (.ref jc), .val jn, .val jb, .val jo, .val (.ref b5), .val (.ref ob_14)] [(.int (1 : Int32))]))
          refine Go.st (fun _ => XS.ifNo X22.here hx rfl (hb hby at_184) rfl ((if0 _ _).trans (feq (by decide)).1)) ?_
          show Go p.tables e below P (T22.setTop (mkF m 187 #[.val (.int p0), .val (.int p1), .val (.int p2), .val (.int p3), .val (.int p4), .val (.int p5), .val (.int (p5 &&& (3 : Int32))), .val (.ref jc), .val jn, .val jb, .val jo, .val (.ref b5), .val (.ref ob_14)] []))
          refine Go.st (fun _ => XS.aload X22.here hx rfl (hb hby at_187) rfl rfl) ?_
          show Go p.tables e below P (T22.setTop (mkF m 189 #[.val (.int p0), .val (.int p1), .val (.int p2), .val (.int p3), .val (.int p4), .val (.int p5), .val (.int (p5 &&& (3 : Int32))), .val (.ref jc), .val jn, .val jb, .val jo, .val (.ref b5), .val (.ref ob_14)] [(.ref ob_14)]))
          obtain ⟨cq24, kq24, q24a, q24b, q24c⟩ := isOf hZ13 e22 q13_1
          obtain ⟨_, _, ⟨T24, L24, k24, n24⟩, -, X24, ⟨Lc24, hQ24, l24, y24, z24⟩, st24⟩ := X22.virtualBack hx (y := (⟨"com/example/crisp_fixture/crispfixture/dialect/Dialect$ColumnType", "content", "()Lcom/example/crisp_fixture/crispfixture/dialect/Dialect$Content;"⟩ : MethodName)) (z := (⟨"com/example/crisp_fixture/crispfixture/dialect/Dialect$ColumnType", "content", "()Lcom/example/crisp_fixture/crispfixture/dialect/Dialect$Content;"⟩ : MethodName)) hown13 (mvT hZ13 (hw _ (List.mem_of_getElem? (i := 91) rfl))) (mvT hZ13 (hw _ (List.mem_of_getElem? (i := 92) rfl))) (notFace_of_selects (args := #[]) (mvT hZ13 (hw _ (List.mem_of_getElem? (i := 94) rfl)))) (mvT hZ13 (hw _ (List.mem_of_getElem? (i := 94) rfl))) (mvT hZ13 (hw _ (List.mem_of_getElem? (i := 93) rfl))) (by decide) (backOf (W := 0) (rm_gt l Z a0 hw [] w_A S_A X_A w_B S_B X_B w_C S_C X_C w_D S_D X_D g_CS S_CS nz_CS ob_14 jc T13.heap n0 O13 q13_6) hZ13 (hw _ (List.mem_of_getElem? (i := 95) rfl)) (hw _ (List.mem_of_getElem? (i := 31) rfl)) (by decide) (by decide)) q24a q24c (g := (mkF m 189 #[.val (.int p0), .val (.int p1), .val (.int p2), .val (.int p3), .val (.int p4), .val (.int p5), .val (.int (p5 &&& (3 : Int32))), .val (.ref jc), .val jn, .val jb, .val jo, .val (.ref b5), .val (.ref ob_14)] [(.ref ob_14)])) rfl (by rw [hml]; rfl) (Steps.refl _) (argsL := []) (rest := []) (lenOf own_pd10 rfl) rfl (by show 2 * 0 + _ ≤ _; exact Nat.le_of_eq rfl) (hb hby at_189) (fun _ _ => ⟨rfl, e22, (by decide : 24 + 0 ≤ _), (by decide : 110 + 0 ≤ _)⟩)
          dsimp only [Pt.U, Pt.locs, Pt.cells, Pt.slots] at X24 l24 y24 z24 st24 hQ24
          subst l24 y24 z24
          refine Go.tr st24 ?_
          obtain ⟨rfl, N24q, e24⟩ := hQ24
          have N24 := Fr.app N22 N24q
          show Go p.tables e below P (T24.setTop (mkF m 192 #[.val (.int p0), .val (.int p1), .val (.int p2), .val (.int p3), .val (.int p4), .val (.int p5), .val (.int (p5 &&& (3 : Int32))), .val (.ref jc), .val jn, .val jb, .val jo, .val (.ref b5), .val (.ref ob_14)] [(.ref jc)]))
          refine Go.st (fun _ => XS.aload X24.here hx rfl (hb hby at_192) rfl rfl) ?_
          show Go p.tables e below P (T24.setTop (mkF m 194 #[.val (.int p0), .val (.int p1), .val (.int p2), .val (.int p3), .val (.int p4), .val (.int p5), .val (.int (p5 &&& (3 : Int32))), .val (.ref jc), .val jn, .val jb, .val jo, .val (.ref b5), .val (.ref ob_14)] [(.ref jc), (.ref jc)]))
          refine Go.st (fun _ => Jvm.RoadKit.acmp (g := (mkF m 194 #[.val (.int p0), .val (.int p1), .val (.int p2), .val (.int p3), .val (.int p4), .val (.int p5), .val (.int (p5 &&& (3 : Int32))), .val (.ref jc), .val jn, .val jb, .val jo, .val (.ref b5), .val (.ref ob_14)] [(.ref jc), (.ref jc)])) X24 hx rfl rfl rfl (pc0 := 194) (pc' := 197) (same := true) rfl (hb hby at_194) rfl (decide_eq_true rfl) (by decide) (by decide)) ?_
          show Go p.tables e below P (T24.setTop (mkF m 197 #[.val (.int p0), .val (.int p1), .val (.int p2), .val (.int p3), .val (.int p4), .val (.int p5), .val (.int (p5 &&& (3 : Int32))), .val (.ref jc), .val jn, .val jb, .val jo, .val (.ref b5), .val (.ref ob_14)] []))
          refine Go.st (fun _ => XS.aload X24.here hx rfl (hb hby at_197) rfl rfl) ?_
          show Go p.tables e below P (T24.setTop (mkF m 199 #[.val (.int p0), .val (.int p1), .val (.int p2), .val (.int p3), .val (.int p4), .val (.int p5), .val (.int (p5 &&& (3 : Int32))), .val (.ref jc), .val jn, .val jb, .val jo, .val (.ref b5), .val (.ref ob_14)] [(.ref b5)]))
          have c26 := (q11_4.keep K13q nin0)
          have c27 := (q11_0.keep K13q)
          obtain ⟨cq25, kq25, q25a, q25b, q25c⟩ := isOf hZ13 e24 c27
          obtain ⟨_, _, ⟨T25, L25, k25, n25⟩, -, X25, ⟨Lc25, hQ25, l25, y25, z25⟩, st25⟩ := X24.virtualBack hx (y := (⟨"com/example/crisp_fixture/crispfixture/dialect/Dialect$ColumnType", "baseName", "()Ljava/lang/String;"⟩ : MethodName)) (z := (⟨"com/example/crisp_fixture/crispfixture/dialect/Dialect$ColumnType", "baseName", "()Ljava/lang/String;"⟩ : MethodName)) hown13 (mvT hZ13 (hw _ (List.mem_of_getElem? (i := 86) rfl))) (mvT hZ13 (hw _ (List.mem_of_getElem? (i := 87) rfl))) (notFace_of_selects (args := #[]) (mvT hZ13 (hw _ (List.mem_of_getElem? (i := 89) rfl)))) (mvT hZ13 (hw _ (List.mem_of_getElem? (i := 89) rfl))) (mvT hZ13 (hw _ (List.mem_of_getElem? (i := 88) rfl))) (by decide) (backOf (W := 0) (rm_gb l Z a0 hw [] w_A S_A X_A w_B S_B X_B w_C S_C X_C w_D S_D X_D g_CS S_CS nz_CS b5 jb T13.heap n0 O13 c26 hr_jb) hZ13 (hw _ (List.mem_of_getElem? (i := 90) rfl)) (hw _ (List.mem_of_getElem? (i := 31) rfl)) (by decide) (by decide)) q25a q25c (g := (mkF m 199 #[.val (.int p0), .val (.int p1), .val (.int p2), .val (.int p3), .val (.int p4), .val (.int p5), .val (.int (p5 &&& (3 : Int32))), .val (.ref jc), .val jn, .val jb, .val jo, .val (.ref b5), .val (.ref ob_14)] [(.ref b5)])) rfl (by rw [hml]; rfl) (Steps.refl _) (argsL := []) (rest := []) (lenOf own_pd8 rfl) rfl (by show 2 * 0 + _ ≤ _; exact Nat.le_of_eq rfl) (hb hby at_199) (fun _ _ => ⟨rfl, e24, (by decide : 24 + 0 ≤ _), (by decide : 110 + 0 ≤ _)⟩)
          dsimp only [Pt.U, Pt.locs, Pt.cells, Pt.slots] at X25 l25 y25 z25 st25 hQ25
          subst l25 y25 z25
          refine Go.tr st25 ?_
          obtain ⟨rfl, N25q, e25⟩ := hQ25
          have N25 := Fr.app N24 N25q
          show Go p.tables e below P (T25.setTop (mkF m 202 #[.val (.int p0), .val (.int p1), .val (.int p2), .val (.int p3), .val (.int p4), .val (.int p5), .val (.int (p5 &&& (3 : Int32))), .val (.ref jc), .val jn, .val jb, .val jo, .val (.ref b5), .val (.ref ob_14)] [jb]))
          refine Go.st (fun _ => XS.aload X25.here hx rfl (hb hby at_202) rfl hr_jb) ?_
          show Go p.tables e below P (T25.setTop (mkF m 204 #[.val (.int p0), .val (.int p1), .val (.int p2), .val (.int p3), .val (.int p4), .val (.int p5), .val (.int (p5 &&& (3 : Int32))), .val (.ref jc), .val jn, .val jb, .val jo, .val (.ref b5), .val (.ref ob_14)] [jb, jb]))
          have c29 := (((fj4_1.ext E5).keep K11q).keep K13q)
          obtain ⟨_, _, ⟨T28, L28, k28, n28⟩, -, X28, ⟨Lc28, hQ28, l28, y28, z28⟩, st28⟩ := Jvm.LawKit.callS X25 hx (y := (⟨"com/example/crisp_fixture/crispfixture/dialect/ColumnTypeWithBaseNamePinLaw", "same", "(Ljava/lang/String;Ljava/lang/String;)Z"⟩ : MethodName)) hown13 (mvT hZ13 (hw _ (List.mem_of_getElem? (i := 73) rfl))) (mvT hZ13 (hw _ (List.mem_of_getElem? (i := 74) rfl))) (mvT hZ13 (hw _ (List.mem_of_getElem? (i := 5) rfl))) (mvT hZ13 (hw _ (List.mem_of_getElem? (i := 75) rfl))) (by decide) (backOf (W := 0) (rm_same l Z a0 hw [] w_A S_A X_A w_B S_B X_B w_C S_C X_C w_D S_D X_D g_CS S_CS nz_CS jb T13.heap n0 O13 c29) hZ13 (hw _ (List.mem_of_getElem? (i := 75) rfl)) (hw _ (List.mem_of_getElem? (i := 5) rfl)) (by decide) (by decide)) (g := (mkF m 204 #[.val (.int p0), .val (.int p1), .val (.int p2), .val (.int p3), .val (.int p4), .val (.int p5), .val (.int (p5 &&& (3 : Int32))), .val (.ref jc), .val jn, .val jb, .val jo, .val (.ref b5), .val (.ref ob_14)] [jb, jb])) rfl (by rw [hml]; rfl) (argsL := [jb, jb]) (rest := []) (lenOf own_pd9 rfl) rfl (by show 2 * 0 + _ ≤ _; exact Nat.le_of_eq rfl) (hb hby at_204) (fun _ _ => ⟨rfl, e25, (by decide : 24 + 0 ≤ _), (by decide : 110 + 0 ≤ _)⟩)
          dsimp only [Pt.U, Pt.locs, Pt.cells, Pt.slots] at X28 l28 y28 z28 st28 hQ28
          subst l28 y28 z28
          refine Go.st st28 ?_
          obtain ⟨rfl, N28q, e28⟩ := hQ28
          have N28 := Fr.app N25 N28q
          show Go p.tables e below P (T28.setTop (mkF m 207 #[.val (.int p0), .val (.int p1), .val (.int p2), .val (.int p3), .val (.int p4), .val (.int p5), .val (.int (p5 &&& (3 : Int32))), .val (.ref jc), .val jn, .val jb, .val jo, .val (.ref b5), .val (.ref ob_14)] [(.int (1 : Int32))]))
          refine Go.st (fun _ => XS.ifNo X28.here hx rfl (hb hby at_207) rfl ((if0 _ _).trans (feq (by decide)).1)) ?_
          show Go p.tables e below P (T28.setTop (mkF m 210 #[.val (.int p0), .val (.int p1), .val (.int p2), .val (.int p3), .val (.int p4), .val (.int p5), .val (.int (p5 &&& (3 : Int32))), .val (.ref jc), .val jn, .val jb, .val jo, .val (.ref b5), .val (.ref ob_14)] []))
          refine Go.st (fun _ => XS.iconst X28.here hx rfl (hb hby at_210)) ?_
          show Go p.tables e below P (T28.setTop (mkF m 211 #[.val (.int p0), .val (.int p1), .val (.int p2), .val (.int p3), .val (.int p4), .val (.int p5), .val (.int (p5 &&& (3 : Int32))), .val (.ref jc), .val jn, .val jb, .val jo, .val (.ref b5), .val (.ref ob_14)] [(.int (1 : Int32))]))
          refine Go.st (fun _ => XS.goto X28.here hx rfl (pc0 := 211) (pc' := 215) rfl (hb hby at_211) (by decide) (by decide)) ?_
          show Go p.tables e below P (T28.setTop (mkF m 215 #[.val (.int p0), .val (.int p1), .val (.int p2), .val (.int p3), .val (.int p4), .val (.int p5), .val (.int (p5 &&& (3 : Int32))), .val (.ref jc), .val jn, .val jb, .val jo, .val (.ref b5), .val (.ref ob_14)] [(.int (1 : Int32))]))
          obtain ⟨fs, hr, hrun, hended, -, hW, hpair, hsame⟩ := X28.leaveW hSS13 (by rw [e28]; exact (Nat.le_refl _)) (v := some (.int (1 : Int32))) (fun h => by rw [Bd.returns] at h; cases h)
          have hCRe := CR13.trans (CHv.at X28 hZ13 hEL CR13.1)
          refine ⟨_, ?_, hPend _ _ hrun hended ⟨_, _, rfl, ?_, ?_, ⟨_, rfl⟩, hW, hpair, hsame.mono (by decide) (by decide)⟩⟩
          · exact retN X28 hx (t := .boolean) Bd.returns (by simp) (hb hby at_215) hr
          · show Q_rm_law Z _ _ _ _ _ _ _ _ _ _ _ h0 n0 _ T28.heap _
            rw [e28]
            exact ⟨rfl, N28, K13⟩
          · show CHr Z consts_1 s.vm s.heap T28.vm T28.heap
            rw [hh, e28]
            exact hCRe
        by_cases hc30 : (((p5.toUInt32 >>> ((4 : Int32) &&& 31).toUInt32).toInt32) &&& (1 : Int32)) = (0 : Int32)
        · skip
          refine Go.st (fun _ => XS.ifYes Xj3.here hx rfl (pc0 := 96) (pc' := 103) rfl (hb hby at_96) rfl ((if0 _ _).trans (teq hc30).1) (by decide) (by decide)) ?_
          show Go p.tables e below P (Tj3.setTop (mkF m 103 #[.val (.int p0), .val (.int p1), .val (.int p2), .val (.int p3), .val (.int p4), .val (.int p5), .val (.int (p5 &&& (3 : Int32))), .val (.ref jc), .val jn, .val jb, .unset, .unset, .unset] []))
          refine Go.st (fun _ => XS.iload Xj3.here hx rfl (hb hby at_103) rfl) ?_
          show Go p.tables e below P (Tj3.setTop (mkF m 105 #[.val (.int p0), .val (.int p1), .val (.int p2), .val (.int p3), .val (.int p4), .val (.int p5), .val (.int (p5 &&& (3 : Int32))), .val (.ref jc), .val jn, .val jb, .unset, .unset, .unset] [(.int p4)]))
          obtain ⟨_, _, ⟨T31, L31, k31, n31⟩, -, X31, hS31, hg31, ⟨Lc31, hQ31, l31, y31, z31, hCR31⟩, st31⟩ := Jvm.RoadKit.callSS Xj3 hx (y := (⟨"com/example/crisp_fixture/crispfixture/dialect/ColumnTypeWithBaseNamePinLaw", "str", "(I)Ljava/lang/String;"⟩ : MethodName)) hownj3 (mvT hZj3 (hw _ (List.mem_of_getElem? (i := 3) rfl))) (mvT hZj3 (hw _ (List.mem_of_getElem? (i := 4) rfl))) (mvT hZj3 (hw _ (List.mem_of_getElem? (i := 5) rfl))) (mvT hZj3 (hw _ (List.mem_of_getElem? (i := 6) rfl))) (by decide) (backOfSH (W := 0) (rm_str l Z a0 hw [] w_A S_A X_A w_B S_B X_B w_C S_C X_C w_D S_D X_D g_CS S_CS nz_CS p4 hj3 n0 Oj3 ) hZj3 (hw _ (List.mem_of_getElem? (i := 6) rfl)) (hw _ (List.mem_of_getElem? (i := 5) rfl)) (by decide) (by decide) hEL CRj3.1) (g := (mkF m 105 #[.val (.int p0), .val (.int p1), .val (.int p2), .val (.int p3), .val (.int p4), .val (.int p5), .val (.int (p5 &&& (3 : Int32))), .val (.ref jc), .val jn, .val jb, .unset, .unset, .unset] [(.int p4)])) rfl (by rw [hml]; rfl) (argsL := [(.int p4)]) (rest := []) (lenOf own_pd11 rfl) rfl (by show 2 * 0 + _ ≤ _; exact Nat.le_of_eq rfl) (hb hby at_105) (fun _ _ => ⟨rfl, ej3, (by decide : 12 + 6 ≤ _), (by decide : 24 + 12 ≤ _)⟩)
          dsimp only [Pt.U, Pt.locs, Pt.cells, Pt.slots] at X31 l31 y31 z31 st31 hQ31 hS31 hg31 hCR31
          subst l31 y31 z31
          refine Go.tr st31 ?_
          obtain ⟨XX31, hSS31, hZ31, hown31⟩ := rebS hSj3 (by rw [ej3]; exact hkj3) X31 hS31 hg31 hZj3 hownj3
          obtain ⟨ob_32, rfl, N31q, K31q, q31_0, q31_1⟩ := hQ31
          have N31 := Fr.app Nj3 N31q
          have CR31 := CRj3.trans hCR31
          have O31 := Oj3.keep K31q all0
          have K31 : Keep h0 T31.heap [] := Kj3.trans K31q all0
          have sz_ob_32 : h0.size ≤ ob_32 := Nat.le_trans Kj3.1 q31_0
          have g_ob_32 : n0 ≤ ob_32 := Nat.le_trans (own_oldsz X00) sz_ob_32
          show Go p.tables e below P (T31.setTop (mkF m 108 #[.val (.int p0), .val (.int p1), .val (.int p2), .val (.int p3), .val (.int p4), .val (.int p5), .val (.int (p5 &&& (3 : Int32))), .val (.ref jc), .val jn, .val jb, .unset, .unset, .unset] [(.ref ob_32)]))
          have c33 := (fj3_0.keep K31q)
          have c34 := (hq_jb.keep K31q)
          exact J4 T31 T31.heap _ _ _ (XX31.more (by decide) (by decide)) rfl K31 O31 N31 hSS31 (Nat.le_refl _) hZ31 hown31 CR31 c33 c34 (.ref ob_32) rfl (Or.inr ⟨_, rfl, q31_1⟩)
        · skip
          refine Go.st (fun _ => XS.ifNo Xj3.here hx rfl (hb hby at_96) rfl ((if0 _ _).trans (feq hc30).1)) ?_
          show Go p.tables e below P (Tj3.setTop (mkF m 99 #[.val (.int p0), .val (.int p1), .val (.int p2), .val (.int p3), .val (.int p4), .val (.int p5), .val (.int (p5 &&& (3 : Int32))), .val (.ref jc), .val jn, .val jb, .unset, .unset, .unset] []))
          refine Go.st (fun _ => XS.aconstNull Xj3.here hx rfl (hb hby at_99)) ?_
          show Go p.tables e below P (Tj3.setTop (mkF m 100 #[.val (.int p0), .val (.int p1), .val (.int p2), .val (.int p3), .val (.int p4), .val (.int p5), .val (.int (p5 &&& (3 : Int32))), .val (.ref jc), .val jn, .val jb, .unset, .unset, .unset] [.null]))
          refine Go.st (fun _ => XS.goto Xj3.here hx rfl (pc0 := 100) (pc' := 108) rfl (hb hby at_100) (by decide) (by decide)) ?_
          show Go p.tables e below P (Tj3.setTop (mkF m 108 #[.val (.int p0), .val (.int p1), .val (.int p2), .val (.int p3), .val (.int p4), .val (.int p5), .val (.int (p5 &&& (3 : Int32))), .val (.ref jc), .val jn, .val jb, .unset, .unset, .unset] [.null]))
          exact J4 Tj3 hj3 _ _ _ (Xj3.more (by decide) (by decide)) ej3 Kj3 Oj3 Nj3 hSj3 hkj3 hZj3 hownj3 CRj3 fj3_0 hq_jb .null rfl (Or.inl rfl)
      by_cases hc35 : (((p5.toUInt32 >>> ((3 : Int32) &&& 31).toUInt32).toInt32) &&& (1 : Int32)) = (0 : Int32)
      · skip
        refine Go.st (fun _ => XS.ifYes Xj2.here hx rfl (pc0 := 77) (pc' := 84) rfl (hb hby at_77) rfl ((if0 _ _).trans (teq hc35).1) (by decide) (by decide)) ?_
        show Go p.tables e below P (Tj2.setTop (mkF m 84 #[.val (.int p0), .val (.int p1), .val (.int p2), .val (.int p3), .val (.int p4), .val (.int p5), .val (.int (p5 &&& (3 : Int32))), .val (.ref jc), .val jn, .unset, .unset, .unset, .unset] []))
        refine Go.st (fun _ => XS.iloadN Xj2.here hx rfl (hb hby at_84) rfl) ?_
        show Go p.tables e below P (Tj2.setTop (mkF m 85 #[.val (.int p0), .val (.int p1), .val (.int p2), .val (.int p3), .val (.int p4), .val (.int p5), .val (.int (p5 &&& (3 : Int32))), .val (.ref jc), .val jn, .unset, .unset, .unset, .unset] [(.int p3)]))
        obtain ⟨_, _, ⟨T36, L36, k36, n36⟩, -, X36, hS36, hg36, ⟨Lc36, hQ36, l36, y36, z36, hCR36⟩, st36⟩ := Jvm.RoadKit.callSS Xj2 hx (y := (⟨"com/example/crisp_fixture/crispfixture/dialect/ColumnTypeWithBaseNamePinLaw", "str", "(I)Ljava/lang/String;"⟩ : MethodName)) hownj2 (mvT hZj2 (hw _ (List.mem_of_getElem? (i := 3) rfl))) (mvT hZj2 (hw _ (List.mem_of_getElem? (i := 4) rfl))) (mvT hZj2 (hw _ (List.mem_of_getElem? (i := 5) rfl))) (mvT hZj2 (hw _ (List.mem_of_getElem? (i := 6) rfl))) (by decide) (backOfSH (W := 0) (rm_str l Z a0 hw [] w_A S_A X_A w_B S_B X_B w_C S_C X_C w_D S_D X_D g_CS S_CS nz_CS p3 hj2 n0 Oj2 ) hZj2 (hw _ (List.mem_of_getElem? (i := 6) rfl)) (hw _ (List.mem_of_getElem? (i := 5) rfl)) (by decide) (by decide) hEL CRj2.1) (g := (mkF m 85 #[.val (.int p0), .val (.int p1), .val (.int p2), .val (.int p3), .val (.int p4), .val (.int p5), .val (.int (p5 &&& (3 : Int32))), .val (.ref jc), .val jn, .unset, .unset, .unset, .unset] [(.int p3)])) rfl (by rw [hml]; rfl) (argsL := [(.int p3)]) (rest := []) (lenOf own_pd11 rfl) rfl (by show 2 * 0 + _ ≤ _; exact Nat.le_of_eq rfl) (hb hby at_85) (fun _ _ => ⟨rfl, ej2, (by decide : 6 + 6 ≤ _), (by decide : 12 + 12 ≤ _)⟩)
        dsimp only [Pt.U, Pt.locs, Pt.cells, Pt.slots] at X36 l36 y36 z36 st36 hQ36 hS36 hg36 hCR36
        subst l36 y36 z36
        refine Go.tr st36 ?_
        obtain ⟨XX36, hSS36, hZ36, hown36⟩ := rebS hSj2 (by rw [ej2]; exact hkj2) X36 hS36 hg36 hZj2 hownj2
        obtain ⟨ob_37, rfl, N36q, K36q, q36_0, q36_1⟩ := hQ36
        have N36 := Fr.app Nj2 N36q
        have CR36 := CRj2.trans hCR36
        have O36 := Oj2.keep K36q all0
        have K36 : Keep h0 T36.heap [] := Kj2.trans K36q all0
        have sz_ob_37 : h0.size ≤ ob_37 := Nat.le_trans Kj2.1 q36_0
        have g_ob_37 : n0 ≤ ob_37 := Nat.le_trans (own_oldsz X00) sz_ob_37
        show Go p.tables e below P (T36.setTop (mkF m 88 #[.val (.int p0), .val (.int p1), .val (.int p2), .val (.int p3), .val (.int p4), .val (.int p5), .val (.int (p5 &&& (3 : Int32))), .val (.ref jc), .val jn, .unset, .unset, .unset, .unset] [(.ref ob_37)]))
        have c38 := (hq_jn.keep K36q)
        exact J3 T36 T36.heap _ _ _ (XX36.more (by decide) (by decide)) rfl K36 O36 N36 hSS36 (Nat.le_refl _) hZ36 hown36 CR36 c38 (.ref ob_37) rfl (Or.inr ⟨_, rfl, q36_1⟩)
      · skip
        refine Go.st (fun _ => XS.ifNo Xj2.here hx rfl (hb hby at_77) rfl ((if0 _ _).trans (feq hc35).1)) ?_
        show Go p.tables e below P (Tj2.setTop (mkF m 80 #[.val (.int p0), .val (.int p1), .val (.int p2), .val (.int p3), .val (.int p4), .val (.int p5), .val (.int (p5 &&& (3 : Int32))), .val (.ref jc), .val jn, .unset, .unset, .unset, .unset] []))
        refine Go.st (fun _ => XS.aconstNull Xj2.here hx rfl (hb hby at_80)) ?_
        show Go p.tables e below P (Tj2.setTop (mkF m 81 #[.val (.int p0), .val (.int p1), .val (.int p2), .val (.int p3), .val (.int p4), .val (.int p5), .val (.int (p5 &&& (3 : Int32))), .val (.ref jc), .val jn, .unset, .unset, .unset, .unset] [.null]))
        refine Go.st (fun _ => XS.goto Xj2.here hx rfl (pc0 := 81) (pc' := 88) rfl (hb hby at_81) (by decide) (by decide)) ?_
        show Go p.tables e below P (Tj2.setTop (mkF m 88 #[.val (.int p0), .val (.int p1), .val (.int p2), .val (.int p3), .val (.int p4), .val (.int p5), .val (.int (p5 &&& (3 : Int32))), .val (.ref jc), .val jn, .unset, .unset, .unset, .unset] [.null]))
        exact J3 Tj2 hj2 _ _ _ (Xj2.more (by decide) (by decide)) ej2 Kj2 Oj2 Nj2 hSj2 hkj2 hZj2 hownj2 CRj2 hq_jn .null rfl (Or.inl rfl)
    by_cases hc39 : (((p5.toUInt32 >>> ((2 : Int32) &&& 31).toUInt32).toInt32) &&& (1 : Int32)) = (0 : Int32)
    · skip
      refine Go.st (fun _ => XS.ifYes Xj1.here hx rfl (pc0 := 58) (pc' := 65) rfl (hb hby at_58) rfl ((if0 _ _).trans (teq hc39).1) (by decide) (by decide)) ?_
      show Go p.tables e below P (Tj1.setTop (mkF m 65 #[.val (.int p0), .val (.int p1), .val (.int p2), .val (.int p3), .val (.int p4), .val (.int p5), .val (.int (p5 &&& (3 : Int32))), .val (.ref jc), .unset, .unset, .unset, .unset, .unset] []))
      refine Go.st (fun _ => XS.iloadN Xj1.here hx rfl (hb hby at_65) rfl) ?_
      show Go p.tables e below P (Tj1.setTop (mkF m 66 #[.val (.int p0), .val (.int p1), .val (.int p2), .val (.int p3), .val (.int p4), .val (.int p5), .val (.int (p5 &&& (3 : Int32))), .val (.ref jc), .unset, .unset, .unset, .unset, .unset] [(.int p2)]))
      obtain ⟨_, _, ⟨T40, L40, k40, n40⟩, -, X40, hS40, hg40, ⟨Lc40, hQ40, l40, y40, z40, hCR40⟩, st40⟩ := Jvm.RoadKit.callSS Xj1 hx (y := (⟨"com/example/crisp_fixture/crispfixture/dialect/ColumnTypeWithBaseNamePinLaw", "str", "(I)Ljava/lang/String;"⟩ : MethodName)) hown (mvT hZ (hw _ (List.mem_of_getElem? (i := 3) rfl))) (mvT hZ (hw _ (List.mem_of_getElem? (i := 4) rfl))) (mvT hZ (hw _ (List.mem_of_getElem? (i := 5) rfl))) (mvT hZ (hw _ (List.mem_of_getElem? (i := 6) rfl))) (by decide) (backOfSH (W := 0) (rm_str l Z a0 hw [] w_A S_A X_A w_B S_B X_B w_C S_C X_C w_D S_D X_D g_CS S_CS nz_CS p2 h0 n0 X00 ) hZ (hw _ (List.mem_of_getElem? (i := 6) rfl)) (hw _ (List.mem_of_getElem? (i := 5) rfl)) (by decide) (by decide) hEL CR0.1) (g := (mkF m 66 #[.val (.int p0), .val (.int p1), .val (.int p2), .val (.int p3), .val (.int p4), .val (.int p5), .val (.int (p5 &&& (3 : Int32))), .val (.ref jc), .unset, .unset, .unset, .unset, .unset] [(.int p2)])) rfl (by rw [hml]; rfl) (argsL := [(.int p2)]) (rest := []) (lenOf own_pd11 rfl) rfl (by show 2 * 0 + _ ≤ _; exact Nat.le_of_eq rfl) (hb hby at_66) (fun _ _ => ⟨rfl, ej1, (by decide : 0 + 6 ≤ _), (by decide : 0 + 12 ≤ _)⟩)
      dsimp only [Pt.U, Pt.locs, Pt.cells, Pt.slots] at X40 l40 y40 z40 st40 hQ40 hS40 hg40 hCR40
      subst l40 y40 z40
      refine Go.tr st40 ?_
      obtain ⟨XX40, hSS40, hZ40, hown40⟩ := rebS hS0 (by rw [ej1]; exact hk0) X40 hS40 hg40 hZ hown
      obtain ⟨ob_41, rfl, N40q, K40q, q40_0, q40_1⟩ := hQ40
      have N40 := Fr.app Nj1 N40q
      have CR40 := CR0.trans hCR40
      have O40 := X00.keep K40q all0
      have K40 : Keep h0 T40.heap [] := (Keep.refl h0 []).trans K40q all0
      have sz_ob_41 : h0.size ≤ ob_41 := Nat.le_trans (Keep.refl h0 []).1 q40_0
      have g_ob_41 : n0 ≤ ob_41 := Nat.le_trans (own_oldsz X00) sz_ob_41
      show Go p.tables e below P (T40.setTop (mkF m 69 #[.val (.int p0), .val (.int p1), .val (.int p2), .val (.int p3), .val (.int p4), .val (.int p5), .val (.int (p5 &&& (3 : Int32))), .val (.ref jc), .unset, .unset, .unset, .unset, .unset] [(.ref ob_41)]))
      exact J2 T40 T40.heap _ _ _ (XX40.more (by decide) (by decide)) rfl K40 O40 N40 hSS40 (Nat.le_refl _) hZ40 hown40 CR40  (.ref ob_41) rfl (Or.inr ⟨_, rfl, q40_1⟩)
    · skip
      refine Go.st (fun _ => XS.ifNo Xj1.here hx rfl (hb hby at_58) rfl ((if0 _ _).trans (feq hc39).1)) ?_
      show Go p.tables e below P (Tj1.setTop (mkF m 61 #[.val (.int p0), .val (.int p1), .val (.int p2), .val (.int p3), .val (.int p4), .val (.int p5), .val (.int (p5 &&& (3 : Int32))), .val (.ref jc), .unset, .unset, .unset, .unset, .unset] []))
      refine Go.st (fun _ => XS.aconstNull Xj1.here hx rfl (hb hby at_61)) ?_
      show Go p.tables e below P (Tj1.setTop (mkF m 62 #[.val (.int p0), .val (.int p1), .val (.int p2), .val (.int p3), .val (.int p4), .val (.int p5), .val (.int (p5 &&& (3 : Int32))), .val (.ref jc), .unset, .unset, .unset, .unset, .unset] [.null]))
      refine Go.st (fun _ => XS.goto Xj1.here hx rfl (pc0 := 62) (pc' := 69) rfl (hb hby at_62) (by decide) (by decide)) ?_
      show Go p.tables e below P (Tj1.setTop (mkF m 69 #[.val (.int p0), .val (.int p1), .val (.int p2), .val (.int p3), .val (.int p4), .val (.int p5), .val (.int (p5 &&& (3 : Int32))), .val (.ref jc), .unset, .unset, .unset, .unset, .unset] [.null]))
      exact J2 Tj1 h0 _ _ _ (Xj1.more (by decide) (by decide)) ej1 (Keep.refl h0 []) X00 Nj1 hS0 hk0 hZ hown CR0  .null rfl (Or.inl rfl)
  by_cases hc42 : (p5 &&& (3 : Int32)) = (0 : Int32)
  · skip
    refine Go.st (fun _ => XS.ifNo X0.here hx rfl (hb hby at_8) rfl ((if0 _ _).trans (teq hc42).2)) ?_
    show Go p.tables e below P (s₁.setTop (mkF m 11 #[.val (.int p0), .val (.int p1), .val (.int p2), .val (.int p3), .val (.int p4), .val (.int p5), .val (.int (p5 &&& (3 : Int32))), .unset, .unset, .unset, .unset, .unset, .unset] []))
    obtain ⟨T43, X43, e43, st43⟩ := getS2 X0 hx hZ hown (host := "") (Or.inl (hw _ (List.mem_of_getElem? (i := 100) rfl))) Via.refl e0 (S_A.ext X00.2) (g := (mkF m 11 #[.val (.int p0), .val (.int p1), .val (.int p2), .val (.int p3), .val (.int p4), .val (.int p5), .val (.int (p5 &&& (3 : Int32))), .unset, .unset, .unset, .unset, .unset, .unset] [])) rfl (hb hby at_11)
    refine Go.st st43 ?_
    show Go p.tables e below P (T43.setTop (mkF m 14 #[.val (.int p0), .val (.int p1), .val (.int p2), .val (.int p3), .val (.int p4), .val (.int p5), .val (.int (p5 &&& (3 : Int32))), .unset, .unset, .unset, .unset, .unset, .unset] [(.ref w_A)]))
    refine Go.st (fun _ => XS.astore X43.here hx rfl (hb hby at_14) rfl rfl (l' := #[.val (.int p0), .val (.int p1), .val (.int p2), .val (.int p3), .val (.int p4), .val (.int p5), .val (.int (p5 &&& (3 : Int32))), .val (.ref w_A), .unset, .unset, .unset, .unset, .unset]) rfl) ?_
    show Go p.tables e below P (T43.setTop (mkF m 16 #[.val (.int p0), .val (.int p1), .val (.int p2), .val (.int p3), .val (.int p4), .val (.int p5), .val (.int (p5 &&& (3 : Int32))), .val (.ref w_A), .unset, .unset, .unset, .unset, .unset] []))
    refine Go.st (fun _ => XS.goto X43.here hx rfl (pc0 := 16) (pc' := 52) rfl (hb hby at_16) (by decide) (by decide)) ?_
    show Go p.tables e below P (T43.setTop (mkF m 52 #[.val (.int p0), .val (.int p1), .val (.int p2), .val (.int p3), .val (.int p4), .val (.int p5), .val (.int (p5 &&& (3 : Int32))), .val (.ref w_A), .unset, .unset, .unset, .unset, .unset] []))
    exact J1 T43 _ (X43.more (by decide) (by decide)) e43 N0 w_A  
  · skip
    refine Go.st (fun _ => XS.ifYes X0.here hx rfl (pc0 := 8) (pc' := 19) rfl (hb hby at_8) rfl ((if0 _ _).trans (feq hc42).2) (by decide) (by decide)) ?_
    show Go p.tables e below P (s₁.setTop (mkF m 19 #[.val (.int p0), .val (.int p1), .val (.int p2), .val (.int p3), .val (.int p4), .val (.int p5), .val (.int (p5 &&& (3 : Int32))), .unset, .unset, .unset, .unset, .unset, .unset] []))
    refine Go.st (fun _ => XS.iload X0.here hx rfl (hb hby at_19) rfl) ?_
    show Go p.tables e below P (s₁.setTop (mkF m 21 #[.val (.int p0), .val (.int p1), .val (.int p2), .val (.int p3), .val (.int p4), .val (.int p5), .val (.int (p5 &&& (3 : Int32))), .unset, .unset, .unset, .unset, .unset, .unset] [(.int (p5 &&& (3 : Int32)))]))
    refine Go.st (fun _ => XS.iconst X0.here hx rfl (hb hby at_21)) ?_
    show Go p.tables e below P (s₁.setTop (mkF m 22 #[.val (.int p0), .val (.int p1), .val (.int p2), .val (.int p3), .val (.int p4), .val (.int p5), .val (.int (p5 &&& (3 : Int32))), .unset, .unset, .unset, .unset, .unset, .unset] [(.int (1 : Int32)), (.int (p5 &&& (3 : Int32)))]))
    by_cases hc44 : (p5 &&& (3 : Int32)) = (1 : Int32)
    · skip
      refine Go.st (fun _ => XS.icmpNo X0.here hx rfl (hb hby at_22) rfl (teq hc44).2) ?_
      show Go p.tables e below P (s₁.setTop (mkF m 25 #[.val (.int p0), .val (.int p1), .val (.int p2), .val (.int p3), .val (.int p4), .val (.int p5), .val (.int (p5 &&& (3 : Int32))), .unset, .unset, .unset, .unset, .unset, .unset] []))
      obtain ⟨T45, X45, e45, st45⟩ := getS2 X0 hx hZ hown (host := "") (Or.inl (hw _ (List.mem_of_getElem? (i := 98) rfl))) Via.refl e0 (S_B.ext X00.2) (g := (mkF m 25 #[.val (.int p0), .val (.int p1), .val (.int p2), .val (.int p3), .val (.int p4), .val (.int p5), .val (.int (p5 &&& (3 : Int32))), .unset, .unset, .unset, .unset, .unset, .unset] [])) rfl (hb hby at_25)
      refine Go.st st45 ?_
      show Go p.tables e below P (T45.setTop (mkF m 28 #[.val (.int p0), .val (.int p1), .val (.int p2), .val (.int p3), .val (.int p4), .val (.int p5), .val (.int (p5 &&& (3 : Int32))), .unset, .unset, .unset, .unset, .unset, .unset] [(.ref w_B)]))
      refine Go.st (fun _ => XS.astore X45.here hx rfl (hb hby at_28) rfl rfl (l' := #[.val (.int p0), .val (.int p1), .val (.int p2), .val (.int p3), .val (.int p4), .val (.int p5), .val (.int (p5 &&& (3 : Int32))), .val (.ref w_B), .unset, .unset, .unset, .unset, .unset]) rfl) ?_
      show Go p.tables e below P (T45.setTop (mkF m 30 #[.val (.int p0), .val (.int p1), .val (.int p2), .val (.int p3), .val (.int p4), .val (.int p5), .val (.int (p5 &&& (3 : Int32))), .val (.ref w_B), .unset, .unset, .unset, .unset, .unset] []))
      refine Go.st (fun _ => XS.goto X45.here hx rfl (pc0 := 30) (pc' := 52) rfl (hb hby at_30) (by decide) (by decide)) ?_
      show Go p.tables e below P (T45.setTop (mkF m 52 #[.val (.int p0), .val (.int p1), .val (.int p2), .val (.int p3), .val (.int p4), .val (.int p5), .val (.int (p5 &&& (3 : Int32))), .val (.ref w_B), .unset, .unset, .unset, .unset, .unset] []))
      exact J1 T45 _ (X45.more (by decide) (by decide)) e45 N0 w_B  
    · skip
      refine Go.st (fun _ => XS.icmpYes X0.here hx rfl (pc0 := 22) (pc' := 33) rfl (hb hby at_22) rfl (feq hc44).2 (by decide) (by decide)) ?_
      show Go p.tables e below P (s₁.setTop (mkF m 33 #[.val (.int p0), .val (.int p1), .val (.int p2), .val (.int p3), .val (.int p4), .val (.int p5), .val (.int (p5 &&& (3 : Int32))), .unset, .unset, .unset, .unset, .unset, .unset] []))
      refine Go.st (fun _ => XS.iload X0.here hx rfl (hb hby at_33) rfl) ?_
      show Go p.tables e below P (s₁.setTop (mkF m 35 #[.val (.int p0), .val (.int p1), .val (.int p2), .val (.int p3), .val (.int p4), .val (.int p5), .val (.int (p5 &&& (3 : Int32))), .unset, .unset, .unset, .unset, .unset, .unset] [(.int (p5 &&& (3 : Int32)))]))
      refine Go.st (fun _ => XS.iconst X0.here hx rfl (hb hby at_35)) ?_
      show Go p.tables e below P (s₁.setTop (mkF m 36 #[.val (.int p0), .val (.int p1), .val (.int p2), .val (.int p3), .val (.int p4), .val (.int p5), .val (.int (p5 &&& (3 : Int32))), .unset, .unset, .unset, .unset, .unset, .unset] [(.int (2 : Int32)), (.int (p5 &&& (3 : Int32)))]))
      by_cases hc46 : (p5 &&& (3 : Int32)) = (2 : Int32)
      · skip
        refine Go.st (fun _ => XS.icmpNo X0.here hx rfl (hb hby at_36) rfl (teq hc46).2) ?_
        show Go p.tables e below P (s₁.setTop (mkF m 39 #[.val (.int p0), .val (.int p1), .val (.int p2), .val (.int p3), .val (.int p4), .val (.int p5), .val (.int (p5 &&& (3 : Int32))), .unset, .unset, .unset, .unset, .unset, .unset] []))
        obtain ⟨T47, X47, e47, st47⟩ := getS2 X0 hx hZ hown (host := "") (Or.inl (hw _ (List.mem_of_getElem? (i := 96) rfl))) Via.refl e0 (S_C.ext X00.2) (g := (mkF m 39 #[.val (.int p0), .val (.int p1), .val (.int p2), .val (.int p3), .val (.int p4), .val (.int p5), .val (.int (p5 &&& (3 : Int32))), .unset, .unset, .unset, .unset, .unset, .unset] [])) rfl (hb hby at_39)
        refine Go.st st47 ?_
        show Go p.tables e below P (T47.setTop (mkF m 42 #[.val (.int p0), .val (.int p1), .val (.int p2), .val (.int p3), .val (.int p4), .val (.int p5), .val (.int (p5 &&& (3 : Int32))), .unset, .unset, .unset, .unset, .unset, .unset] [(.ref w_C)]))
        refine Go.st (fun _ => XS.astore X47.here hx rfl (hb hby at_42) rfl rfl (l' := #[.val (.int p0), .val (.int p1), .val (.int p2), .val (.int p3), .val (.int p4), .val (.int p5), .val (.int (p5 &&& (3 : Int32))), .val (.ref w_C), .unset, .unset, .unset, .unset, .unset]) rfl) ?_
        show Go p.tables e below P (T47.setTop (mkF m 44 #[.val (.int p0), .val (.int p1), .val (.int p2), .val (.int p3), .val (.int p4), .val (.int p5), .val (.int (p5 &&& (3 : Int32))), .val (.ref w_C), .unset, .unset, .unset, .unset, .unset] []))
        refine Go.st (fun _ => XS.goto X47.here hx rfl (pc0 := 44) (pc' := 52) rfl (hb hby at_44) (by decide) (by decide)) ?_
        show Go p.tables e below P (T47.setTop (mkF m 52 #[.val (.int p0), .val (.int p1), .val (.int p2), .val (.int p3), .val (.int p4), .val (.int p5), .val (.int (p5 &&& (3 : Int32))), .val (.ref w_C), .unset, .unset, .unset, .unset, .unset] []))
        exact J1 T47 _ (X47.more (by decide) (by decide)) e47 N0 w_C  
      · skip
        refine Go.st (fun _ => XS.icmpYes X0.here hx rfl (pc0 := 36) (pc' := 47) rfl (hb hby at_36) rfl (feq hc46).2 (by decide) (by decide)) ?_
        show Go p.tables e below P (s₁.setTop (mkF m 47 #[.val (.int p0), .val (.int p1), .val (.int p2), .val (.int p3), .val (.int p4), .val (.int p5), .val (.int (p5 &&& (3 : Int32))), .unset, .unset, .unset, .unset, .unset, .unset] []))
        obtain ⟨T48, X48, e48, st48⟩ := getS2 X0 hx hZ hown (host := "") (Or.inl (hw _ (List.mem_of_getElem? (i := 0) rfl))) Via.refl e0 (S_D.ext X00.2) (g := (mkF m 47 #[.val (.int p0), .val (.int p1), .val (.int p2), .val (.int p3), .val (.int p4), .val (.int p5), .val (.int (p5 &&& (3 : Int32))), .unset, .unset, .unset, .unset, .unset, .unset] [])) rfl (hb hby at_47)
        refine Go.st st48 ?_
        show Go p.tables e below P (T48.setTop (mkF m 50 #[.val (.int p0), .val (.int p1), .val (.int p2), .val (.int p3), .val (.int p4), .val (.int p5), .val (.int (p5 &&& (3 : Int32))), .unset, .unset, .unset, .unset, .unset, .unset] [(.ref w_D)]))
        refine Go.st (fun _ => XS.astore X48.here hx rfl (hb hby at_50) rfl rfl (l' := #[.val (.int p0), .val (.int p1), .val (.int p2), .val (.int p3), .val (.int p4), .val (.int p5), .val (.int (p5 &&& (3 : Int32))), .val (.ref w_D), .unset, .unset, .unset, .unset, .unset]) rfl) ?_
        show Go p.tables e below P (T48.setTop (mkF m 52 #[.val (.int p0), .val (.int p1), .val (.int p2), .val (.int p3), .val (.int p4), .val (.int p5), .val (.int (p5 &&& (3 : Int32))), .val (.ref w_D), .unset, .unset, .unset, .unset, .unset] []))
        exact J1 T48 _ (X48.more (by decide) (by decide)) e48 N0 w_D  
set_option maxRecDepth 65536 in
set_option maxHeartbeats 40000000 in
theorem comes_1 {Post : Tables → Env → Array Value → State → Outcome → State → Prop} (hpost : ∀ tb e args s v u, (limb_1_1.after args s (.returned v) u = true ∧ limb_1_2.after args s (.returned v) u = true ∧ True) → ReturnedEndW s (.returned v) u (Jvm.fieldLocs frame_1_writes args s ++ Jvm.arrayLocs frame_1_arrays args s ++ Jvm.staticLocs frame_1_statics s) 40 2240 → Post tb e args s (.returned v) u) :
    ArmFor flags0 classFile x code maxLocals ret World_1 tables_1 room_1 Calls_1 rest_1 Pre_1 Post := by
  intro l hfl _ _ p e ha hc hk s m args below hf hA hF happ hP
  obtain ⟨hcalls, hrest, hpre⟩ := hP
  obtain ⟨-, -, -, hnamed, -, -, -, hat⟩ := (Spec.applies_iff hf).mp happ
  obtain ⟨hg, hn⟩ := and_e (Cond.before_iff.mp (show (Jvm.Cond.and given_1 narrow_1).before args s = true from hpre))
  obtain ⟨hc_1, hc_2⟩ := and_e hg
  obtain ⟨hc_3, hc_4⟩ := and_e hc_2
  obtain ⟨hc_5, hc_6⟩ := and_e hc_4
  obtain ⟨hc_7, hc_8⟩ := and_e hc_6
  obtain ⟨hc_9, hc_10⟩ := and_e hc_8
  obtain ⟨hc_11, hc_12⟩ := and_e hc_10
  obtain ⟨w0, w1, w2, w3, w4, w5, rfl⟩ : ∃ w0 w1 w2 w3 w4 w5 : Value, args = #[w0, w1, w2, w3, w4, w5] := by
    have hs : args.size = 6 := by simpa [Cond.value, given_1] using hc_1
    obtain ⟨L⟩ := args
    match L, hs with
    | [w0, w1, w2, w3, w4, w5], _ => exact ⟨w0, w1, w2, w3, w4, w5, rfl⟩
  have hw := fun d (hd : d ∈ tables_1) => atoms_spec (ws := Jvm.Cond.code x code maxLocals ret :: tables_1) hat d (List.mem_cons_of_mem _ hd)
  have hfit : Fit s := fun {y c} hc i hi => by
    obtain ⟨ha, rfl⟩ := Array.getElem?_eq_some_iff.mp hc
    have q := List.all_eq_true.mp ((Array.all_eq_true_iff_forall_mem.mp hF) _ (Array.getElem_mem ha)) i (List.mem_range.mpr hi)
    simpa [Array.getElem?_eq_getElem hi] using q
  obtain ⟨hsets, hown0⟩ := atoms_of _ (rest_1_c_eq ▸ (show rest_1_c.before _ s = true from hrest))
  have nCS := not_v (Cond.before_iff.mp (hsets _ (List.mem_of_getElem? (i := 2) rfl)))
  obtain ⟨g_CS, eCS⟩ := is_v (Cond.before_iff.mp (hsets _ (List.mem_of_getElem? (i := 1) rfl)))
  have S_CS := Sta.start eCS (Or.inl (hsets _ (List.mem_of_getElem? (i := 0) rfl)))
  have nz_CS : ¬ (g_CS = (0 : Int32)) := gotF (Cond.eq_ints eCS (Term.int_eval (0))) nCS
  obtain ⟨i0, ea0⟩ := is_v hc_3
  obtain rfl : w0 = (.int i0) := Option.some.inj ea0
  obtain ⟨i1, ea1⟩ := is_v hc_5
  obtain rfl : w1 = (.int i1) := Option.some.inj ea1
  obtain ⟨i2, ea2⟩ := is_v hc_7
  obtain rfl : w2 = (.int i2) := Option.some.inj ea2
  obtain ⟨i3, ea3⟩ := is_v hc_9
  obtain rfl : w3 = (.int i3) := Option.some.inj ea3
  obtain ⟨i4, ea4⟩ := is_v hc_11
  obtain rfl : w4 = (.int i4) := Option.some.inj ea4
  obtain ⟨i5, ea5⟩ := is_v hc_12
  obtain rfl : w5 = (.int i5) := Option.some.inj ea5
  obtain ⟨hc_13, hc_14⟩ := and_e hn
  obtain ⟨hc_15, hc_16⟩ := and_e hc_14
  obtain ⟨hc_17, hc_18⟩ := and_e hc_16
  obtain ⟨w_D, ev_D⟩ := exa_v hc_13
  have S_D := Sta.start ev_D (Or.inr ⟨(hw _ (List.mem_of_getElem? (i := 1) rfl)), (hw _ (List.mem_of_getElem? (i := 2) rfl))⟩)
  have X_D := Exa.start ev_D hc_13
  obtain ⟨w_C, ev_C⟩ := exa_v hc_15
  have S_C := Sta.start ev_C (Or.inr ⟨(hw _ (List.mem_of_getElem? (i := 1) rfl)), (hw _ (List.mem_of_getElem? (i := 97) rfl))⟩)
  have X_C := Exa.start ev_C hc_15
  obtain ⟨w_B, ev_B⟩ := exa_v hc_17
  have S_B := Sta.start ev_B (Or.inr ⟨(hw _ (List.mem_of_getElem? (i := 1) rfl)), (hw _ (List.mem_of_getElem? (i := 99) rfl))⟩)
  have X_B := Exa.start ev_B hc_17
  obtain ⟨w_A, ev_A⟩ := exa_v hc_18
  have S_A := Sta.start ev_A (Or.inr ⟨(hw _ (List.mem_of_getElem? (i := 1) rfl)), (hw _ (List.mem_of_getElem? (i := 101) rfl))⟩)
  have X_A := Exa.start ev_A hc_18
  obtain ⟨n, o, h1, h2, h3, _, L, rfl, ⟨rfl, N, _⟩, -, hq⟩ := rm_law l s _ hw tables_1 w_A S_A X_A w_B S_B X_B w_C S_C X_C w_D S_D X_D g_CS S_CS nz_CS i0 i1 i2 i3 i4 i5 s.heap s.heap.size (Old.start s) p e ha hc hk s m _ below hf ((Spec.applies_iff_loose hf).mp happ).1 ⟨rfl, State.Warmed39.refl s, rfl, (CHv.start (own_EW s _ hw) (fun p hp => hcalls.1 p hp) (hsets _ (List.mem_of_getElem? (i := 2) rfl)) (hw _ (List.mem_of_getElem? (i := 22) rfl)) (hw _ (List.mem_of_getElem? (i := 8) rfl)))⟩ trivial
  refine ⟨n, _, h1, h2, h3, hpost _ _ _ _ _ _ ⟨Cond.after_iff.mpr rfl, Cond.after_iff.mpr (eq_i res_at (Term.int_eval (1)) rfl), trivial⟩ ⟨hq.1, hq.2.1, hq.2.2.1, (hq.2.2.2.sift fun y hy => Or.inr (N y hy)).mono (by decide) (by decide)⟩⟩
theorem main_1_1 : Claimed_1_1 := comes_1 fun _ _ _ _ _ _ h hF => ⟨h.1, hF⟩
theorem main_1_2 : Claimed_1_2 := comes_1 fun _ _ _ _ _ _ h hF => ⟨h.2.1, hF⟩
end Jvm.Pilot.@@N@@
namespace Jvm.Pilot.@@N@@
open Jvm Jvm.ClassFile Sem Op Lib Jvm.Free Jvm.Stand Jvm.Pilot.@@N@@.Jvm.D
/-! MADE BY PROGRAM (witnessworld.py) out of the Statement's table words and the real class files: 22 classes; the members and pool entries that the words name. The judged class is class 1, her method 1. -/
namespace start1
open Jvm.ClassFile
def u (s : String) : CpInfo := .utf8 (stringToUtf16 s)
/-- a pool by its gaps: so many unusable entries, then the entry; so many at the end -/
def gap : Nat → List CpInfo → List CpInfo
  | 0, r => r
  | n + 1, r => .unusable :: gap n r
def poolList (es : List (Nat × CpInfo)) (last : Nat) : List CpInfo := es.foldr (fun e r => gap e.1 (e.2 :: r)) (gap last [])
def pool (es : List (Nat × CpInfo)) (last : Nat) : Array CpInfo := ⟨poolList es last⟩
def fileOf (pool : Array CpInfo) (this : Nat) (attrs : Array Attribute := #[]) (ms : Array MethodInfo := #[]) (fl : Nat := 33) (sup : Nat := 0) (ifs : Array Nat := #[]) (fds : Array FieldInfo := #[]) : ClassFile where
  minorVersion := 0
  majorVersion := 65
  constantPool := pool
  accessFlags := fl
  thisClass := this
  superClass := sup
  interfaces := ifs
  fields := fds
  methods := ms
  attributes := attrs
def plain (name : String) (sup : Option ClassId) : Class where
  name := name
  kind := .ordinary
  loader := none
  accessFlags := 33
  super := sup
  interfaces := #[]
  cf := none
  fields := #[]
  methods := #[]
  instanceTypes := #[]
  staticTypes := #[]
  resolved := #[]
  callSites := []
  init := .initialized
  statics := none
  mirror := none

def pool0 : Array CpInfo := pool [(5, u "<init>"), (0, u "()V"), (1, .class_ 10), (1, u "java/lang/Object")] 113

def k0c0 : Code := { maxStack := 0, maxLocals := 1, code := object_method_1_code, exceptionTable := #[], attributes := #[] }
def k0m0 : Method := { name := "<init>", desc := "()V", sig := { parameters := [], returnType := none }, accessFlags := 1, code := some k0c0 }
/-- java/lang/Object -/
def k0 : Class := { plain "java/lang/Object" none with
  accessFlags := 33
  interfaces := #[]
  cf := some (fileOf pool0 8 #[] #[{ accessFlags := 1, nameIndex := 5, descriptorIndex := 6, attributes := #[] }] 33 0 #[] #[])
  fields := #[]
  methods := #[k0m0]
  instanceTypes := #[]
  staticTypes := #[]
  resolved := Array.replicate 124 none
  statics := none }

def pool1 : Array CpInfo := pool [(2, .class_ 4), (1, u "java/lang/Object"), (0, u "<init>"), (0, u "()V"), (0, .fieldref 8 9), (0, .class_ 10), (0, .nameAndType 11 12), (0, u "com/example/crisp_fixture/crispfixture/dialect/Dialect$Content"), (0, u "BY_CODE"), (0, u "Lcom/example/crisp_fixture/crispfixture/dialect/Dialect$Content;"), (0, .fieldref 8 14), (0, .nameAndType 15 12), (0, u "JSON_MEMBERS_IN_ORDER"), (0, .fieldref 8 17), (0, .nameAndType 18 12), (0, u "JSON_MEMBERS_BY_NAME"), (0, .fieldref 8 20), (0, .nameAndType 21 12), (0, u "UUID"), (0, .methodref 23 24), (0, .class_ 25), (0, .nameAndType 26 27), (0, u "com/example/crisp_fixture/crispfixture/dialect/ColumnTypeWithBaseNamePinLaw"), (0, u "str"), (0, u "(I)Ljava/lang/String;"), (0, .class_ 29), (0, u "com/example/crisp_fixture/crispfixture/dialect/Dialect$ColumnType"), (0, .methodref 28 31), (0, .nameAndType 5 32), (0, u "(ILjava/lang/String;ILjava/lang/String;Lcom/example/crisp_fixture/crispfixture/dialect/Dialect$Content;)V"), (0, .methodref 28 34), (0, .nameAndType 35 36), (0, u "withBaseName"), (0, u "(Ljava/lang/String;)Lcom/example/crisp_fixture/crispfixture/dialect/Dialect$ColumnType;"), (0, .methodref 28 38), (0, .nameAndType 39 40), (0, u "code"), (0, u "()I"), (0, .methodref 28 42), (0, .nameAndType 43 44), (0, u "name"), (0, u "()Ljava/lang/String;"), (0, .methodref 23 46), (0, .nameAndType 47 48), (0, u "same"), (0, u "(Ljava/lang/String;Ljava/lang/String;)Z"), (0, .methodref 28 50), (0, .nameAndType 51 40), (0, u "size"), (0, .methodref 28 53), (0, .nameAndType 54 44), (0, u "baseName"), (0, .methodref 28 56), (0, .nameAndType 57 58), (0, u "content"), (0, u "()Lcom/example/crisp_fixture/crispfixture/dialect/Dialect$Content;"), (0, .methodref 60 61), (0, .class_ 62), (0, .nameAndType 63 64), (0, u "java/lang/String"), (0, u "equals"), (0, u "(Ljava/lang/Object;)Z"), (0, .methodref 60 66), (0, .nameAndType 5 67), (0, u "([C)V"), (2, u "law"), (0, u "(IIIIII)Z")] 8

def k1m0 : Method := { name := "<init>", desc := "()V", sig := { parameters := [], returnType := none }, accessFlags := 1, code := none }
def k1c1 : Code := { maxStack := 7, maxLocals := 13, code := code, exceptionTable := #[], attributes := #[] }
def k1m1 : Method := { name := "law", desc := "(IIIIII)Z", sig := { parameters := [.int, .int, .int, .int, .int, .int], returnType := some .boolean }, accessFlags := 9, code := some k1c1 }
def k1c2 : Code := { maxStack := 2, maxLocals := 2, code := method_3_code, exceptionTable := #[], attributes := #[] }
def k1m2 : Method := { name := "same", desc := "(Ljava/lang/String;Ljava/lang/String;)Z", sig := { parameters := [(.object "java/lang/String"), (.object "java/lang/String")], returnType := some .boolean }, accessFlags := 10, code := some k1c2 }
def k1c3 : Code := { maxStack := 3, maxLocals := 6, code := method_4_code, exceptionTable := #[], attributes := #[] }
def k1m3 : Method := { name := "str", desc := "(I)Ljava/lang/String;", sig := { parameters := [.int], returnType := some (.object "java/lang/String") }, accessFlags := 10, code := some k1c3 }
/-- com/example/crisp_fixture/crispfixture/dialect/ColumnTypeWithBaseNamePinLaw -/
def k1 : Class := { plain "com/example/crisp_fixture/crispfixture/dialect/ColumnTypeWithBaseNamePinLaw" (some 0) with
  accessFlags := 49
  interfaces := #[]
  cf := some (fileOf pool1 23 #[] #[{ accessFlags := 1, nameIndex := 5, descriptorIndex := 6, attributes := #[] }, { accessFlags := 9, nameIndex := 70, descriptorIndex := 71, attributes := #[] }, { accessFlags := 10, nameIndex := 47, descriptorIndex := 48, attributes := #[] }, { accessFlags := 10, nameIndex := 26, descriptorIndex := 27, attributes := #[] }] 49 2 #[] #[])
  fields := #[]
  methods := #[k1m0, k1m1, k1m2, k1m3]
  instanceTypes := #[]
  staticTypes := #[]
  resolved := Array.replicate 80 none
  statics := none }

def pool2 : Array CpInfo := pool [(1, .class_ 2), (0, u "java/lang/constant/Constable"), (0, .class_ 4), (0, u "java/lang/Object")] 6

/-- java/lang/constant/Constable -/
def k2 : Class := { plain "java/lang/constant/Constable" (some 0) with
  accessFlags := 1537
  interfaces := #[]
  cf := some (fileOf pool2 1 #[] #[] 1537 3 #[] #[])
  fields := #[]
  methods := #[]
  instanceTypes := #[]
  staticTypes := #[]
  resolved := Array.replicate 11 none
  statics := none }

def pool3 : Array CpInfo := pool [(1, .class_ 2), (0, u "java/lang/Comparable"), (0, .class_ 4), (0, u "java/lang/Object")] 7

/-- java/lang/Comparable -/
def k3 : Class := { plain "java/lang/Comparable" (some 0) with
  accessFlags := 1537
  interfaces := #[]
  cf := some (fileOf pool3 1 #[] #[] 1537 3 #[] #[])
  fields := #[]
  methods := #[]
  instanceTypes := #[]
  staticTypes := #[]
  resolved := Array.replicate 12 none
  statics := none }

def pool4 : Array CpInfo := pool [(1, .class_ 2), (0, u "java/io/Serializable"), (0, .class_ 4), (0, u "java/lang/Object")] 2

/-- java/io/Serializable -/
def k4 : Class := { plain "java/io/Serializable" (some 0) with
  accessFlags := 1537
  interfaces := #[]
  cf := some (fileOf pool4 1 #[] #[] 1537 3 #[] #[])
  fields := #[]
  methods := #[]
  instanceTypes := #[]
  staticTypes := #[]
  resolved := Array.replicate 7 none
  statics := none }

def pool5 : Array CpInfo := pool [(2, .class_ 4), (1, u "java/lang/Enum"), (0, u "name"), (0, u "Ljava/lang/String;"), (2, u "ordinal"), (0, u "I"), (1, .class_ 14), (1, u "java/lang/Object"), (4, u "hash"), (86, .class_ 108), (1, u "java/lang/Enum$EnumDesc"), (2, .class_ 112), (0, u "java/lang/constant/Constable"), (0, .class_ 114), (0, u "java/lang/Comparable"), (0, .class_ 116), (0, u "java/io/Serializable")] 87

/-- java/lang/Enum -/
def k5 : Class := { plain "java/lang/Enum" (some 0) with
  accessFlags := 1057
  interfaces := #[2, 3, 4]
  cf := some (fileOf pool5 2 #[.nestMembers #[106]] #[] 1057 12 #[111, 113, 115] #[{ accessFlags := 18, nameIndex := 5, descriptorIndex := 6, attributes := #[] }, { accessFlags := 18, nameIndex := 9, descriptorIndex := 10, attributes := #[] }, { accessFlags := 2, nameIndex := 19, descriptorIndex := 10, attributes := #[] }])
  fields := #[{ name := "name", type := (.object "java/lang/String"), accessFlags := 18, slot := 0, constantValue := 0 }, { name := "ordinal", type := .int, accessFlags := 18, slot := 1, constantValue := 0 }, { name := "hash", type := .int, accessFlags := 2, slot := 2, constantValue := 0 }]
  methods := #[]
  instanceTypes := #[(.object "java/lang/String"), .int, .int]
  staticTypes := #[]
  resolved := Array.replicate 204 none
  statics := none }

def pool6 : Array CpInfo := pool [(1, .class_ 2), (0, u "com/example/crisp_fixture/crispfixture/dialect/Dialect$Content"), (2, u "BY_CODE"), (0, u "Lcom/example/crisp_fixture/crispfixture/dialect/Dialect$Content;"), (2, u "JSON_MEMBERS_IN_ORDER"), (2, u "JSON_MEMBERS_BY_NAME"), (2, u "UUID"), (2, u "$VALUES"), (0, u "[Lcom/example/crisp_fixture/crispfixture/dialect/Dialect$Content;"), (6, .class_ 28), (1, u "java/lang/Enum"), (30, .class_ 60), (0, u "com/example/crisp_fixture/crispfixture/dialect/Dialect")] 2

/-- com/example/crisp_fixture/crispfixture/dialect/Dialect$Content -/
def k6 : Class := { plain "com/example/crisp_fixture/crispfixture/dialect/Dialect$Content" (some 5) with
  accessFlags := 16433
  interfaces := #[]
  cf := some (fileOf pool6 1 #[.nestHost 59] #[] 16433 26 #[] #[{ accessFlags := 16409, nameIndex := 5, descriptorIndex := 6, attributes := #[] }, { accessFlags := 16409, nameIndex := 9, descriptorIndex := 6, attributes := #[] }, { accessFlags := 16409, nameIndex := 12, descriptorIndex := 6, attributes := #[] }, { accessFlags := 16409, nameIndex := 15, descriptorIndex := 6, attributes := #[] }, { accessFlags := 4122, nameIndex := 18, descriptorIndex := 19, attributes := #[] }])
  fields := #[{ name := "BY_CODE", type := (.object "com/example/crisp_fixture/crispfixture/dialect/Dialect$Content"), accessFlags := 16409, slot := 0, constantValue := 0 }, { name := "JSON_MEMBERS_IN_ORDER", type := (.object "com/example/crisp_fixture/crispfixture/dialect/Dialect$Content"), accessFlags := 16409, slot := 1, constantValue := 0 }, { name := "JSON_MEMBERS_BY_NAME", type := (.object "com/example/crisp_fixture/crispfixture/dialect/Dialect$Content"), accessFlags := 16409, slot := 2, constantValue := 0 }, { name := "UUID", type := (.object "com/example/crisp_fixture/crispfixture/dialect/Dialect$Content"), accessFlags := 16409, slot := 3, constantValue := 0 }, { name := "$VALUES", type := (.array (.object "com/example/crisp_fixture/crispfixture/dialect/Dialect$Content")), accessFlags := 4122, slot := 4, constantValue := 0 }]
  methods := #[]
  instanceTypes := #[(.object "java/lang/String"), .int, .int]
  staticTypes := #[(.object "com/example/crisp_fixture/crispfixture/dialect/Dialect$Content"), (.object "com/example/crisp_fixture/crispfixture/dialect/Dialect$Content"), (.object "com/example/crisp_fixture/crispfixture/dialect/Dialect$Content"), (.object "com/example/crisp_fixture/crispfixture/dialect/Dialect$Content"), (.array (.object "com/example/crisp_fixture/crispfixture/dialect/Dialect$Content"))]
  resolved := Array.replicate 63 none
  statics := some 0 }

def pool7 : Array CpInfo := pool [(2, .class_ 4), (1, u "java/lang/CharSequence"), (42, .class_ 48), (0, u "java/lang/CharSequence$1CodePointIterator"), (10, .class_ 60), (0, u "java/lang/CharSequence$1CharIterator"), (5, .class_ 67), (0, u "java/lang/Object")] 63

/-- java/lang/CharSequence -/
def k7 : Class := { plain "java/lang/CharSequence" (some 0) with
  accessFlags := 1537
  interfaces := #[]
  cf := some (fileOf pool7 2 #[.nestMembers #[47, 59]] #[] 1537 66 #[] #[])
  fields := #[]
  methods := #[]
  instanceTypes := #[]
  staticTypes := #[]
  resolved := Array.replicate 131 none
  statics := none }

def pool8 : Array CpInfo := pool [(1, .class_ 2), (0, u "java/lang/constant/ConstantDesc"), (0, .class_ 4), (0, u "java/lang/Object")] 32

/-- java/lang/constant/ConstantDesc -/
def k8 : Class := { plain "java/lang/constant/ConstantDesc" (some 0) with
  accessFlags := 1537
  interfaces := #[]
  cf := some (fileOf pool8 1 #[] #[] 1537 3 #[] #[])
  fields := #[]
  methods := #[]
  instanceTypes := #[]
  staticTypes := #[]
  resolved := Array.replicate 37 none
  statics := none }

def pool9 : Array CpInfo := pool [(1, .methodref 2 3), (0, .class_ 4), (0, .nameAndType 5 6), (0, u "java/lang/Object"), (0, u "<init>"), (0, u "()V"), (0, .string 8), (0, u ""), (0, .fieldref 10 11), (0, .class_ 12), (0, .nameAndType 13 14), (0, u "java/lang/String"), (0, u "value"), (0, u "[B"), (0, .fieldref 10 16), (0, .nameAndType 17 18), (0, u "coder"), (0, u "B"), (2, u "hash"), (0, u "I"), (2, u "hashIsZero"), (0, u "Z"), (0, .methodref 10 28), (0, .nameAndType 5 29), (0, u "([CIILjava/lang/Void;)V"), (8, .fieldref 10 39), (0, .nameAndType 40 26), (0, u "COMPACT_STRINGS"), (1, .class_ 44), (1, u "java/lang/StringUTF16"), (0, u "compress"), (1, .methodref 42 48), (0, .nameAndType 49 50), (0, u "coderFromArrayLen"), (0, u "([BI)B"), (126, .methodref 42 178), (0, .nameAndType 45 179), (0, u "([CII)[B"), (363, u "equals"), (29, u "(Ljava/lang/Object;)Z"), (1, .class_ 576), (0, u "java/lang/CharSequence"), (22, u "CASE_INSENSITIVE_ORDER"), (0, u "Ljava/util/Comparator;"), (409, u "([C)V"), (90, u "serialPersistentFields"), (0, u "[Ljava/io/ObjectStreamField;"), (0, .class_ 1104), (0, u "java/lang/String$CaseInsensitiveComparator"), (1, .class_ 1107), (0, u "java/io/Serializable"), (0, .class_ 1109), (0, u "java/lang/Comparable"), (0, .class_ 1111), (0, u "java/lang/constant/Constable"), (0, .class_ 1113), (0, u "java/lang/constant/ConstantDesc"), (2, u "serialVersionUID"), (0, u "J"), (3, u "REPL"), (0, u "C"), (2, u "LATIN1"), (1, u "UTF16")] 323

def k9m0 : Method := { name := "<init>", desc := "()V", sig := { parameters := [], returnType := none }, accessFlags := 1, code := none }
def k9c1 : Code := { maxStack := 5, maxLocals := 2, code := jdk_42_method_3_code, exceptionTable := #[], attributes := #[] }
def k9m1 : Method := { name := "<init>", desc := "([C)V", sig := { parameters := [(.array .char)], returnType := none }, accessFlags := 1, code := some k9c1 }
def k9c2 : Code := { maxStack := 2, maxLocals := 3, code := jdk_42_method_66_code, exceptionTable := #[], attributes := #[] }
def k9m2 : Method := { name := "equals", desc := "(Ljava/lang/Object;)Z", sig := { parameters := [(.object "java/lang/Object")], returnType := some .boolean }, accessFlags := 1, code := some k9c2 }
def k9c3 : Code := { maxStack := 4, maxLocals := 6, code := jdk_42_method_149_code, exceptionTable := #[], attributes := #[] }
def k9m3 : Method := { name := "<init>", desc := "([CIILjava/lang/Void;)V", sig := { parameters := [(.array .char), .int, .int, (.object "java/lang/Void")], returnType := none }, accessFlags := 2, code := some k9c3 }
/-- java/lang/String -/
def k9 : Class := { plain "java/lang/String" (some 0) with
  accessFlags := 49
  interfaces := #[4, 3, 7, 2, 8]
  cf := some (fileOf pool9 10 #[.nestMembers #[1103]] #[{ accessFlags := 1, nameIndex := 5, descriptorIndex := 6, attributes := #[] }, { accessFlags := 1, nameIndex := 5, descriptorIndex := 1010, attributes := #[] }, { accessFlags := 1, nameIndex := 543, descriptorIndex := 573, attributes := #[] }, { accessFlags := 2, nameIndex := 5, descriptorIndex := 29, attributes := #[] }] 49 2 #[1106, 1108, 575, 1110, 1112] #[{ accessFlags := 18, nameIndex := 13, descriptorIndex := 14, attributes := #[] }, { accessFlags := 18, nameIndex := 17, descriptorIndex := 18, attributes := #[] }, { accessFlags := 2, nameIndex := 21, descriptorIndex := 22, attributes := #[] }, { accessFlags := 2, nameIndex := 25, descriptorIndex := 26, attributes := #[] }, { accessFlags := 26, nameIndex := 1116, descriptorIndex := 1117, attributes := #[] }, { accessFlags := 24, nameIndex := 40, descriptorIndex := 26, attributes := #[] }, { accessFlags := 26, nameIndex := 1101, descriptorIndex := 1102, attributes := #[] }, { accessFlags := 26, nameIndex := 1121, descriptorIndex := 1122, attributes := #[] }, { accessFlags := 25, nameIndex := 599, descriptorIndex := 600, attributes := #[] }, { accessFlags := 24, nameIndex := 1125, descriptorIndex := 18, attributes := #[] }, { accessFlags := 24, nameIndex := 1127, descriptorIndex := 18, attributes := #[] }])
  fields := #[{ name := "value", type := (.array .byte), accessFlags := 18, slot := 0, constantValue := 0 }, { name := "coder", type := .byte, accessFlags := 18, slot := 1, constantValue := 0 }, { name := "hash", type := .int, accessFlags := 2, slot := 2, constantValue := 0 }, { name := "hashIsZero", type := .boolean, accessFlags := 2, slot := 3, constantValue := 0 }, { name := "serialVersionUID", type := .long, accessFlags := 26, slot := 0, constantValue := 0 }, { name := "COMPACT_STRINGS", type := .boolean, accessFlags := 24, slot := 1, constantValue := 0 }, { name := "serialPersistentFields", type := (.array (.object "java/io/ObjectStreamField")), accessFlags := 26, slot := 2, constantValue := 0 }, { name := "REPL", type := .char, accessFlags := 26, slot := 3, constantValue := 0 }, { name := "CASE_INSENSITIVE_ORDER", type := (.object "java/util/Comparator"), accessFlags := 25, slot := 4, constantValue := 0 }, { name := "LATIN1", type := .byte, accessFlags := 24, slot := 5, constantValue := 0 }, { name := "UTF16", type := .byte, accessFlags := 24, slot := 6, constantValue := 0 }]
  methods := #[k9m0, k9m1, k9m2, k9m3]
  instanceTypes := #[(.array .byte), .byte, .int, .boolean]
  staticTypes := #[.long, .boolean, (.array (.object "java/io/ObjectStreamField")), .char, (.object "java/util/Comparator"), .byte, .byte]
  resolved := Array.replicate 1451 none
  statics := some 1 }

def pool10 : Array CpInfo := pool [(1, .methodref 2 3), (0, .class_ 4), (0, .nameAndType 5 6), (0, u "java/lang/Object"), (0, u "<init>"), (0, u "()V"), (0, .class_ 8), (0, u "java/lang/Record")] 13

def k10c0 : Code := { maxStack := 1, maxLocals := 1, code := jdk_30_method_1_code, exceptionTable := #[], attributes := #[] }
def k10m0 : Method := { name := "<init>", desc := "()V", sig := { parameters := [], returnType := none }, accessFlags := 4, code := some k10c0 }
/-- java/lang/Record -/
def k10 : Class := { plain "java/lang/Record" (some 0) with
  accessFlags := 1057
  interfaces := #[]
  cf := some (fileOf pool10 7 #[] #[{ accessFlags := 4, nameIndex := 5, descriptorIndex := 6, attributes := #[] }] 1057 2 #[] #[])
  fields := #[]
  methods := #[k10m0]
  instanceTypes := #[]
  staticTypes := #[]
  resolved := Array.replicate 22 none
  statics := none }

def pool11 : Array CpInfo := pool [(1, .methodref 2 3), (0, .class_ 4), (0, .nameAndType 5 6), (0, u "java/lang/Record"), (0, u "<init>"), (0, u "()V"), (0, .string 8), (0, u "content"), (0, .methodref 10 11), (0, .class_ 12), (0, .nameAndType 13 14), (0, u "java/util/Objects"), (0, u "requireNonNull"), (0, u "(Ljava/lang/Object;Ljava/lang/String;)Ljava/lang/Object;"), (0, .fieldref 16 17), (0, .class_ 18), (0, .nameAndType 19 20), (0, u "com/example/crisp_fixture/crispfixture/dialect/Dialect$ColumnType"), (0, u "code"), (0, u "I"), (0, .fieldref 16 22), (0, .nameAndType 23 24), (0, u "name"), (0, u "Ljava/lang/String;"), (0, .fieldref 16 26), (0, .nameAndType 27 20), (0, u "size"), (0, .fieldref 16 29), (0, .nameAndType 30 24), (0, u "baseName"), (0, .fieldref 16 32), (0, .nameAndType 8 33), (0, u "Lcom/example/crisp_fixture/crispfixture/dialect/Dialect$Content;"), (5, .methodref 16 40), (0, .nameAndType 5 41), (0, u "(ILjava/lang/String;ILjava/lang/String;Lcom/example/crisp_fixture/crispfixture/dialect/Dialect$Content;)V"), (18, u "withBaseName"), (0, u "(Ljava/lang/String;)Lcom/example/crisp_fixture/crispfixture/dialect/Dialect$ColumnType;"), (2, u "()Ljava/lang/String;"), (0, u "()I"), (1, u "()Lcom/example/crisp_fixture/crispfixture/dialect/Dialect$Content;"), (3, .class_ 72), (0, u "com/example/crisp_fixture/crispfixture/dialect/Dialect")] 24

def k11c0 : Code := { maxStack := 2, maxLocals := 6, code := prog_51_method_1_code, exceptionTable := #[], attributes := #[] }
def k11m0 : Method := { name := "<init>", desc := "(ILjava/lang/String;ILjava/lang/String;Lcom/example/crisp_fixture/crispfixture/dialect/Dialect$Content;)V", sig := { parameters := [.int, (.object "java/lang/String"), .int, (.object "java/lang/String"), (.object "com/example/crisp_fixture/crispfixture/dialect/Dialect$Content")], returnType := none }, accessFlags := 1, code := some k11c0 }
def k11c1 : Code := { maxStack := 7, maxLocals := 2, code := prog_51_method_4_code, exceptionTable := #[], attributes := #[] }
def k11m1 : Method := { name := "withBaseName", desc := "(Ljava/lang/String;)Lcom/example/crisp_fixture/crispfixture/dialect/Dialect$ColumnType;", sig := { parameters := [(.object "java/lang/String")], returnType := some (.object "com/example/crisp_fixture/crispfixture/dialect/Dialect$ColumnType") }, accessFlags := 1, code := some k11c1 }
def k11c2 : Code := { maxStack := 1, maxLocals := 1, code := prog_51_method_9_code, exceptionTable := #[], attributes := #[] }
def k11m2 : Method := { name := "code", desc := "()I", sig := { parameters := [], returnType := some .int }, accessFlags := 1, code := some k11c2 }
def k11c3 : Code := { maxStack := 1, maxLocals := 1, code := prog_51_method_10_code, exceptionTable := #[], attributes := #[] }
def k11m3 : Method := { name := "name", desc := "()Ljava/lang/String;", sig := { parameters := [], returnType := some (.object "java/lang/String") }, accessFlags := 1, code := some k11c3 }
def k11c4 : Code := { maxStack := 1, maxLocals := 1, code := prog_51_method_11_code, exceptionTable := #[], attributes := #[] }
def k11m4 : Method := { name := "size", desc := "()I", sig := { parameters := [], returnType := some .int }, accessFlags := 1, code := some k11c4 }
def k11c5 : Code := { maxStack := 1, maxLocals := 1, code := prog_51_method_12_code, exceptionTable := #[], attributes := #[] }
def k11m5 : Method := { name := "baseName", desc := "()Ljava/lang/String;", sig := { parameters := [], returnType := some (.object "java/lang/String") }, accessFlags := 1, code := some k11c5 }
def k11c6 : Code := { maxStack := 1, maxLocals := 1, code := prog_51_method_13_code, exceptionTable := #[], attributes := #[] }
def k11m6 : Method := { name := "content", desc := "()Lcom/example/crisp_fixture/crispfixture/dialect/Dialect$Content;", sig := { parameters := [], returnType := some (.object "com/example/crisp_fixture/crispfixture/dialect/Dialect$Content") }, accessFlags := 1, code := some k11c6 }
/-- com/example/crisp_fixture/crispfixture/dialect/Dialect$ColumnType -/
def k11 : Class := { plain "com/example/crisp_fixture/crispfixture/dialect/Dialect$ColumnType" (some 10) with
  accessFlags := 49
  interfaces := #[]
  cf := some (fileOf pool11 16 #[.nestHost 71] #[{ accessFlags := 1, nameIndex := 5, descriptorIndex := 41, attributes := #[] }, { accessFlags := 1, nameIndex := 60, descriptorIndex := 61, attributes := #[] }, { accessFlags := 1, nameIndex := 19, descriptorIndex := 65, attributes := #[] }, { accessFlags := 1, nameIndex := 23, descriptorIndex := 64, attributes := #[] }, { accessFlags := 1, nameIndex := 27, descriptorIndex := 65, attributes := #[] }, { accessFlags := 1, nameIndex := 30, descriptorIndex := 64, attributes := #[] }, { accessFlags := 1, nameIndex := 8, descriptorIndex := 67, attributes := #[] }] 49 2 #[] #[{ accessFlags := 18, nameIndex := 19, descriptorIndex := 20, attributes := #[] }, { accessFlags := 18, nameIndex := 23, descriptorIndex := 24, attributes := #[] }, { accessFlags := 18, nameIndex := 27, descriptorIndex := 20, attributes := #[] }, { accessFlags := 18, nameIndex := 30, descriptorIndex := 24, attributes := #[] }, { accessFlags := 18, nameIndex := 8, descriptorIndex := 33, attributes := #[] }])
  fields := #[{ name := "code", type := .int, accessFlags := 18, slot := 0, constantValue := 0 }, { name := "name", type := (.object "java/lang/String"), accessFlags := 18, slot := 1, constantValue := 0 }, { name := "size", type := .int, accessFlags := 18, slot := 2, constantValue := 0 }, { name := "baseName", type := (.object "java/lang/String"), accessFlags := 18, slot := 3, constantValue := 0 }, { name := "content", type := (.object "com/example/crisp_fixture/crispfixture/dialect/Dialect$Content"), accessFlags := 18, slot := 4, constantValue := 0 }]
  methods := #[k11m0, k11m1, k11m2, k11m3, k11m4, k11m5, k11m6]
  instanceTypes := #[.int, (.object "java/lang/String"), .int, (.object "java/lang/String"), (.object "com/example/crisp_fixture/crispfixture/dialect/Dialect$Content")]
  staticTypes := #[]
  resolved := Array.replicate 97 none
  statics := none }

def pool12 : Array CpInfo := pool [(2, .class_ 4), (1, u "java/lang/Object"), (0, u "<init>"), (0, u "()V"), (35, .class_ 44), (1, u "java/util/Objects"), (0, u "requireNonNull"), (48, u "(Ljava/lang/Object;Ljava/lang/String;)Ljava/lang/Object;")] 89

def k12m0 : Method := { name := "<init>", desc := "()V", sig := { parameters := [], returnType := none }, accessFlags := 2, code := none }
def k12c1 : Code := { maxStack := 3, maxLocals := 2, code := jdk_31_method_11_code, exceptionTable := #[], attributes := #[] }
def k12m1 : Method := { name := "requireNonNull", desc := "(Ljava/lang/Object;Ljava/lang/String;)Ljava/lang/Object;", sig := { parameters := [(.object "java/lang/Object"), (.object "java/lang/String")], returnType := some (.object "java/lang/Object") }, accessFlags := 9, code := some k12c1 }
/-- java/util/Objects -/
def k12 : Class := { plain "java/util/Objects" (some 0) with
  accessFlags := 49
  interfaces := #[]
  cf := some (fileOf pool12 42 #[] #[{ accessFlags := 2, nameIndex := 5, descriptorIndex := 6, attributes := #[] }, { accessFlags := 9, nameIndex := 45, descriptorIndex := 94, attributes := #[] }] 49 2 #[] #[])
  fields := #[]
  methods := #[k12m0, k12m1]
  instanceTypes := #[]
  staticTypes := #[]
  resolved := Array.replicate 184 none
  statics := none }

def pool13 : Array CpInfo := pool [(6, .class_ 8), (1, u "java/lang/Object"), (0, u "<init>"), (0, u "()V"), (1, .class_ 14), (1, u "java/lang/StringUTF16"), (31, u "$assertionsDisabled"), (0, u "Z"), (13, u "HI_BYTE_SHIFT"), (0, u "I"), (2, u "LO_BYTE_SHIFT"), (49, .methodref 12 116), (0, .nameAndType 117 118), (0, u "compress"), (0, u "([CI[BII)I"), (3, u "([CII)[B"), (138, u "coderFromArrayLen"), (0, u "([BI)B"), (106, .class_ 371), (1, u "java/lang/StringUTF16$LinesSpliterator"), (58, u "MAX_LENGTH"), (196, .class_ 628), (0, u "java/lang/StringUTF16$CodePointsSpliterator"), (0, .class_ 630), (0, u "java/lang/StringUTF16$CharsSpliterator")] 4

def k13m0 : Method := { name := "<init>", desc := "()V", sig := { parameters := [], returnType := none }, accessFlags := 0, code := none }
def k13c1 : Code := { maxStack := 2, maxLocals := 2, code := jdk_52_method_15_code, exceptionTable := #[], attributes := #[] }
def k13m1 : Method := { name := "coderFromArrayLen", desc := "([BI)B", sig := { parameters := [(.array .byte), .int], returnType := some .byte }, accessFlags := 8, code := some k13c1 }
def k13c2 : Code := { maxStack := 5, maxLocals := 6, code := jdk_52_method_16_code, exceptionTable := #[], attributes := #[] }
def k13m2 : Method := { name := "compress", desc := "([CII)[B", sig := { parameters := [(.array .char), .int, .int], returnType := some (.array .byte) }, accessFlags := 9, code := some k13c2 }
def k13c3 : Code := { maxStack := 3, maxLocals := 7, code := jdk_52_method_21_code, exceptionTable := #[], attributes := #[] }
def k13m3 : Method := { name := "compress", desc := "([CI[BII)I", sig := { parameters := [(.array .char), .int, (.array .byte), .int, .int], returnType := some .int }, accessFlags := 9, code := some k13c3 }
/-- java/lang/StringUTF16 -/
def k13 : Class := { plain "java/lang/StringUTF16" (some 0) with
  accessFlags := 48
  interfaces := #[]
  cf := some (fileOf pool13 12 #[.nestMembers #[627, 629, 369]] #[{ accessFlags := 0, nameIndex := 9, descriptorIndex := 10, attributes := #[] }, { accessFlags := 8, nameIndex := 261, descriptorIndex := 262, attributes := #[] }, { accessFlags := 9, nameIndex := 117, descriptorIndex := 122, attributes := #[] }, { accessFlags := 9, nameIndex := 117, descriptorIndex := 118, attributes := #[] }] 48 6 #[] #[{ accessFlags := 26, nameIndex := 61, descriptorIndex := 62, attributes := #[] }, { accessFlags := 26, nameIndex := 65, descriptorIndex := 62, attributes := #[] }, { accessFlags := 24, nameIndex := 430, descriptorIndex := 62, attributes := #[] }, { accessFlags := 4120, nameIndex := 46, descriptorIndex := 47, attributes := #[] }])
  fields := #[{ name := "HI_BYTE_SHIFT", type := .int, accessFlags := 26, slot := 0, constantValue := 0 }, { name := "LO_BYTE_SHIFT", type := .int, accessFlags := 26, slot := 1, constantValue := 0 }, { name := "MAX_LENGTH", type := .int, accessFlags := 24, slot := 2, constantValue := 0 }, { name := "$assertionsDisabled", type := .boolean, accessFlags := 4120, slot := 3, constantValue := 0 }]
  methods := #[k13m0, k13m1, k13m2, k13m3]
  instanceTypes := #[]
  staticTypes := #[.int, .int, .int, .boolean]
  resolved := Array.replicate 635 none
  statics := none }

def pool14 : Array CpInfo := pool [(4, .class_ 6), (1, u "java/lang/Object"), (0, u "<init>"), (0, u "()V"), (5, .class_ 16), (1, u "java/lang/StringLatin1"), (104, u "$assertionsDisabled"), (0, u "Z"), (98, .class_ 223), (1, u "java/lang/StringLatin1$LinesSpliterator"), (166, .class_ 391), (0, u "java/lang/StringLatin1$CharsSpliterator")] 3

def k14m0 : Method := { name := "<init>", desc := "()V", sig := { parameters := [], returnType := none }, accessFlags := 0, code := none }
/-- java/lang/StringLatin1 -/
def k14 : Class := { plain "java/lang/StringLatin1" (some 0) with
  accessFlags := 48
  interfaces := #[]
  cf := some (fileOf pool14 14 #[.nestMembers #[390, 221]] #[{ accessFlags := 0, nameIndex := 7, descriptorIndex := 8, attributes := #[] }] 48 4 #[] #[{ accessFlags := 4120, nameIndex := 121, descriptorIndex := 122, attributes := #[] }])
  fields := #[{ name := "$assertionsDisabled", type := .boolean, accessFlags := 4120, slot := 0, constantValue := 0 }]
  methods := #[k14m0]
  instanceTypes := #[]
  staticTypes := #[.boolean]
  resolved := Array.replicate 395 none
  statics := none }

def pool15 : Array CpInfo := pool [(2, .class_ 4), (1, u "java/lang/Object"), (0, u "<init>"), (0, u "()V"), (17, .class_ 26), (1, u "jdk/internal/util/Preconditions"), (28, .class_ 56), (0, u "jdk/internal/util/Preconditions$4"), (57, .class_ 115), (0, u "jdk/internal/util/Preconditions$1"), (7, u "SIOOBE_FORMATTER"), (0, u "Ljava/util/function/BiFunction;"), (0, .class_ 126), (0, u "jdk/internal/util/Preconditions$2"), (3, u "AIOOBE_FORMATTER"), (0, .class_ 132), (0, u "jdk/internal/util/Preconditions$3"), (3, u "IOOBE_FORMATTER")] 57

def k15m0 : Method := { name := "<init>", desc := "()V", sig := { parameters := [], returnType := none }, accessFlags := 1, code := none }
/-- jdk/internal/util/Preconditions -/
def k15 : Class := { plain "jdk/internal/util/Preconditions" (some 0) with
  accessFlags := 33
  interfaces := #[]
  cf := some (fileOf pool15 24 #[.nestMembers #[55, 131, 125, 114]] #[{ accessFlags := 1, nameIndex := 5, descriptorIndex := 6, attributes := #[] }] 33 2 #[] #[{ accessFlags := 25, nameIndex := 123, descriptorIndex := 124, attributes := #[] }, { accessFlags := 25, nameIndex := 130, descriptorIndex := 124, attributes := #[] }, { accessFlags := 25, nameIndex := 136, descriptorIndex := 124, attributes := #[] }])
  fields := #[{ name := "SIOOBE_FORMATTER", type := (.object "java/util/function/BiFunction"), accessFlags := 25, slot := 0, constantValue := 0 }, { name := "AIOOBE_FORMATTER", type := (.object "java/util/function/BiFunction"), accessFlags := 25, slot := 1, constantValue := 0 }, { name := "IOOBE_FORMATTER", type := (.object "java/util/function/BiFunction"), accessFlags := 25, slot := 2, constantValue := 0 }]
  methods := #[k15m0]
  instanceTypes := #[]
  staticTypes := #[(.object "java/util/function/BiFunction"), (.object "java/util/function/BiFunction"), (.object "java/util/function/BiFunction")]
  resolved := Array.replicate 194 none
  statics := some 2 }

def pool16 : Array CpInfo := pool [(9, u "<init>"), (6, .class_ 18), (1, u "java/lang/Object"), (0, u "()V"), (1, .class_ 23), (1, u "jdk/internal/util/ArraysSupport"), (0, u "LOG2_ARRAY_LONG_INDEX_SCALE"), (0, u "I"), (2, u "U"), (0, u "Ljdk/internal/misc/Unsafe;"), (8, u "BIG_ENDIAN"), (0, u "Z"), (8, u "LOG2_BYTE_BIT_SIZE"), (4, u "LOG2_ARRAY_INT_INDEX_SCALE"), (54, u "JLA"), (0, u "Ljdk/internal/access/JavaLangAccess;"), (11, u "LOG2_ARRAY_BOOLEAN_INDEX_SCALE"), (9, u "LOG2_ARRAY_BYTE_INDEX_SCALE"), (5, u "LOG2_ARRAY_CHAR_INDEX_SCALE"), (5, u "LOG2_ARRAY_SHORT_INDEX_SCALE"), (18, u "LOG2_ARRAY_FLOAT_INDEX_SCALE"), (24, u "LOG2_ARRAY_DOUBLE_INDEX_SCALE"), (89, u "T_BOOLEAN"), (2, u "T_CHAR"), (1, u "T_FLOAT"), (1, u "T_DOUBLE"), (1, u "T_BYTE"), (1, u "T_SHORT"), (1, u "T_INT"), (1, u "T_LONG"), (1, u "SOFT_MAX_ARRAY_LENGTH")] 83

def k16m0 : Method := { name := "<init>", desc := "()V", sig := { parameters := [], returnType := none }, accessFlags := 2, code := none }
/-- jdk/internal/util/ArraysSupport -/
def k16 : Class := { plain "jdk/internal/util/ArraysSupport" (some 0) with
  accessFlags := 33
  interfaces := #[]
  cf := some (fileOf pool16 21 #[] #[{ accessFlags := 2, nameIndex := 9, descriptorIndex := 19, attributes := #[] }] 33 16 #[] #[{ accessFlags := 24, nameIndex := 28, descriptorIndex := 29, attributes := #[] }, { accessFlags := 26, nameIndex := 38, descriptorIndex := 39, attributes := #[] }, { accessFlags := 25, nameIndex := 121, descriptorIndex := 25, attributes := #[] }, { accessFlags := 25, nameIndex := 131, descriptorIndex := 25, attributes := #[] }, { accessFlags := 25, nameIndex := 137, descriptorIndex := 25, attributes := #[] }, { accessFlags := 25, nameIndex := 143, descriptorIndex := 25, attributes := #[] }, { accessFlags := 25, nameIndex := 53, descriptorIndex := 25, attributes := #[] }, { accessFlags := 25, nameIndex := 24, descriptorIndex := 25, attributes := #[] }, { accessFlags := 25, nameIndex := 162, descriptorIndex := 25, attributes := #[] }, { accessFlags := 25, nameIndex := 187, descriptorIndex := 25, attributes := #[] }, { accessFlags := 26, nameIndex := 48, descriptorIndex := 25, attributes := #[] }, { accessFlags := 25, nameIndex := 277, descriptorIndex := 25, attributes := #[] }, { accessFlags := 25, nameIndex := 280, descriptorIndex := 25, attributes := #[] }, { accessFlags := 25, nameIndex := 282, descriptorIndex := 25, attributes := #[] }, { accessFlags := 25, nameIndex := 284, descriptorIndex := 25, attributes := #[] }, { accessFlags := 25, nameIndex := 286, descriptorIndex := 25, attributes := #[] }, { accessFlags := 25, nameIndex := 288, descriptorIndex := 25, attributes := #[] }, { accessFlags := 25, nameIndex := 290, descriptorIndex := 25, attributes := #[] }, { accessFlags := 25, nameIndex := 292, descriptorIndex := 25, attributes := #[] }, { accessFlags := 26, nameIndex := 108, descriptorIndex := 109, attributes := #[] }, { accessFlags := 25, nameIndex := 294, descriptorIndex := 25, attributes := #[] }])
  fields := #[{ name := "U", type := (.object "jdk/internal/misc/Unsafe"), accessFlags := 24, slot := 0, constantValue := 0 }, { name := "BIG_ENDIAN", type := .boolean, accessFlags := 26, slot := 1, constantValue := 0 }, { name := "LOG2_ARRAY_BOOLEAN_INDEX_SCALE", type := .int, accessFlags := 25, slot := 2, constantValue := 0 }, { name := "LOG2_ARRAY_BYTE_INDEX_SCALE", type := .int, accessFlags := 25, slot := 3, constantValue := 0 }, { name := "LOG2_ARRAY_CHAR_INDEX_SCALE", type := .int, accessFlags := 25, slot := 4, constantValue := 0 }, { name := "LOG2_ARRAY_SHORT_INDEX_SCALE", type := .int, accessFlags := 25, slot := 5, constantValue := 0 }, { name := "LOG2_ARRAY_INT_INDEX_SCALE", type := .int, accessFlags := 25, slot := 6, constantValue := 0 }, { name := "LOG2_ARRAY_LONG_INDEX_SCALE", type := .int, accessFlags := 25, slot := 7, constantValue := 0 }, { name := "LOG2_ARRAY_FLOAT_INDEX_SCALE", type := .int, accessFlags := 25, slot := 8, constantValue := 0 }, { name := "LOG2_ARRAY_DOUBLE_INDEX_SCALE", type := .int, accessFlags := 25, slot := 9, constantValue := 0 }, { name := "LOG2_BYTE_BIT_SIZE", type := .int, accessFlags := 26, slot := 10, constantValue := 0 }, { name := "T_BOOLEAN", type := .int, accessFlags := 25, slot := 11, constantValue := 0 }, { name := "T_CHAR", type := .int, accessFlags := 25, slot := 12, constantValue := 0 }, { name := "T_FLOAT", type := .int, accessFlags := 25, slot := 13, constantValue := 0 }, { name := "T_DOUBLE", type := .int, accessFlags := 25, slot := 14, constantValue := 0 }, { name := "T_BYTE", type := .int, accessFlags := 25, slot := 15, constantValue := 0 }, { name := "T_SHORT", type := .int, accessFlags := 25, slot := 16, constantValue := 0 }, { name := "T_INT", type := .int, accessFlags := 25, slot := 17, constantValue := 0 }, { name := "T_LONG", type := .int, accessFlags := 25, slot := 18, constantValue := 0 }, { name := "JLA", type := (.object "jdk/internal/access/JavaLangAccess"), accessFlags := 26, slot := 19, constantValue := 0 }, { name := "SOFT_MAX_ARRAY_LENGTH", type := .int, accessFlags := 25, slot := 20, constantValue := 0 }]
  methods := #[k16m0]
  instanceTypes := #[]
  staticTypes := #[(.object "jdk/internal/misc/Unsafe"), .boolean, .int, .int, .int, .int, .int, .int, .int, .int, .int, .int, .int, .int, .int, .int, .int, .int, .int, (.object "jdk/internal/access/JavaLangAccess"), .int]
  resolved := Array.replicate 378 none
  statics := none }

def pool17 : Array CpInfo := pool [(1, u "java/lang/Cloneable"), (0, .class_ 1), (0, u "java/lang/Object"), (0, .class_ 3)] 3

/-- java/lang/Cloneable -/
def k17 : Class := { plain "java/lang/Cloneable" (some 0) with
  accessFlags := 1537
  interfaces := #[]
  cf := some (fileOf pool17 2 #[] #[] 1537 4 #[] #[])
  fields := #[]
  methods := #[]
  instanceTypes := #[]
  staticTypes := #[]
  resolved := Array.replicate 8 none
  statics := none }

/-- the primitive byte -/
def k18 : Class := { plain "byte" none with kind := .primitive 'B', accessFlags := 0x411 }
/-- [B -/
def k19 : Class := { plain "[B" (some 0) with kind := .array 18 .byte, interfaces := #[17, 4], accessFlags := 1041 }

/-- the primitive char -/
def k20 : Class := { plain "char" none with kind := .primitive 'C', accessFlags := 0x411 }
/-- [C -/
def k21 : Class := { plain "[C" (some 0) with kind := .array 20 .char, interfaces := #[17, 4], accessFlags := 1041 }

def heap : Heap := #[{ cls := 6, slots := #[.ref 3, .ref 5, .ref 4, .ref 6, .null], vm := .statics 6 },
  { cls := 9, slots := #[.long 0, .int 1, .null, .int 0, .null, .int 0, .int 0], vm := .statics 9 },
  { cls := 15, slots := #[.null, .null, .null], vm := .statics 15 },
  { cls := 6, slots := #[.null, .int 0, .int 0], vm := .none },
  { cls := 6, slots := #[.null, .int 0, .int 0], vm := .none },
  { cls := 6, slots := #[.null, .int 0, .int 0], vm := .none },
  { cls := 6, slots := #[.null, .int 0, .int 0], vm := .none }]
def classes : Array Class := #[k0, k1, k2, k3, k4, k5, k6, k7, k8, k9, k10, k11, k12, k13, k14, k15, k16, k17, k18, k19, k20, k21]
def interned : List (Array UInt16 × Addr) := []
def slotsUsed : Nat := 27
def theMethod : MethodId := ⟨1, 1⟩
def args0 : Array Value := #[.int 5, .int 6, .int 7, .int 8, .int 9, .int 3]
def aboutOver (below : List Frame) : State where
  vm := { classes := classes, interned := interned.toArray }
  heap := heap
  slotsUsed := slotsUsed
  threads := #[{ frames := .invoking theMethod args0 :: below }]
def below0 : List Frame := [.native { method := ⟨0, 0⟩, args := #[] }]
def about1 : State := aboutOver below0
def p0 : Program := .bare "" "" ""
def e0 : Env := launch0.env 0 0 0
theorem w_frames : about1.frames = Frame.invoking theMethod args0 :: below0 := rfl
set_option maxRecDepth 65536 in
theorem w_args : argsFit about1.vm theMethod args0 = true := by decide +kernel
set_option maxRecDepth 65536 in
theorem w_heap : heapFits about1 = true := by decide +kernel
set_option maxRecDepth 65536 in
theorem w_runnable : about1.curStatus? = some .runnable := by decide +kernel
set_option maxRecDepth 65536 in
theorem w_alone : about1.alone = true := by decide +kernel
set_option maxRecDepth 65536 in
theorem w_named : about1.methodNamed? x = some theMethod := by decide +kernel
set_option maxRecDepth 65536 in
theorem w_hears : about1.hears theMethod below0 = true := by decide +kernel
set_option maxRecDepth 65536 in
theorem w_ripe : about1.ripe theMethod args0 below0 = true := by decide +kernel
theorem w_running : about1.status = .running := rfl
set_option maxRecDepth 65536 in
theorem w_room : about1.hasRoom e0.platform room_1 = true :=
  launch0.hasRoom_least _ room_1 (by decide +kernel) (by decide +kernel) (by decide +kernel) (by decide +kernel) (by decide +kernel) (by decide +kernel)
theorem allAtoms_all (ts : List Jvm.Cond) (a : Array Jvm.Value) (st : Jvm.State) : (allAtoms ts).before a st = ts.all (fun c => c.before a st) := by
  induction ts with
  | nil => rfl
  | cons c t ih =>
    show (Jvm.Cond.and c (allAtoms t)).before a st = _
    rw [Jvm.Cond.before_and, ih, List.all_cons]
def words1 : List Jvm.Cond := Jvm.Cond.code x code maxLocals ret :: tables_1
/-- a 'code' word, met by the world's own term for the bytes: nothing is compared byte by byte -/
theorem code_word {y : MethodName} {bytes : ByteArray} {mx : Nat} {rt : Option FieldType} {a : Array Value} {s : State} {m : MethodId} {meth : Method} {c : Code} (h1 : s.methodNamed? y = some m) (h2 : s.vm.method? m = some meth) (h3 : meth.code = some c) (h4 : c.code = bytes)
    (h5 : (c.maxLocals == mx && c.exceptionTable.isEmpty && decide (c.maxStack ≤ mostOperands) && decide (meth.sig.returnType = rt) && !meth.locks && decide (parseMethodDescriptor y.desc = some meth.sig)) = true) : (Jvm.Cond.code y bytes mx rt).before a s = true := by
  simp only [Bool.and_eq_true, beq_iff_eq, Bool.not_eq_true', decide_eq_true_eq] at h5
  obtain ⟨⟨⟨⟨⟨g1, g2⟩, g3⟩, g4⟩, g5⟩, g6⟩ := h5
  simp [Cond.before, Cond.holds, Cond.value, h1, h2, h3, h4, g1, g2, g3, g4, g5, g6]
def isCode : Jvm.Cond → Bool
  | .code _ _ _ _ => true
  | _ => false
theorem all_split {L : List Jvm.Cond} {P : Jvm.Cond → Bool} (h1 : L.all (fun c => isCode c || P c) = true) (h2 : ∀ c ∈ L.filter isCode, P c = true) : L.all P = true := by
  refine List.all_eq_true.mpr fun c hc => ?_
  have h := List.all_eq_true.mp h1 c hc
  rcases Bool.eq_false_or_eq_true (isCode c) with hi | hi
  · exact h2 c (List.mem_filter.mpr ⟨hc, hi⟩)
  · simpa [hi] using h
set_option maxRecDepth 65536 in
theorem w_c0 : (Jvm.Cond.code x code maxLocals ret).before args0 about1 = true := code_word (m := ⟨1, 1⟩) (meth := k1m1) (c := k1c1) (by decide +kernel) rfl rfl rfl (by decide +kernel)
set_option maxRecDepth 65536 in
theorem w_c1 : (Jvm.Cond.code ({ cls := "com/example/crisp_fixture/crispfixture/dialect/ColumnTypeWithBaseNamePinLaw", name := "str", desc := "(I)Ljava/lang/String;" } : Jvm.MethodName) method_4_code (6 : Nat) (Option.some (Jvm.ClassFile.FieldType.object "java/lang/String"))).before args0 about1 = true := code_word (m := ⟨1, 3⟩) (meth := k1m3) (c := k1c3) (by decide +kernel) rfl rfl rfl (by decide +kernel)
set_option maxRecDepth 65536 in
theorem w_c2 : (Jvm.Cond.code ({ cls := "java/lang/String", name := "<init>", desc := "([C)V" } : Jvm.MethodName) jdk_42_method_3_code (2 : Nat) (Option.none : Option Jvm.ClassFile.FieldType)).before args0 about1 = true := code_word (m := ⟨9, 1⟩) (meth := k9m1) (c := k9c1) (by decide +kernel) rfl rfl rfl (by decide +kernel)
set_option maxRecDepth 65536 in
theorem w_c3 : (Jvm.Cond.code ({ cls := "java/lang/String", name := "<init>", desc := "([CIILjava/lang/Void;)V" } : Jvm.MethodName) jdk_42_method_149_code (6 : Nat) (Option.none : Option Jvm.ClassFile.FieldType)).before args0 about1 = true := code_word (m := ⟨9, 3⟩) (meth := k9m3) (c := k9c3) (by decide +kernel) rfl rfl rfl (by decide +kernel)
set_option maxRecDepth 65536 in
theorem w_c4 : (Jvm.Cond.code ({ cls := "java/lang/Object", name := "<init>", desc := "()V" } : Jvm.MethodName) object_method_1_code (1 : Nat) (Option.none : Option Jvm.ClassFile.FieldType)).before args0 about1 = true := code_word (m := ⟨0, 0⟩) (meth := k0m0) (c := k0c0) (by decide +kernel) rfl rfl rfl (by decide +kernel)
set_option maxRecDepth 65536 in
theorem w_c5 : (Jvm.Cond.code ({ cls := "com/example/crisp_fixture/crispfixture/dialect/Dialect$ColumnType", name := "<init>", desc := "(ILjava/lang/String;ILjava/lang/String;Lcom/example/crisp_fixture/crispfixture/dialect/Dialect$Content;)V" } : Jvm.MethodName) prog_51_method_1_code (6 : Nat) (Option.none : Option Jvm.ClassFile.FieldType)).before args0 about1 = true := code_word (m := ⟨11, 0⟩) (meth := k11m0) (c := k11c0) (by decide +kernel) rfl rfl rfl (by decide +kernel)
set_option maxRecDepth 65536 in
theorem w_c6 : (Jvm.Cond.code ({ cls := "java/lang/Record", name := "<init>", desc := "()V" } : Jvm.MethodName) jdk_30_method_1_code (1 : Nat) (Option.none : Option Jvm.ClassFile.FieldType)).before args0 about1 = true := code_word (m := ⟨10, 0⟩) (meth := k10m0) (c := k10c0) (by decide +kernel) rfl rfl rfl (by decide +kernel)
set_option maxRecDepth 65536 in
theorem w_c7 : (Jvm.Cond.code ({ cls := "java/util/Objects", name := "requireNonNull", desc := "(Ljava/lang/Object;Ljava/lang/String;)Ljava/lang/Object;" } : Jvm.MethodName) jdk_31_method_11_code (2 : Nat) (Option.some (Jvm.ClassFile.FieldType.object "java/lang/Object"))).before args0 about1 = true := code_word (m := ⟨12, 1⟩) (meth := k12m1) (c := k12c1) (by decide +kernel) rfl rfl rfl (by decide +kernel)
set_option maxRecDepth 65536 in
theorem w_c8 : (Jvm.Cond.code ({ cls := "com/example/crisp_fixture/crispfixture/dialect/Dialect$ColumnType", name := "withBaseName", desc := "(Ljava/lang/String;)Lcom/example/crisp_fixture/crispfixture/dialect/Dialect$ColumnType;" } : Jvm.MethodName) prog_51_method_4_code (2 : Nat) (Option.some (Jvm.ClassFile.FieldType.object "com/example/crisp_fixture/crispfixture/dialect/Dialect$ColumnType"))).before args0 about1 = true := code_word (m := ⟨11, 1⟩) (meth := k11m1) (c := k11c1) (by decide +kernel) rfl rfl rfl (by decide +kernel)
set_option maxRecDepth 65536 in
theorem w_c9 : (Jvm.Cond.code ({ cls := "com/example/crisp_fixture/crispfixture/dialect/Dialect$ColumnType", name := "code", desc := "()I" } : Jvm.MethodName) prog_51_method_9_code (1 : Nat) (Option.some Jvm.ClassFile.FieldType.int)).before args0 about1 = true := code_word (m := ⟨11, 2⟩) (meth := k11m2) (c := k11c2) (by decide +kernel) rfl rfl rfl (by decide +kernel)
set_option maxRecDepth 65536 in
theorem w_c10 : (Jvm.Cond.code ({ cls := "com/example/crisp_fixture/crispfixture/dialect/Dialect$ColumnType", name := "name", desc := "()Ljava/lang/String;" } : Jvm.MethodName) prog_51_method_10_code (1 : Nat) (Option.some (Jvm.ClassFile.FieldType.object "java/lang/String"))).before args0 about1 = true := code_word (m := ⟨11, 3⟩) (meth := k11m3) (c := k11c3) (by decide +kernel) rfl rfl rfl (by decide +kernel)
set_option maxRecDepth 65536 in
theorem w_c11 : (Jvm.Cond.code ({ cls := "com/example/crisp_fixture/crispfixture/dialect/ColumnTypeWithBaseNamePinLaw", name := "same", desc := "(Ljava/lang/String;Ljava/lang/String;)Z" } : Jvm.MethodName) method_3_code (2 : Nat) (Option.some Jvm.ClassFile.FieldType.boolean)).before args0 about1 = true := code_word (m := ⟨1, 2⟩) (meth := k1m2) (c := k1c2) (by decide +kernel) rfl rfl rfl (by decide +kernel)
set_option maxRecDepth 65536 in
theorem w_c12 : (Jvm.Cond.code ({ cls := "java/lang/String", name := "equals", desc := "(Ljava/lang/Object;)Z" } : Jvm.MethodName) jdk_42_method_66_code (3 : Nat) (Option.some Jvm.ClassFile.FieldType.boolean)).before args0 about1 = true := code_word (m := ⟨9, 2⟩) (meth := k9m2) (c := k9c2) (by decide +kernel) rfl rfl rfl (by decide +kernel)
set_option maxRecDepth 65536 in
theorem w_c13 : (Jvm.Cond.code ({ cls := "com/example/crisp_fixture/crispfixture/dialect/Dialect$ColumnType", name := "size", desc := "()I" } : Jvm.MethodName) prog_51_method_11_code (1 : Nat) (Option.some Jvm.ClassFile.FieldType.int)).before args0 about1 = true := code_word (m := ⟨11, 4⟩) (meth := k11m4) (c := k11c4) (by decide +kernel) rfl rfl rfl (by decide +kernel)
set_option maxRecDepth 65536 in
theorem w_c14 : (Jvm.Cond.code ({ cls := "com/example/crisp_fixture/crispfixture/dialect/Dialect$ColumnType", name := "baseName", desc := "()Ljava/lang/String;" } : Jvm.MethodName) prog_51_method_12_code (1 : Nat) (Option.some (Jvm.ClassFile.FieldType.object "java/lang/String"))).before args0 about1 = true := code_word (m := ⟨11, 5⟩) (meth := k11m5) (c := k11c5) (by decide +kernel) rfl rfl rfl (by decide +kernel)
set_option maxRecDepth 65536 in
theorem w_c15 : (Jvm.Cond.code ({ cls := "com/example/crisp_fixture/crispfixture/dialect/Dialect$ColumnType", name := "content", desc := "()Lcom/example/crisp_fixture/crispfixture/dialect/Dialect$Content;" } : Jvm.MethodName) prog_51_method_13_code (1 : Nat) (Option.some (Jvm.ClassFile.FieldType.object "com/example/crisp_fixture/crispfixture/dialect/Dialect$Content"))).before args0 about1 = true := code_word (m := ⟨11, 6⟩) (meth := k11m6) (c := k11c6) (by decide +kernel) rfl rfl rfl (by decide +kernel)
set_option maxRecDepth 65536 in
theorem w_c16 : (Jvm.Cond.code ({ cls := "java/lang/StringUTF16", name := "compress", desc := "([CII)[B" } : Jvm.MethodName) jdk_52_method_16_code (6 : Nat) (Option.some (Jvm.ClassFile.FieldType.array Jvm.ClassFile.FieldType.byte))).before args0 about1 = true := code_word (m := ⟨13, 2⟩) (meth := k13m2) (c := k13c2) (by decide +kernel) rfl rfl rfl (by decide +kernel)
set_option maxRecDepth 65536 in
theorem w_c17 : (Jvm.Cond.code ({ cls := "java/lang/StringUTF16", name := "compress", desc := "([CI[BII)I" } : Jvm.MethodName) jdk_52_method_21_code (7 : Nat) (Option.some Jvm.ClassFile.FieldType.int)).before args0 about1 = true := code_word (m := ⟨13, 3⟩) (meth := k13m3) (c := k13c3) (by decide +kernel) rfl rfl rfl (by decide +kernel)
set_option maxRecDepth 65536 in
theorem w_c18 : (Jvm.Cond.code ({ cls := "java/lang/StringUTF16", name := "coderFromArrayLen", desc := "([BI)B" } : Jvm.MethodName) jdk_52_method_15_code (2 : Nat) (Option.some Jvm.ClassFile.FieldType.byte)).before args0 about1 = true := code_word (m := ⟨13, 1⟩) (meth := k13m1) (c := k13c1) (by decide +kernel) rfl rfl rfl (by decide +kernel)
def codes1 : List Jvm.Cond := [Jvm.Cond.code x code maxLocals ret, Jvm.Cond.code ({ cls := "com/example/crisp_fixture/crispfixture/dialect/ColumnTypeWithBaseNamePinLaw", name := "str", desc := "(I)Ljava/lang/String;" } : Jvm.MethodName) method_4_code (6 : Nat) (Option.some (Jvm.ClassFile.FieldType.object "java/lang/String")), Jvm.Cond.code ({ cls := "java/lang/String", name := "<init>", desc := "([C)V" } : Jvm.MethodName) jdk_42_method_3_code (2 : Nat) (Option.none : Option Jvm.ClassFile.FieldType), Jvm.Cond.code ({ cls := "java/lang/String", name := "<init>", desc := "([CIILjava/lang/Void;)V" } : Jvm.MethodName) jdk_42_method_149_code (6 : Nat) (Option.none : Option Jvm.ClassFile.FieldType), Jvm.Cond.code ({ cls := "java/lang/Object", name := "<init>", desc := "()V" } : Jvm.MethodName) object_method_1_code (1 : Nat) (Option.none : Option Jvm.ClassFile.FieldType), Jvm.Cond.code ({ cls := "com/example/crisp_fixture/crispfixture/dialect/Dialect$ColumnType", name := "<init>", desc := "(ILjava/lang/String;ILjava/lang/String;Lcom/example/crisp_fixture/crispfixture/dialect/Dialect$Content;)V" } : Jvm.MethodName) prog_51_method_1_code (6 : Nat) (Option.none : Option Jvm.ClassFile.FieldType), Jvm.Cond.code ({ cls := "java/lang/Record", name := "<init>", desc := "()V" } : Jvm.MethodName) jdk_30_method_1_code (1 : Nat) (Option.none : Option Jvm.ClassFile.FieldType), Jvm.Cond.code ({ cls := "java/util/Objects", name := "requireNonNull", desc := "(Ljava/lang/Object;Ljava/lang/String;)Ljava/lang/Object;" } : Jvm.MethodName) jdk_31_method_11_code (2 : Nat) (Option.some (Jvm.ClassFile.FieldType.object "java/lang/Object")), Jvm.Cond.code ({ cls := "com/example/crisp_fixture/crispfixture/dialect/Dialect$ColumnType", name := "withBaseName", desc := "(Ljava/lang/String;)Lcom/example/crisp_fixture/crispfixture/dialect/Dialect$ColumnType;" } : Jvm.MethodName) prog_51_method_4_code (2 : Nat) (Option.some (Jvm.ClassFile.FieldType.object "com/example/crisp_fixture/crispfixture/dialect/Dialect$ColumnType")), Jvm.Cond.code ({ cls := "com/example/crisp_fixture/crispfixture/dialect/Dialect$ColumnType", name := "code", desc := "()I" } : Jvm.MethodName) prog_51_method_9_code (1 : Nat) (Option.some Jvm.ClassFile.FieldType.int), Jvm.Cond.code ({ cls := "com/example/crisp_fixture/crispfixture/dialect/Dialect$ColumnType", name := "name", desc := "()Ljava/lang/String;" } : Jvm.MethodName) prog_51_method_10_code (1 : Nat) (Option.some (Jvm.ClassFile.FieldType.object "java/lang/String")), Jvm.Cond.code ({ cls := "com/example/crisp_fixture/crispfixture/dialect/ColumnTypeWithBaseNamePinLaw", name := "same", desc := "(Ljava/lang/String;Ljava/lang/String;)Z" } : Jvm.MethodName) method_3_code (2 : Nat) (Option.some Jvm.ClassFile.FieldType.boolean), Jvm.Cond.code ({ cls := "java/lang/String", name := "equals", desc := "(Ljava/lang/Object;)Z" } : Jvm.MethodName) jdk_42_method_66_code (3 : Nat) (Option.some Jvm.ClassFile.FieldType.boolean), Jvm.Cond.code ({ cls := "com/example/crisp_fixture/crispfixture/dialect/Dialect$ColumnType", name := "size", desc := "()I" } : Jvm.MethodName) prog_51_method_11_code (1 : Nat) (Option.some Jvm.ClassFile.FieldType.int), Jvm.Cond.code ({ cls := "com/example/crisp_fixture/crispfixture/dialect/Dialect$ColumnType", name := "baseName", desc := "()Ljava/lang/String;" } : Jvm.MethodName) prog_51_method_12_code (1 : Nat) (Option.some (Jvm.ClassFile.FieldType.object "java/lang/String")), Jvm.Cond.code ({ cls := "com/example/crisp_fixture/crispfixture/dialect/Dialect$ColumnType", name := "content", desc := "()Lcom/example/crisp_fixture/crispfixture/dialect/Dialect$Content;" } : Jvm.MethodName) prog_51_method_13_code (1 : Nat) (Option.some (Jvm.ClassFile.FieldType.object "com/example/crisp_fixture/crispfixture/dialect/Dialect$Content")), Jvm.Cond.code ({ cls := "java/lang/StringUTF16", name := "compress", desc := "([CII)[B" } : Jvm.MethodName) jdk_52_method_16_code (6 : Nat) (Option.some (Jvm.ClassFile.FieldType.array Jvm.ClassFile.FieldType.byte)), Jvm.Cond.code ({ cls := "java/lang/StringUTF16", name := "compress", desc := "([CI[BII)I" } : Jvm.MethodName) jdk_52_method_21_code (7 : Nat) (Option.some Jvm.ClassFile.FieldType.int), Jvm.Cond.code ({ cls := "java/lang/StringUTF16", name := "coderFromArrayLen", desc := "([BI)B" } : Jvm.MethodName) jdk_52_method_15_code (2 : Nat) (Option.some Jvm.ClassFile.FieldType.byte)]
set_option maxRecDepth 65536 in
theorem codes_eq : words1.filter isCode = codes1 := rfl
theorem w_codes : ∀ c ∈ words1.filter isCode, c.before args0 about1 = true := by
  rw [codes_eq]
  intro c hc
  simp only [codes1, List.mem_cons, List.not_mem_nil, or_false] at hc
  rcases hc with rfl | rfl | rfl | rfl | rfl | rfl | rfl | rfl | rfl | rfl | rfl | rfl | rfl | rfl | rfl | rfl | rfl | rfl | rfl
  · exact w_c0
  · exact w_c1
  · exact w_c2
  · exact w_c3
  · exact w_c4
  · exact w_c5
  · exact w_c6
  · exact w_c7
  · exact w_c8
  · exact w_c9
  · exact w_c10
  · exact w_c11
  · exact w_c12
  · exact w_c13
  · exact w_c14
  · exact w_c15
  · exact w_c16
  · exact w_c17
  · exact w_c18
set_option maxRecDepth 65536 in
theorem w_t1 : (words1.take 24).all (fun c => isCode c || c.before args0 about1) = true := by decide +kernel
set_option maxRecDepth 65536 in
theorem w_t2 : ((words1.drop 24).take 24).all (fun c => isCode c || c.before args0 about1) = true := by decide +kernel
set_option maxRecDepth 65536 in
theorem w_t3 : (((words1.drop 24).drop 24).take 24).all (fun c => isCode c || c.before args0 about1) = true := by decide +kernel
set_option maxRecDepth 65536 in
theorem w_t4 : ((((words1.drop 24).drop 24).drop 24).take 24).all (fun c => isCode c || c.before args0 about1) = true := by decide +kernel
set_option maxRecDepth 65536 in
theorem w_t5 : ((((words1.drop 24).drop 24).drop 24).drop 24).all (fun c => isCode c || c.before args0 about1) = true := by decide +kernel
theorem w_tables : (allAtoms (Jvm.Cond.code x code maxLocals ret :: tables_1)).before args0 about1 = true := by
  rw [allAtoms_all]
  show words1.all (fun c => c.before args0 about1) = true
  refine all_split ?_ w_codes
  rw [← List.take_append_drop 24 words1, List.all_append, w_t1, ← List.take_append_drop 24 (words1.drop 24), List.all_append, w_t2, ← List.take_append_drop 24 ((words1.drop 24).drop 24), List.all_append, w_t3, ← List.take_append_drop 24 (((words1.drop 24).drop 24).drop 24), List.all_append, w_t4, w_t5]
  rfl
set_option maxRecDepth 65536 in
theorem w_rest : rest_1_c.before args0 about1 = true := by decide +kernel
set_option maxRecDepth 65536 in
theorem w_case : (Jvm.Cond.and given_1 narrow_1).before args0 about1 = true := by decide +kernel
set_option maxRecDepth 65536 in
theorem w_consts : constsHeld consts_1 about1 := Jvm.Lit.constsHeldB_iff.mp (by decide +kernel)
theorem w_applies : (headSpec (Jvm.Cond.code x code maxLocals ret :: tables_1) room_1).applies x e0.platform about1 = true :=
  (Spec.applies_iff w_frames).mpr ⟨w_running, w_runnable, w_alone, w_named, w_hears, w_ripe, w_room, w_tables⟩
theorem atStart : AtStart classFile x code maxLocals ret World_1 tables_1 room_1 Calls_1 rest_1 Pre_1 launch0 p0 e0 about1 theMethod args0 below0 :=
  ⟨lists_1, trivial, launch0.admits_env _ _ _, launch0.least_env, fairChoices_fair.cas, fairChoices_fair.clock, w_frames, w_args, w_heap, w_applies, ⟨w_consts, trivial⟩, w_rest, w_case⟩
end start1
theorem witness_1 : WitnessClaimed_1 := ⟨start1.p0, start1.e0, start1.about1, start1.theMethod, start1.args0, start1.below0, start1.atStart⟩
end Jvm.Pilot.@@N@@
