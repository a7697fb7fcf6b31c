import JvmDerived
import JvmDerived.Pilot.@@N@@Statement
import JvmDerived.Pilot.@@N@@Code
set_option linter.unusedVariables false
set_option linter.unusedSimpArgs false
/- laws to paste: Road.backV, Road.lenW, Road.chN, Road.codOf (cut by pick.py; bodies as the Statement names them) -/
namespace Jvm.Pilot.@@N@@
namespace StrChars
open Jvm Sem ClassFile Op Lib Jvm.Stand Jvm.Free.XT Jvm.Free.ALB Jvm.Free.JM Jvm.Free
open Jvm.Lib.Cold (StaticIs)
/-- a char array whose places are chars -/
def Ch (a : Addr) (A : Cell) (U : State) : Prop := Arr .char a A U ∧ Typed .char A
theorem Ch.mv {a : Addr} {A : Cell} {U U' : State} (h : Ch a A U) (hal : U.vm.Alike U'.vm) (hh : U'.heap = U.heap) : Ch a A U' := ⟨h.1.mv hal hh, h.2⟩
theorem Ch.keep {a : Addr} {A : Cell} {U U' : State} (h : Ch a A U) (hal : U.vm.Alike U'.vm) (hk : U'.heap[a]? = some A) : Ch a A U' := ⟨h.1.keep hal hk, h.2⟩
/-- what place i of a char[]'s cell holds -/
def cv (A : Cell) (i : Nat) : Int32 := match A.slots[i]? with | some (.int x) => x | _ => 0
theorem Ch.get {a : Addr} {A : Cell} {U : State} (h : Ch a A U) {i : Nat} (hi : i < A.slots.size) : A.slots[i]? = some (.int (cv A i)) := by
  have e := Array.getElem?_eq_getElem hi
  have f := h.2 i _ e
  unfold cv; rw [e]
  generalize A.slots[i] = v at f
  cases v <;> simp [fits] at f ⊢
/-- the byte that i2b leaves of a char -/
def lo8 (x : Int32) : Int32 := x.toInt8.toInt32
theorem fits_lo8 (y : Int32) : fits .byte (.int (lo8 y)) = true := by
  have h1 := y.toInt8.le_toInt
  have h2 := y.toInt8.toInt_lt
  simp only [lo8, fits, Bool.and_eq_true, decide_eq_true_eq, Int32.le_iff_toInt_le, Int8.toInt_toInt32, show (-128 : Int32).toInt = -128 from by decide, show (127 : Int32).toInt = 127 from by decide]
  omega
/-- A' is A but that each place j of lo .. hi - 1 holds f j -/
def Laid (A A' : Cell) (lo hi : Nat) (f : Nat → Value) : Prop := A'.cls = A.cls ∧ A'.vm = A.vm ∧ A'.slots.size = A.slots.size ∧ ∀ i, A'.slots[i]? = if lo ≤ i ∧ i < hi then some (f i) else A.slots[i]?
theorem Laid.zero (A : Cell) (lo : Nat) (f : Nat → Value) : Laid A A lo (lo + 0) f := ⟨rfl, rfl, rfl, fun i => by rw [if_neg (by omega)]⟩
theorem Laid.step {A Ak : Cell} {lo k : Nat} {f : Nat → Value} {v : Value} (h : Laid A Ak lo k f) (hlo : lo ≤ k) (hk : k < Ak.slots.size) (hv : v = f k) : Laid A (Ak.setSlot k v) lo (k + 1) f := by
  refine ⟨h.1, h.2.1, by simpa [Cell.setSlot] using h.2.2.1, fun i => ?_⟩
  by_cases e : k = i
  · subst e; rw [Cell.slots_setSlot_self v hk, if_pos (by omega), hv]
  · rw [Cell.slots_setSlot_ne v e, h.2.2.2 i]
    by_cases q : lo ≤ i ∧ i < k
    · rw [if_pos q, if_pos (by omega)]
    · rw [if_neg q, if_neg (by omega)]
def U16 : String := "java/lang/StringUTF16"
namespace Cmp5
def yN : MethodName := ⟨"java/lang/StringUTF16", "compress", "([CI[BII)I"⟩
abbrev yB : ByteArray := jdk_52_method_21_code
theorem d0 : decode yB 0 = .ok (.iconst 0, 1) := by decide +kernel
theorem d1 : decode yB 1 = .ok (.istore 5, 2) := by decide +kernel
theorem d3 : decode yB 3 = .ok (.iload 5, 2) := by decide +kernel
theorem d5 : decode yB 5 = .ok (.iload 4, 2) := by decide +kernel
theorem d7 : decode yB 7 = .ok (.if_icmp (.ge) 37, 3) := by decide +kernel
theorem d10 : decode yB 10 = .ok (.aload_n 0, 1) := by decide +kernel
theorem d11 : decode yB 11 = .ok (.iload_n 1, 1) := by decide +kernel
theorem d12 : decode yB 12 = .ok (.caload, 1) := by decide +kernel
theorem d13 : decode yB 13 = .ok (.istore 6, 2) := by decide +kernel
theorem d15 : decode yB 15 = .ok (.iload 6, 2) := by decide +kernel
theorem d17 : decode yB 17 = .ok (.sipush 255, 3) := by decide +kernel
theorem d20 : decode yB 20 = .ok (.if_icmp (.le) 6, 3) := by decide +kernel
theorem d26 : decode yB 26 = .ok (.aload_n 2, 1) := by decide +kernel
theorem d27 : decode yB 27 = .ok (.iload_n 3, 1) := by decide +kernel
theorem d28 : decode yB 28 = .ok (.iload 6, 2) := by decide +kernel
theorem d30 : decode yB 30 = .ok (.i2b, 1) := by decide +kernel
theorem d31 : decode yB 31 = .ok (.bastore, 1) := by decide +kernel
theorem d32 : decode yB 32 = .ok (.iinc 1 1, 3) := by decide +kernel
theorem d35 : decode yB 35 = .ok (.iinc 3 1, 3) := by decide +kernel
theorem d38 : decode yB 38 = .ok (.iinc 5 1, 3) := by decide +kernel
theorem d41 : decode yB 41 = .ok (.goto (-38), 3) := by decide +kernel
theorem d44 : decode yB 44 = .ok (.iload 4, 2) := by decide +kernel
theorem d46 : decode yB 46 = .ok (.ireturn, 1) := by decide +kernel
def site : List Cond := []
def tab : Cond := tabOf yN yB 7 (some .int) site
def P (b : Addr) (A : Cell) (d : Addr) (B : Cell) (o q len : Nat) (args : Array Value) (s : State) : Prop := args = #[.ref b, .int (Int32.ofNat o), .ref d, .int (Int32.ofNat q), .int (Int32.ofNat len)] ∧ Ch b A s ∧ Arr .byte d B s ∧ b ≠ d ∧ o + len ≤ A.slots.size ∧ q + len ≤ B.slots.size ∧ ∀ i, i < len → ¬ 255 < cv A (o + i)
def E (b : Addr) (A : Cell) (d : Addr) (B : Cell) (o q len : Nat) (r : Option Value) (s u : State) : Prop := r = some (.int (Int32.ofNat len)) ∧ ∃ B', Put d B' s u ∧ Laid B B' q (q + len) (fun j => Value.int (lo8 (cv A (o + (j - q)))))
/-- no char of the range above 255: len; the places written hold each char's low byte -/
theorem law (l : Launch) (b : Addr) (A : Cell) (d : Addr) (B : Cell) (o q len : Nat) : Law l yN 5 5 0 0 yB 7 (some .int) site (P b A d B o q len) (E b A d B o q len) (copyLocs d q len) 0 0 := by
  refine Law.of_walk (plainFor_of_name (by decide +kernel)) (by decide +kernel) (by decide +kernel) (by decide) (fun _ _ h => by rw [h.1]; rfl) (fun _ U U' hal hh h => ⟨h.1, h.2.1.mv hal hh, h.2.2.1.mv hal hh, h.2.2.2⟩) (fun r U U' V V' h1 hal h2 h => ⟨h.1, h.2.elim fun B' q => ⟨B', q.1.mv h1 h2, q.2⟩⟩) ?_
  intro p e s m args below meth c s₁ X0 hexec hbytes hml hret hlk hnm hown hh0 W hP
  obtain ⟨rfl, hA, hB, hne, l1, l2, hp⟩ := hP
  have c1 : Steps p.tables e below (s₁.setTop (entryFrame m #[.ref b, .int (Int32.ofNat o), .ref d, .int (Int32.ofNat q), .int (Int32.ofNat len)] 7)) (s₁.setTop (mkF m 0 #[.val (.ref b), .val (.int (Int32.ofNat o)), .val (.ref d), .val (.int (Int32.ofNat q)), .val (.int (Int32.ofNat len)), .unset, .unset] [])) := entry rfl
  have hA0 := hA.1.mv X0.warmed.alike hh0
  have hB0 := hB.mv X0.warmed.alike hh0
  have a31 := hA.1.2.2.2
  have c2 : Steps p.tables e below (s₁.setTop (entryFrame m #[.ref b, .int (Int32.ofNat o), .ref d, .int (Int32.ofNat q), .int (Int32.ofNat len)] 7)) (s₁.setTop (mkF m 3 #[.val (.ref b), .val (.int (Int32.ofNat o)), .val (.ref d), .val (.int (Int32.ofNat q)), .val (.int (Int32.ofNat len)), .val (.int 0), .unset] [])) := c1.trans (by
    refine iconstV X0.here hexec rfl 0 (hb hbytes d0) (by decide) ?_
    refine XS.istore X0.here hexec rfl (hb hbytes d1) rfl rfl ?_
    exact Steps.refl _)
  have loop : ∀ (r i : Nat), i + r = len → ∀ (z : Slot), (z = .unset ∨ ∃ w, z = .val w ∧ w.category = 1) → ∀ (Tl : State) (Bk : Cell), Stand p l e { frames := 0, locals := 0, cells := 0, slots := 0 } s m #[.ref b, .int (Int32.ofNat o), .ref d, .int (Int32.ofNat q), .int (Int32.ofNat len)] below meth c Tl ([] ++ copyLocs d q i) 0 0 → Put d Bk s₁ Tl → Laid B Bk q (q + i) (fun j => Value.int (lo8 (cv A (o + (j - q))))) →
      Steps p.tables e below (s₁.setTop (entryFrame m #[.ref b, .int (Int32.ofNat o), .ref d, .int (Int32.ofNat q), .int (Int32.ofNat len)] 7)) (Tl.setTop (mkF m 3 #[.val (.ref b), .val (.int (Int32.ofNat (o + i))), .val (.ref d), .val (.int (Int32.ofNat (q + i))), .val (.int (Int32.ofNat len)), .val (.int (Int32.ofNat i)), z] [])) → ∃ (T' : State) (B' : Cell) (z' : Slot), Stand p l e { frames := 0, locals := 0, cells := 0, slots := 0 } s m #[.ref b, .int (Int32.ofNat o), .ref d, .int (Int32.ofNat q), .int (Int32.ofNat len)] below meth c T' ([] ++ copyLocs d q len) 0 0 ∧ Put d B' s₁ T' ∧ Laid B B' q (q + len) (fun j => Value.int (lo8 (cv A (o + (j - q))))) ∧
      Steps p.tables e below (s₁.setTop (entryFrame m #[.ref b, .int (Int32.ofNat o), .ref d, .int (Int32.ofNat q), .int (Int32.ofNat len)] 7)) (T'.setTop (mkF m 3 #[.val (.ref b), .val (.int (Int32.ofNat (o + len))), .val (.ref d), .val (.int (Int32.ofNat (q + len))), .val (.int (Int32.ofNat len)), .val (.int (Int32.ofNat len)), z'] [])) := by
    intro r
    induction r with
    | zero =>
      intro i hi z hz Tl Bk Xl pl fl cl
      have hil : i = len := by omega
      rw [hil] at Xl fl cl
      exact ⟨Tl, Bk, z, Xl, pl, fl, cl⟩
    | succ r ih =>
      intro i hi z hz Tl Bk Xl pl fl cl
      have all := X0.warmed.alike.symm.trans Xl.warmed.alike
      have hAl := hA0.keep all (pl.other hne hA0.1)
      have hBk := hB0.like all pl.1 fl.1 fl.2.1 fl.2.2.1
      have hlt : q + i < Bk.slots.size := by rw [fl.2.2.1]; omega
      have c3 : Steps p.tables e below (s₁.setTop (entryFrame m #[.ref b, .int (Int32.ofNat o), .ref d, .int (Int32.ofNat q), .int (Int32.ofNat len)] 7)) (Tl.setTop (mkF m 12 #[.val (.ref b), .val (.int (Int32.ofNat (o + i))), .val (.ref d), .val (.int (Int32.ofNat (q + i))), .val (.int (Int32.ofNat len)), .val (.int (Int32.ofNat i)), z] [.int (Int32.ofNat (o + i)), .ref b])) := cl.trans (by
        refine XS.iload Xl.here hexec rfl (hb hbytes d3) rfl ?_
        refine XS.iload Xl.here hexec rfl (hb hbytes d5) rfl ?_
        refine XS.icmpNo Xl.here hexec rfl (hb hbytes d7) rfl (ii_ge_f (lt32 (by omega) (by omega))) ?_
        refine XS.aloadN Xl.here hexec rfl (hb hbytes d10) rfl rfl ?_
        refine XS.iloadN Xl.here hexec rfl (hb hbytes d11) rfl ?_
        exact Steps.refl _)
      have c4 : Steps p.tables e below (s₁.setTop (entryFrame m #[.ref b, .int (Int32.ofNat o), .ref d, .int (Int32.ofNat q), .int (Int32.ofNat len)] 7)) (Tl.setTop (mkF m 13 #[.val (.ref b), .val (.int (Int32.ofNat (o + i))), .val (.ref d), .val (.int (Int32.ofNat (q + i))), .val (.int (Int32.ofNat len)), .val (.int (Int32.ofNat i)), z] [.int (cv A (o + i))])) := c3.trans (by
        refine Xl.aget hexec hAl rfl (hA.get (i := o + i) (by omega)) rfl rfl (hb hbytes d12) ?_
        exact Steps.refl _)
      have c5 : Steps p.tables e below (s₁.setTop (entryFrame m #[.ref b, .int (Int32.ofNat o), .ref d, .int (Int32.ofNat q), .int (Int32.ofNat len)] 7)) (Tl.setTop (mkF m 15 #[.val (.ref b), .val (.int (Int32.ofNat (o + i))), .val (.ref d), .val (.int (Int32.ofNat (q + i))), .val (.int (Int32.ofNat len)), .val (.int (Int32.ofNat i)), .val (.int (cv A (o + i)))] [])) := c4.trans (by
        refine XS.istoreS Xl.here hexec rfl (hb hbytes d13) rfl rfl hz ?_
        exact Steps.refl _)
      have c6 : Steps p.tables e below (s₁.setTop (entryFrame m #[.ref b, .int (Int32.ofNat o), .ref d, .int (Int32.ofNat q), .int (Int32.ofNat len)] 7)) (Tl.setTop (mkF m 31 #[.val (.ref b), .val (.int (Int32.ofNat (o + i))), .val (.ref d), .val (.int (Int32.ofNat (q + i))), .val (.int (Int32.ofNat len)), .val (.int (Int32.ofNat i)), .val (.int (cv A (o + i)))] [.int (lo8 (cv A (o + i))), .int (Int32.ofNat (q + i)), .ref d])) := c5.trans (by
        refine XS.iload Xl.here hexec rfl (hb hbytes d15) rfl ?_
        refine sipushV Xl.here hexec rfl 255 (hb hbytes d17) (by decide) ?_
        refine XS.icmpYes Xl.here hexec rfl (pc0 := 20) rfl (hb hbytes d20) rfl (ii_le_t (hp i (by omega))) (by decide) rfl ?_
        refine XS.aloadN Xl.here hexec rfl (hb hbytes d26) rfl rfl ?_
        refine XS.iloadN Xl.here hexec rfl (hb hbytes d27) rfl ?_
        refine XS.iload Xl.here hexec rfl (hb hbytes d28) rfl ?_
        refine i2b Xl.here hexec rfl (hb hbytes d30) rfl ?_
        exact Steps.refl _)
      obtain ⟨T7, X7, p7, st7⟩ := Xl.aput hexec hBk rfl hlt rfl (fits_lo8 (cv A (o + i))) (g := (mkF m 31 #[.val (.ref b), .val (.int (Int32.ofNat (o + i))), .val (.ref d), .val (.int (Int32.ofNat (q + i))), .val (.int (Int32.ofNat len)), .val (.int (Int32.ofNat i)), .val (.int (cv A (o + i)))] [.int (lo8 (cv A (o + i))), .int (Int32.ofNat (q + i)), .ref d])) rfl (rest := []) rfl (hb hbytes d31)
      have c8 : Steps p.tables e below (s₁.setTop (entryFrame m #[.ref b, .int (Int32.ofNat o), .ref d, .int (Int32.ofNat q), .int (Int32.ofNat len)] 7)) (T7.setTop (mkF m 32 #[.val (.ref b), .val (.int (Int32.ofNat (o + i))), .val (.ref d), .val (.int (Int32.ofNat (q + i))), .val (.int (Int32.ofNat len)), .val (.int (Int32.ofNat i)), .val (.int (cv A (o + i)))] [])) := c6.trans (st7 _ (Steps.refl _))
      have c9 : Steps p.tables e below (s₁.setTop (entryFrame m #[.ref b, .int (Int32.ofNat o), .ref d, .int (Int32.ofNat q), .int (Int32.ofNat len)] 7)) (T7.setTop (mkF m 3 #[.val (.ref b), .val (.int (Int32.ofNat (o + i) + 1)), .val (.ref d), .val (.int (Int32.ofNat (q + i) + 1)), .val (.int (Int32.ofNat len)), .val (.int (Int32.ofNat i + 1)), .val (.int (cv A (o + i)))] [])) := c8.trans (by
        refine iincV X7.here hexec rfl 1 (hb hbytes d32) (by decide) rfl rfl ?_
        refine iincV X7.here hexec rfl 1 (hb hbytes d35) (by decide) rfl rfl ?_
        refine iincV X7.here hexec rfl 1 (hb hbytes d38) (by decide) rfl rfl ?_
        refine XS.goto X7.here hexec rfl (pc0 := 41) rfl (hb hbytes d41) (by decide) rfl ?_
        exact Steps.refl _)
      have c10 : Steps p.tables e below (s₁.setTop (entryFrame m #[.ref b, .int (Int32.ofNat o), .ref d, .int (Int32.ofNat q), .int (Int32.ofNat len)] 7)) (T7.setTop (mkF m 3 #[.val (.ref b), .val (.int (Int32.ofNat (o + (i + 1)))), .val (.ref d), .val (.int (Int32.ofNat (q + (i + 1)))), .val (.int (Int32.ofNat len)), .val (.int (Int32.ofNat (i + 1))), .val (.int (cv A (o + i)))] [])) := by
        have := c9
        rw [succ32, succ32, succ32] at this
        exact this
      exact ih (i + 1) (by omega) _ (Or.inr ⟨_, rfl, rfl⟩) T7 _ (by rw [copyLocs_step, ← List.append_assoc]; exact X7) (pl.trans p7) (fl.step (by omega) hlt (by simp)) c10
  obtain ⟨T9, B9, z9, X9, p9, f9, g9⟩ := loop len 0 (by omega) .unset (Or.inl rfl) s₁ B (by simpa [copyLocs] using X0) ⟨hB0.1, fun _ _ => rfl, rfl⟩ (Laid.zero _ _ _) c2
  have c11 : Steps p.tables e below (s₁.setTop (entryFrame m #[.ref b, .int (Int32.ofNat o), .ref d, .int (Int32.ofNat q), .int (Int32.ofNat len)] 7)) (T9.setTop (mkF m 46 #[.val (.ref b), .val (.int (Int32.ofNat (o + len))), .val (.ref d), .val (.int (Int32.ofNat (q + len))), .val (.int (Int32.ofNat len)), .val (.int (Int32.ofNat len)), z9] [.int (Int32.ofNat len)])) := g9.trans (by
    refine XS.iload X9.here hexec rfl (hb hbytes d3) rfl ?_
    refine XS.iload X9.here hexec rfl (hb hbytes d5) rfl ?_
    refine XS.icmpYes X9.here hexec rfl (pc0 := 7) rfl (hb hbytes d7) rfl (ii_ge_t (nlt32 (by omega) (Nat.le_refl _))) (by decide) rfl ?_
    refine XS.iload X9.here hexec rfl (hb hbytes d44) rfl ?_
    exact Steps.refl _)
  exact ⟨T9, some (.int (Int32.ofNat len)), _, _, _, X9, by simp, rfl, rfl, (fun h => by cases h), ⟨rfl, B9, p9.from hh0, f9⟩, fun fs hl => c11.trans (X9.ireturnOut hexec hret rfl (Or.inl rfl) (hb hbytes d46) hl)⟩
end Cmp5
namespace Cmp3
def yN : MethodName := ⟨"java/lang/StringUTF16", "compress", "([CII)[B"⟩
abbrev yB : ByteArray := jdk_52_method_16_code
theorem d0 : decode yB 0 = .ok (.iload_n 2, 1) := by decide +kernel
theorem d1 : decode yB 1 = .ok (.newarray .byte, 2) := by decide +kernel
theorem d3 : decode yB 3 = .ok (.astore_n 3, 1) := by decide +kernel
theorem d4 : decode yB 4 = .ok (.aload_n 0, 1) := by decide +kernel
theorem d5 : decode yB 5 = .ok (.iload_n 1, 1) := by decide +kernel
theorem d6 : decode yB 6 = .ok (.aload_n 3, 1) := by decide +kernel
theorem d7 : decode yB 7 = .ok (.iconst 0, 1) := by decide +kernel
theorem d8 : decode yB 8 = .ok (.iload_n 2, 1) := by decide +kernel
theorem d9 : decode yB 9 = .ok (.invokestatic 115, 3) := by decide +kernel
theorem d12 : decode yB 12 = .ok (.istore 4, 2) := by decide +kernel
theorem d14 : decode yB 14 = .ok (.iload 4, 2) := by decide +kernel
theorem d16 : decode yB 16 = .ok (.iload_n 2, 1) := by decide +kernel
theorem d17 : decode yB 17 = .ok (.if_icmp (.eq) 40, 3) := by decide +kernel
theorem d57 : decode yB 57 = .ok (.aload_n 3, 1) := by decide +kernel
theorem d58 : decode yB 58 = .ok (.areturn, 1) := by decide +kernel
def site : List Cond := [.arrayClass .byte, Cmp5.tab] ++ staticW U16 115 Cmp5.yN
def tab : Cond := tabOf yN yB 6 (some (.array .byte)) site
def P (b : Addr) (A : Cell) (o len : Nat) (args : Array Value) (s : State) : Prop := args = #[.ref b, .int (Int32.ofNat o), .int (Int32.ofNat len)] ∧ Ch b A s ∧ o + len ≤ A.slots.size ∧ len ≤ 536870912 ∧ ∀ i, i < len → ¬ 255 < cv A (o + i)
def E (b : Addr) (A : Cell) (o len : Nat) (r : Option Value) (s u : State) : Prop := NewArr .byte "[B" len (fun j => .int (lo8 (cv A (o + j)))) r s u ∧ u.heap.size = s.heap.size + 1
/-- no char of the range above 255: a new byte[] of their low bytes -/
theorem law (l : Launch) (b : Addr) (A : Cell) (o len : Nat) : Law l yN 3 3 1 18 yB 6 (some (.array .byte)) site (P b A o len) (E b A o len) [] 1 len := by
  refine Law.of_walk (plainFor_of_name (by decide +kernel)) (by decide +kernel) (by decide +kernel) (by decide) (fun _ _ h => by rw [h.1]; rfl) (fun _ U U' hal hh h => ⟨h.1, h.2.1.mv hal hh, h.2.2⟩) (fun r U U' V V' h1 hal h2 h => ⟨NewArr.mv r U U' V V' h1 hal h2 h.1, by rw [h1, h2]; exact h.2⟩) ?_
  intro p e s m args below meth c s₁ X0 hexec hbytes hml hret hlk hnm hown hh0 W hP
  obtain ⟨rfl, hA, l1, l2, hp⟩ := hP
  have a31 := hA.1.2.2.2
  have c1 : Steps p.tables e below (s₁.setTop (entryFrame m #[.ref b, .int (Int32.ofNat o), .int (Int32.ofNat len)] 6)) (s₁.setTop (mkF m 0 #[.val (.ref b), .val (.int (Int32.ofNat o)), .val (.int (Int32.ofNat len)), .unset, .unset, .unset] [])) := entry rfl
  have c2 : Steps p.tables e below (s₁.setTop (entryFrame m #[.ref b, .int (Int32.ofNat o), .int (Int32.ofNat len)] 6)) (s₁.setTop (mkF m 1 #[.val (.ref b), .val (.int (Int32.ofNat o)), .val (.int (Int32.ofNat len)), .unset, .unset, .unset] [.int (Int32.ofNat len)])) := c1.trans (by
    refine XS.iloadN X0.here hexec rfl (hb hbytes d0) rfl ?_
    exact Steps.refl _)
  obtain ⟨T3, B3, X3, ba3, bs3, bv3, bh3, bf3, st3⟩ := X0.anew hexec (atype := .byte) (wk W (.arrayClass .byte)) rfl (by show len * 1 ≤ _; omega) (by omega) (g := (mkF m 1 #[.val (.ref b), .val (.int (Int32.ofNat o)), .val (.int (Int32.ofNat len)), .unset, .unset, .unset] [.int (Int32.ofNat len)])) rfl (hb hbytes d1) (rest := []) rfl (Nat.le_refl _) (by show 0 + len ≤ len; omega)
  rw [hh0] at ba3 st3
  have kp3 : XT.Kept s T3 := (XT.Kept.of_eq hh0).push bh3
  have hA3 := hA.keep X3.warmed.alike (kp3 _ _ hA.1.1)
  have hne : b ≠ s.heap.size := hA.1.ne
  have c4 : Steps p.tables e below (s₁.setTop (entryFrame m #[.ref b, .int (Int32.ofNat o), .int (Int32.ofNat len)] 6)) (T3.setTop (mkF m 3 #[.val (.ref b), .val (.int (Int32.ofNat o)), .val (.int (Int32.ofNat len)), .unset, .unset, .unset] [.ref s.heap.size])) := c2.trans (st3 _ (Steps.refl _))
  have c5 : Steps p.tables e below (s₁.setTop (entryFrame m #[.ref b, .int (Int32.ofNat o), .int (Int32.ofNat len)] 6)) (T3.setTop (mkF m 9 #[.val (.ref b), .val (.int (Int32.ofNat o)), .val (.int (Int32.ofNat len)), .val (.ref s.heap.size), .unset, .unset] [.int (Int32.ofNat len), .int 0, .ref s.heap.size, .int (Int32.ofNat o), .ref b])) := c4.trans (by
    refine XS.astoreN X3.here hexec rfl (hb hbytes d3) rfl rfl rfl ?_
    refine XS.aloadN X3.here hexec rfl (hb hbytes d4) rfl rfl ?_
    refine XS.iloadN X3.here hexec rfl (hb hbytes d5) rfl ?_
    refine XS.aloadN X3.here hexec rfl (hb hbytes d6) rfl rfl ?_
    refine iconstV X3.here hexec rfl 0 (hb hbytes d7) (by decide) ?_
    refine XS.iloadN X3.here hexec rfl (hb hbytes d8) rfl ?_
    exact Steps.refl _)
  obtain ⟨v6, T6, X6, E6, g6⟩ := X3.callS hexec (Cmp5.law l b A s.heap.size B3 o 0 len) hown (wks W (staticW U16 115 Cmp5.yN)) (wk W Cmp5.tab) (W := 0) (Nat.le_of_ble_eq_true rfl) (Nat.le_of_ble_eq_true rfl) (Nat.le_refl _) (by show 0 + len + 0 ≤ len; omega) (g := (mkF m 9 #[.val (.ref b), .val (.int (Int32.ofNat o)), .val (.int (Int32.ofNat len)), .val (.ref s.heap.size), .unset, .unset] [.int (Int32.ofNat len), .int (Int32.ofNat 0), .ref s.heap.size, .int (Int32.ofNat o), .ref b])) rfl (by rw [hml]; rfl) c5 (argsL := [.ref b, .int (Int32.ofNat o), .ref s.heap.size, .int (Int32.ofNat 0), .int (Int32.ofNat len)]) (rest := []) rfl rfl (by show 2 * 0 + 0 ≤ _; decide) (hb hbytes d9) (⟨rfl, hA3, ba3, hne, l1, by rw [bs3]; simp, hp⟩)
  obtain ⟨rfl, B6, p6, f6⟩ := E6
  have c7 : Steps p.tables e below (s₁.setTop (entryFrame m #[.ref b, .int (Int32.ofNat o), .int (Int32.ofNat len)] 6)) (T6.setTop (mkF m 12 #[.val (.ref b), .val (.int (Int32.ofNat o)), .val (.int (Int32.ofNat len)), .val (.ref s.heap.size), .unset, .unset] [.int (Int32.ofNat len)])) := g6
  have c8 : Steps p.tables e below (s₁.setTop (entryFrame m #[.ref b, .int (Int32.ofNat o), .int (Int32.ofNat len)] 6)) (T6.setTop (mkF m 58 #[.val (.ref b), .val (.int (Int32.ofNat o)), .val (.int (Int32.ofNat len)), .val (.ref s.heap.size), .val (.int (Int32.ofNat len)), .unset] [.ref s.heap.size])) := c7.trans (by
    refine XS.istore X6.here hexec rfl (hb hbytes d12) rfl rfl ?_
    refine XS.iload X6.here hexec rfl (hb hbytes d14) rfl ?_
    refine XS.iloadN X6.here hexec rfl (hb hbytes d16) rfl ?_
    refine XS.icmpYes X6.here hexec rfl (pc0 := 17) rfl (hb hbytes d17) rfl (ii_eq_t rfl) (by decide) rfl ?_
    refine XS.aloadN X6.here hexec rfl (hb hbytes d57) rfl rfl ?_
    exact Steps.refl _)
  have X8 := X6.wide (L' := []) (cells' := 1) (slots' := len) (fun x hx hlt => by
    simp only [List.nil_append, copyLocs, List.mem_map, List.mem_range] at hx
    obtain ⟨i, -, rfl⟩ := hx
    exact absurd hlt (Nat.lt_irrefl _)) (Nat.le_refl _) (by omega)
  exact ⟨T6, some (.ref s.heap.size), _, _, _, X8, rfl, rfl, rfl, (fun h => by cases h), ⟨⟨rfl, B6, ba3.like (X3.warmed.alike.symm.trans X6.warmed.alike) p6.1 f6.1 f6.2.1 f6.2.2.1, f6.2.1.trans bv3, by rw [X6.warmed.alike.findClass, f6.1]; exact bf3, by rw [f6.2.2.1, bs3]; simp, fun j hj => by rw [f6.2.2.2 j, if_pos (by omega)]; rfl, kp3.put p6 (Nat.le_refl _)⟩, by rw [p6.2.2, bh3, hh0]; simp⟩, fun fs hl => c8.trans (X8.areturnOut hexec rfl hret rfl (hb hbytes d58) hl)⟩
end Cmp3
namespace CodL
def yN : MethodName := ⟨"java/lang/StringUTF16", "coderFromArrayLen", "([BI)B"⟩
abbrev yB : ByteArray := jdk_52_method_15_code
theorem d0 : decode yB 0 = .ok (.iload_n 1, 1) := by decide +kernel
theorem d1 : decode yB 1 = .ok (.aload_n 0, 1) := by decide +kernel
theorem d2 : decode yB 2 = .ok (.arraylength, 1) := by decide +kernel
theorem d3 : decode yB 3 = .ok (.isub, 1) := by decide +kernel
theorem d4 : decode yB 4 = .ok (.bipush 31, 2) := by decide +kernel
theorem d6 : decode yB 6 = .ok (.iushr, 1) := by decide +kernel
theorem d7 : decode yB 7 = .ok (.i2b, 1) := by decide +kernel
theorem d8 : decode yB 8 = .ok (.ireturn, 1) := by decide +kernel
def site : List Cond := []
def tab : Cond := tabOf yN yB 2 (some .byte) site
def P (d : Addr) (B : Cell) (args : Array Value) (s : State) : Prop := args = #[.ref d, .int (Int32.ofNat B.slots.size)] ∧ Arr .byte d B s
def E (r : Option Value) (s u : State) : Prop := XT.PureE (some (.int 0)) r s u
/-- an array as long as the number of chars: LATIN1 -/
theorem law (l : Launch) (d : Addr) (B : Cell) : Law l yN 2 2 0 0 yB 2 (some .byte) site (P d B) E [] 0 0 := by
  refine Law.of_walk (plainFor_of_name (by decide +kernel)) (by decide +kernel) (by decide +kernel) (by decide) (fun _ _ h => by rw [h.1]; rfl) (fun _ U U' hal hh h => ⟨h.1, h.2.mv hal hh⟩) (fun r U U' V V' h1 hal h2 h => XT.PureE.mv r U U' V V' h1 hal h2 h) ?_
  intro p e s m args below meth c s₁ X0 hexec hbytes hml hret hlk hnm hown hh0 W hP
  obtain ⟨rfl, hB⟩ := hP
  have hB0 := hB.mv X0.warmed.alike hh0
  have c1 : Steps p.tables e below (s₁.setTop (entryFrame m #[.ref d, .int (Int32.ofNat B.slots.size)] 2)) (s₁.setTop (mkF m 0 #[.val (.ref d), .val (.int (Int32.ofNat B.slots.size))] [])) := entry rfl
  have c2 : Steps p.tables e below (s₁.setTop (entryFrame m #[.ref d, .int (Int32.ofNat B.slots.size)] 2)) (s₁.setTop (mkF m 2 #[.val (.ref d), .val (.int (Int32.ofNat B.slots.size))] [.ref d, .int (Int32.ofNat B.slots.size)])) := c1.trans (by
    refine XS.iloadN X0.here hexec rfl (hb hbytes d0) rfl ?_
    refine XS.aloadN X0.here hexec rfl (hb hbytes d1) rfl rfl ?_
    exact Steps.refl _)
  have c3 : Steps p.tables e below (s₁.setTop (entryFrame m #[.ref d, .int (Int32.ofNat B.slots.size)] 2)) (s₁.setTop (mkF m 8 #[.val (.ref d), .val (.int (Int32.ofNat B.slots.size))] [.int (lo8 (ushr (Int32.ofNat B.slots.size - Int32.ofNat B.slots.size) 31))])) := c2.trans (by
    refine X0.alen hexec hB0 rfl rfl (hb hbytes d2) ?_
    refine XS.isub X0.here hexec rfl (hb hbytes d3) rfl ?_
    refine bipushV X0.here hexec rfl 31 (hb hbytes d4) (by decide) ?_
    refine iushr X0.here hexec rfl (hb hbytes d6) rfl ?_
    refine i2b X0.here hexec rfl (hb hbytes d7) rfl ?_
    exact Steps.refl _)
  have e0 : lo8 (ushr (Int32.ofNat B.slots.size - Int32.ofNat B.slots.size) 31) = 0 := by rw [Int32.sub_self]; decide
  rw [e0] at c3
  exact ⟨s₁, some (.int 0), _, _, _, X0, rfl, rfl, rfl, (fun h => by cases h), ⟨rfl, hh0⟩, fun fs hl => c3.trans (X0.ireturnOut hexec hret rfl (Or.inr (Or.inr (Or.inl rfl))) (hb hbytes d8) hl)⟩
end CodL
/-- the String at a is Latin-1 over a new byte[] (the heap's one new cell): the low bytes of the len chars of A from o on; every cell but a is kept -/
def Got (a : Addr) (D : Cell) (fV fC : Field) (A : Cell) (o len : Nat) (r : Option Value) (s u : State) : Prop := r = none ∧ ∃ D' V : Cell, Blank "java/lang/String" a D' u ∧ Same D D' [fV.slot, fC.slot] ∧ D'.slots[fV.slot]? = some (.ref s.heap.size) ∧ D'.slots[fC.slot]? = some (.int 0) ∧ Arr .byte s.heap.size V u ∧ V.vm = .none ∧ u.vm.findClass "[B" = some V.cls ∧ V.slots.size = len ∧ (∀ j, j < len → V.slots[j]? = some (.int (lo8 (cv A (o + j))))) ∧ (∀ (y : Addr) (c : Cell), y ≠ a → s.heap[y]? = some c → u.heap[y]? = some c) ∧ u.heap.size = s.heap.size + 1
theorem Got.mv {a : Addr} {D A : Cell} {fV fC : Field} {o len : Nat} : ∀ r (U U' V V' : State), U'.heap = U.heap → V.vm.Alike V'.vm → V'.heap = V.heap → Got a D fV fC A o len r U V → Got a D fV fC A o len r U' V' :=
  fun r U U' V V' h1 hal h2 ⟨e0, D', X, a1, a2, a3, a4, a5, a6, a7, a8, a9, a10, a11⟩ => ⟨e0, D', X, a1.mv hal h2, a2, by rw [h1]; exact a3, a4, by rw [h1]; exact a5.mv hal h2, a6, by rw [hal.findClass]; exact a7, a8, a9, by rw [h1, h2]; exact a10, by rw [h1, h2]; exact a11⟩
namespace New4
def yN : MethodName := ⟨"java/lang/String", "<init>", "([CIILjava/lang/Void;)V"⟩
abbrev yB : ByteArray := jdk_42_method_149_code
theorem d0 : decode yB 0 = .ok (.aload_n 0, 1) := by decide +kernel
theorem d1 : decode yB 1 = .ok (.invokespecial 1, 3) := by decide +kernel
theorem d4 : decode yB 4 = .ok (.iload_n 3, 1) := by decide +kernel
theorem d5 : decode yB 5 = .ok (.ifCond (.ne) 22, 3) := by decide +kernel
theorem d27 : decode yB 27 = .ok (.getstatic 38, 3) := by decide +kernel
theorem d30 : decode yB 30 = .ok (.ifCond (.eq) 28, 3) := by decide +kernel
theorem d33 : decode yB 33 = .ok (.aload_n 1, 1) := by decide +kernel
theorem d34 : decode yB 34 = .ok (.iload_n 2, 1) := by decide +kernel
theorem d35 : decode yB 35 = .ok (.iload_n 3, 1) := by decide +kernel
theorem d36 : decode yB 36 = .ok (.invokestatic 177, 3) := by decide +kernel
theorem d39 : decode yB 39 = .ok (.astore 5, 2) := by decide +kernel
theorem d41 : decode yB 41 = .ok (.aload_n 0, 1) := by decide +kernel
theorem d42 : decode yB 42 = .ok (.aload 5, 2) := by decide +kernel
theorem d44 : decode yB 44 = .ok (.iload_n 3, 1) := by decide +kernel
theorem d45 : decode yB 45 = .ok (.invokestatic 47, 3) := by decide +kernel
theorem d48 : decode yB 48 = .ok (.putfield 15, 3) := by decide +kernel
theorem d51 : decode yB 51 = .ok (.aload_n 0, 1) := by decide +kernel
theorem d52 : decode yB 52 = .ok (.aload 5, 2) := by decide +kernel
theorem d54 : decode yB 54 = .ok (.putfield 9, 3) := by decide +kernel
theorem d57 : decode yB 57 = .ok (.return_, 1) := by decide +kernel
def site : List Cond := [.fieldLink "java/lang/String" 38 "java/lang/String" "COMPACT_STRINGS" "Z", Cmp3.tab, CodL.tab, .laysFinal "java/lang/String" "java/lang/String" "value" "[B", .fieldLink "java/lang/String" 9 "java/lang/String" "value" "[B", .laysFinal "java/lang/String" "java/lang/String" "coder" "B", .fieldLink "java/lang/String" 15 "java/lang/String" "coder" "B"] ++ objW "java/lang/String" 1 ++ staticW "java/lang/String" 177 Cmp3.yN ++ staticW "java/lang/String" 47 CodL.yN
def tab : Cond := tabOf yN yB 6 none site
def P (a : Addr) (D : Cell) (fV fC : Field) (b : Addr) (A : Cell) (z : Int32) (o len : Nat) (args : Array Value) (s : State) : Prop := args = #[.ref a, .ref b, .int (Int32.ofNat o), .int (Int32.ofNat len), .null] ∧ Blank "java/lang/String" a D s ∧ Found "java/lang/String" "value" "[B" fV s ∧ Found "java/lang/String" "coder" "B" fC s ∧ Ch b A s ∧ StaticIs s "java/lang/String" "COMPACT_STRINGS" "Z" (.int z) ∧ ¬ z = 0 ∧ 0 < len ∧ o + len ≤ A.slots.size ∧ len ≤ 536870912 ∧ ∀ i, i < len → ¬ 255 < cv A (o + i)
def E (a : Addr) (D : Cell) (fV fC : Field) (A : Cell) (o len : Nat) (r : Option Value) (s u : State) : Prop := Got a D fV fC A o len r s u
/-- len > 0, no char of the range above 255: a Latin-1 String of their low bytes -/
theorem law (l : Launch) (a : Addr) (D : Cell) (fV fC : Field) (b : Addr) (A : Cell) (z : Int32) (o len : Nat) : Law l yN 5 4 2 35 yB 6 none site (P a D fV fC b A z o len) (E a D fV fC A o len) [⟨a, fC.slot⟩, ⟨a, fV.slot⟩] 1 len := by
  refine Law.of_walk (plainFor_of_name (by decide +kernel)) (by decide +kernel) (by decide +kernel) (by decide) (fun _ _ h => by rw [h.1]; rfl) (fun _ U U' hal hh h => ⟨h.1, h.2.1.mv hal hh, h.2.2.1.al hal, h.2.2.2.1.al hal, h.2.2.2.2.1.mv hal hh, h.2.2.2.2.2.1.there hal hh, h.2.2.2.2.2.2⟩) (fun r U U' V V' h1 hal h2 h => Got.mv r U U' V V' h1 hal h2 h) ?_
  intro p e s m args below meth c s₁ X0 hexec hbytes hml hret hlk hnm hown hh0 W hP
  obtain ⟨rfl, hB, f1, f2, hA, s1, hz, l0, l1, l2, hp⟩ := hP
  have a31 := hA.1.2.2.2
  have c1 : Steps p.tables e below (s₁.setTop (entryFrame m #[.ref a, .ref b, .int (Int32.ofNat o), .int (Int32.ofNat len), .null] 6)) (s₁.setTop (mkF m 0 #[.val (.ref a), .val (.ref b), .val (.int (Int32.ofNat o)), .val (.int (Int32.ofNat len)), .val .null, .unset] [])) := entry rfl
  have c2 : Steps p.tables e below (s₁.setTop (entryFrame m #[.ref a, .ref b, .int (Int32.ofNat o), .int (Int32.ofNat len), .null] 6)) (s₁.setTop (mkF m 1 #[.val (.ref a), .val (.ref b), .val (.int (Int32.ofNat o)), .val (.int (Int32.ofNat len)), .val .null, .unset] [.ref a])) := c1.trans (by
    refine XS.aloadN X0.here hexec rfl (hb hbytes d0) rfl rfl ?_
    exact Steps.refl _)
  obtain ⟨T3, X3, q3, st3⟩ := X0.oinit hexec hown (wks W (objW "java/lang/String" 1)) (g := (mkF m 1 #[.val (.ref a), .val (.ref b), .val (.int (Int32.ofNat o)), .val (.int (Int32.ofNat len)), .val .null, .unset] [.ref a])) rfl (by rw [hml]; rfl) (rest := []) rfl (hb hbytes d1) (W := 0) (by show 2 * 0 + 0 ≤ _; decide) (Nat.le_of_ble_eq_true rfl) (Nat.le_of_ble_eq_true rfl)
  have hh3 := q3.trans hh0
  have c4 : Steps p.tables e below (s₁.setTop (entryFrame m #[.ref a, .ref b, .int (Int32.ofNat o), .int (Int32.ofNat len), .null] 6)) (T3.setTop (mkF m 27 #[.val (.ref a), .val (.ref b), .val (.int (Int32.ofNat o)), .val (.int (Int32.ofNat len)), .val .null, .unset] [])) := (c2.trans (st3 _ (Steps.refl _))).trans (by
    refine XS.iloadN X3.here hexec rfl (hb hbytes d4) rfl ?_
    refine XS.ifYes X3.here hexec rfl (pc0 := 5) rfl (hb hbytes d5) rfl (i0_ne_t (nz32 (by omega) l0)) (by decide) rfl ?_
    exact Steps.refl _)
  obtain ⟨T5, X5, q5, st5⟩ := X3.sget hexec hown (wk W (.fieldLink "java/lang/String" 38 "java/lang/String" "COMPACT_STRINGS" "Z")) s1 (fun _ _ h => by rw [hh3]; exact h) (g := (mkF m 27 #[.val (.ref a), .val (.ref b), .val (.int (Int32.ofNat o)), .val (.int (Int32.ofNat len)), .val .null, .unset] [])) rfl (hb hbytes d27)
  have hh5 := q5.trans hh3
  have c6 : Steps p.tables e below (s₁.setTop (entryFrame m #[.ref a, .ref b, .int (Int32.ofNat o), .int (Int32.ofNat len), .null] 6)) (T5.setTop (mkF m 30 #[.val (.ref a), .val (.ref b), .val (.int (Int32.ofNat o)), .val (.int (Int32.ofNat len)), .val .null, .unset] [.int z])) := c4.trans (st5 _ (Steps.refl _))
  have c7 : Steps p.tables e below (s₁.setTop (entryFrame m #[.ref a, .ref b, .int (Int32.ofNat o), .int (Int32.ofNat len), .null] 6)) (T5.setTop (mkF m 36 #[.val (.ref a), .val (.ref b), .val (.int (Int32.ofNat o)), .val (.int (Int32.ofNat len)), .val .null, .unset] [.int (Int32.ofNat len), .int (Int32.ofNat o), .ref b])) := c6.trans (by
    refine XS.ifNo X5.here hexec rfl (hb hbytes d30) rfl (i0_eq_f hz) ?_
    refine XS.aloadN X5.here hexec rfl (hb hbytes d33) rfl rfl ?_
    refine XS.iloadN X5.here hexec rfl (hb hbytes d34) rfl ?_
    refine XS.iloadN X5.here hexec rfl (hb hbytes d35) rfl ?_
    exact Steps.refl _)
  obtain ⟨v8, T8, X8, E8, g8⟩ := X5.callS hexec (Cmp3.law l b A o len) hown (wks W (staticW "java/lang/String" 177 Cmp3.yN)) (wk W Cmp3.tab) (W := 0) (Nat.le_of_ble_eq_true rfl) (Nat.le_of_ble_eq_true rfl) (Nat.le_refl _) (by show 0 + len ≤ len; omega) (g := (mkF m 36 #[.val (.ref a), .val (.ref b), .val (.int (Int32.ofNat o)), .val (.int (Int32.ofNat len)), .val .null, .unset] [.int (Int32.ofNat len), .int (Int32.ofNat o), .ref b])) rfl (by rw [hml]; rfl) c7 (argsL := [.ref b, .int (Int32.ofNat o), .int (Int32.ofNat len)]) (rest := []) rfl rfl (by show 2 * 0 + 0 ≤ _; decide) (hb hbytes d36) (⟨rfl, hA.mv X5.warmed.alike hh5, l1, l2, hp⟩)
  obtain ⟨e8, z8⟩ := E8
  obtain ⟨rfl, N, n1, n2, n3, n4, n5, n6⟩ := NewArr.mv _ T5 s _ _ hh5.symm (Vm.Alike.refl _) rfl e8
  rw [hh5] at z8
  have hB1 := hB.keep X8.warmed.alike (n6 _ _ hB.1)
  have hne : s.heap.size ≠ a := (Nat.ne_of_lt (Array.getElem?_eq_some_iff.mp hB.1).1).symm
  have c9 : Steps p.tables e below (s₁.setTop (entryFrame m #[.ref a, .ref b, .int (Int32.ofNat o), .int (Int32.ofNat len), .null] 6)) (T8.setTop (mkF m 39 #[.val (.ref a), .val (.ref b), .val (.int (Int32.ofNat o)), .val (.int (Int32.ofNat len)), .val .null, .unset] [.ref s.heap.size])) := g8
  have c10 : Steps p.tables e below (s₁.setTop (entryFrame m #[.ref a, .ref b, .int (Int32.ofNat o), .int (Int32.ofNat len), .null] 6)) (T8.setTop (mkF m 45 #[.val (.ref a), .val (.ref b), .val (.int (Int32.ofNat o)), .val (.int (Int32.ofNat len)), .val .null, .val (.ref s.heap.size)] [.int (Int32.ofNat N.slots.size), .ref s.heap.size, .ref a])) := by
    have hc : Steps p.tables e below (s₁.setTop (entryFrame m #[.ref a, .ref b, .int (Int32.ofNat o), .int (Int32.ofNat len), .null] 6)) (T8.setTop (mkF m 45 #[.val (.ref a), .val (.ref b), .val (.int (Int32.ofNat o)), .val (.int (Int32.ofNat len)), .val .null, .val (.ref s.heap.size)] [.int (Int32.ofNat len), .ref s.heap.size, .ref a])) := c9.trans (by
      refine XS.astore X8.here hexec rfl (hb hbytes d39) rfl rfl rfl ?_
      refine XS.aloadN X8.here hexec rfl (hb hbytes d41) rfl rfl ?_
      refine XS.aload X8.here hexec rfl (hb hbytes d42) rfl rfl ?_
      refine XS.iloadN X8.here hexec rfl (hb hbytes d44) rfl ?_
      exact Steps.refl _)
    rw [n4]; exact hc
  obtain ⟨v11, T11, X11, E11, g11⟩ := X8.callS hexec (CodL.law l s.heap.size N) hown (wks W (staticW "java/lang/String" 47 CodL.yN)) (wk W CodL.tab) (W := 1) (Nat.le_of_ble_eq_true rfl) (Nat.le_of_ble_eq_true rfl) (Nat.le_refl _) (by show 0 + len + 0 ≤ len; omega) (g := (mkF m 45 #[.val (.ref a), .val (.ref b), .val (.int (Int32.ofNat o)), .val (.int (Int32.ofNat len)), .val .null, .val (.ref s.heap.size)] [.int (Int32.ofNat N.slots.size), .ref s.heap.size, .ref a])) rfl (by rw [hml]; rfl) c10 (argsL := [.ref s.heap.size, .int (Int32.ofNat N.slots.size)]) (rest := [.ref a]) rfl rfl (by show 2 * 0 + (1 + 0) ≤ _; decide) (hb hbytes d45) (⟨rfl, n1⟩)
  obtain ⟨rfl, q11⟩ := E11
  have hB11 := hB1.mv (X8.warmed.alike.symm.trans X11.warmed.alike) q11
  have c12 : Steps p.tables e below (s₁.setTop (entryFrame m #[.ref a, .ref b, .int (Int32.ofNat o), .int (Int32.ofNat len), .null] 6)) (T11.setTop (mkF m 48 #[.val (.ref a), .val (.ref b), .val (.int (Int32.ofNat o)), .val (.int (Int32.ofNat len)), .val .null, .val (.ref s.heap.size)] [.int 0, .ref a])) := g11
  obtain ⟨T13, X13, p13, bl13, sl13, st13⟩ := X11.finit hexec hown (wk W (.fieldLink "java/lang/String" 15 "java/lang/String" "coder" "B")) (Or.inr ⟨_, (wk W (.laysFinal "java/lang/String" "java/lang/String" "coder" "B"))⟩) (Or.inl ⟨rfl, hnm⟩) f2 (Or.inl rfl) hB11 (t := .byte) (by decide +kernel) rfl (g := (mkF m 48 #[.val (.ref a), .val (.ref b), .val (.int (Int32.ofNat o)), .val (.int (Int32.ofNat len)), .val .null, .val (.ref s.heap.size)] [.int 0, .ref a])) rfl (rest := []) rfl (hb hbytes d48)
  have c14 : Steps p.tables e below (s₁.setTop (entryFrame m #[.ref a, .ref b, .int (Int32.ofNat o), .int (Int32.ofNat len), .null] 6)) (T13.setTop (mkF m 54 #[.val (.ref a), .val (.ref b), .val (.int (Int32.ofNat o)), .val (.int (Int32.ofNat len)), .val .null, .val (.ref s.heap.size)] [.ref s.heap.size, .ref a])) := (c12.trans (st13 _ (Steps.refl _))).trans (by
    refine XS.aloadN X13.here hexec rfl (hb hbytes d51) rfl rfl ?_
    refine XS.aload X13.here hexec rfl (hb hbytes d52) rfl rfl ?_
    exact Steps.refl _)
  obtain ⟨T15, X15, p15, bl15, sl15, st15⟩ := X13.finit hexec hown (wk W (.fieldLink "java/lang/String" 9 "java/lang/String" "value" "[B")) (Or.inr ⟨_, (wk W (.laysFinal "java/lang/String" "java/lang/String" "value" "[B"))⟩) (Or.inl ⟨rfl, hnm⟩) f1 (Or.inl rfl) bl13 (t := (.array .byte)) (by decide +kernel) rfl (g := (mkF m 54 #[.val (.ref a), .val (.ref b), .val (.int (Int32.ofNat o)), .val (.int (Int32.ofNat len)), .val .null, .val (.ref s.heap.size)] [.ref s.heap.size, .ref a])) rfl (rest := []) rfl (hb hbytes d54)
  have c16 : Steps p.tables e below (s₁.setTop (entryFrame m #[.ref a, .ref b, .int (Int32.ofNat o), .int (Int32.ofNat len), .null] 6)) (T15.setTop (mkF m 57 #[.val (.ref a), .val (.ref b), .val (.int (Int32.ofNat o)), .val (.int (Int32.ofNat len)), .val .null, .val (.ref s.heap.size)] [])) := c14.trans (st15 _ (Steps.refl _))
  have ap := apart (Or.inr ⟨_, (wk W (.laysFinal "java/lang/String" "java/lang/String" "value" "[B"))⟩) (Or.inr ⟨_, (wk W (.laysFinal "java/lang/String" "java/lang/String" "coder" "B"))⟩) f1 f2 (t₁ := .array .byte) (t₂ := .byte) (by decide +kernel) (by decide +kernel) (by decide)
  have al := X8.warmed.alike.symm.trans X15.warmed.alike
  have n7 : T11.heap[s.heap.size]? = some N := by rw [q11]; exact n1.1
  exact ⟨T15, none, _, _, _, X15, by simp, rfl, by omega, (fun _ => rfl), ⟨rfl, _, N, bl15, ((Same.refl D _).set _ (by simp)).set _ (by simp), sl15, (Cell.slots_setSlot_ne _ ap).trans sl13, n1.keep al (p15.other hne (p13.other hne n7)), n2, by rw [al.findClass]; exact n3, n4, n5, fun y c h1 h2 => p15.other h1 (p13.other h1 (by rw [q11]; exact n6 y c h2)), by rw [p15.2.2, p13.2.2, q11]; exact z8⟩, fun fs hl => c16.trans (X15.returnOut hexec hret (hb hbytes d57) hl)⟩
end New4
namespace New1
def yN : MethodName := ⟨"java/lang/String", "<init>", "([C)V"⟩
abbrev yB : ByteArray := jdk_42_method_3_code
theorem d0 : decode yB 0 = .ok (.aload_n 0, 1) := by decide +kernel
theorem d1 : decode yB 1 = .ok (.aload_n 1, 1) := by decide +kernel
theorem d2 : decode yB 2 = .ok (.iconst 0, 1) := by decide +kernel
theorem d3 : decode yB 3 = .ok (.aload_n 1, 1) := by decide +kernel
theorem d4 : decode yB 4 = .ok (.arraylength, 1) := by decide +kernel
theorem d5 : decode yB 5 = .ok (.aconst_null, 1) := by decide +kernel
theorem d6 : decode yB 6 = .ok (.invokespecial 27, 3) := by decide +kernel
theorem d9 : decode yB 9 = .ok (.return_, 1) := by decide +kernel
def site : List Cond := [New4.tab] ++ initW "java/lang/String" 27 New4.yN
def tab : Cond := tabOf yN yB 2 none site
def P (a : Addr) (D : Cell) (fV fC : Field) (b : Addr) (A : Cell) (z : Int32) (args : Array Value) (s : State) : Prop := args = #[.ref a, .ref b] ∧ Blank "java/lang/String" a D s ∧ Found "java/lang/String" "value" "[B" fV s ∧ Found "java/lang/String" "coder" "B" fC s ∧ Ch b A s ∧ StaticIs s "java/lang/String" "COMPACT_STRINGS" "Z" (.int z) ∧ ¬ z = 0 ∧ 0 < A.slots.size ∧ A.slots.size ≤ 536870912 ∧ ∀ i, i < A.slots.size → ¬ 255 < cv A i
def E (a : Addr) (D : Cell) (fV fC : Field) (A : Cell) (r : Option Value) (s u : State) : Prop := Got a D fV fC A 0 A.slots.size r s u
/-- new String(chars), not empty, no char above 255: a Latin-1 String of their low bytes -/
theorem law (l : Launch) (a : Addr) (D : Cell) (fV fC : Field) (b : Addr) (A : Cell) (z : Int32) : Law l yN 2 1 3 52 yB 2 none site (P a D fV fC b A z) (E a D fV fC A) [⟨a, fC.slot⟩, ⟨a, fV.slot⟩] 1 A.slots.size := by
  refine Law.of_walk (plainFor_of_name (by decide +kernel)) (by decide +kernel) (by decide +kernel) (by decide) (fun _ _ h => by rw [h.1]; rfl) (fun _ U U' hal hh h => ⟨h.1, h.2.1.mv hal hh, h.2.2.1.al hal, h.2.2.2.1.al hal, h.2.2.2.2.1.mv hal hh, h.2.2.2.2.2.1.there hal hh, h.2.2.2.2.2.2⟩) (fun r U U' V V' h1 hal h2 h => Got.mv r U U' V V' h1 hal h2 h) ?_
  intro p e s m args below meth c s₁ X0 hexec hbytes hml hret hlk hnm hown hh0 W hP
  obtain ⟨rfl, hB, f1, f2, hA, s1, hz, l0, l2, hp⟩ := hP
  have c1 : Steps p.tables e below (s₁.setTop (entryFrame m #[.ref a, .ref b] 2)) (s₁.setTop (mkF m 0 #[.val (.ref a), .val (.ref b)] [])) := entry rfl
  have c2 : Steps p.tables e below (s₁.setTop (entryFrame m #[.ref a, .ref b] 2)) (s₁.setTop (mkF m 6 #[.val (.ref a), .val (.ref b)] [.null, .int (Int32.ofNat A.slots.size), .int 0, .ref b, .ref a])) := c1.trans (by
    refine XS.aloadN X0.here hexec rfl (hb hbytes d0) rfl rfl ?_
    refine XS.aloadN X0.here hexec rfl (hb hbytes d1) rfl rfl ?_
    refine iconstV X0.here hexec rfl 0 (hb hbytes d2) (by decide) ?_
    refine XS.aloadN X0.here hexec rfl (hb hbytes d3) rfl rfl ?_
    refine X0.alen hexec (hA.1.mv X0.warmed.alike hh0) rfl rfl (hb hbytes d4) ?_
    refine XS.aconstNull X0.here hexec rfl (hb hbytes d5) ?_
    exact Steps.refl _)
  obtain ⟨v3, T3, X3, E3, g3⟩ := X0.callN hexec (New4.law l a D fV fC b A z 0 A.slots.size) rfl hown (wks W (initW "java/lang/String" 27 New4.yN)) (W New4.tab (by simp only [site, List.mem_cons, List.mem_append, true_or, or_true])) (W := 0) (Nat.le_of_ble_eq_true rfl) (Nat.le_of_ble_eq_true rfl) (Nat.le_refl _) (by show 0 + A.slots.size ≤ A.slots.size; omega) (g := (mkF m 6 #[.val (.ref a), .val (.ref b)] [.null, .int (Int32.ofNat A.slots.size), .int (Int32.ofNat 0), .ref b, .ref a])) rfl (by rw [hml]; rfl) c2 (argsL := [.ref b, .int (Int32.ofNat 0), .int (Int32.ofNat A.slots.size), .null]) (rest := []) rfl rfl (by show 2 * 0 + 0 ≤ _; decide) (hb hbytes d6) (⟨rfl, hB.mv X0.warmed.alike hh0, f1.al X0.warmed.alike, f2.al X0.warmed.alike, hA.mv X0.warmed.alike hh0, s1.there X0.warmed.alike hh0, hz, l0, by omega, l2, fun i hi => by rw [Nat.zero_add]; exact hp i hi⟩)
  have e0 := Got.mv _ s₁ s _ _ hh0.symm (Vm.Alike.refl _) rfl E3
  obtain rfl := e0.1
  have c4 : Steps p.tables e below (s₁.setTop (entryFrame m #[.ref a, .ref b] 2)) (T3.setTop (mkF m 9 #[.val (.ref a), .val (.ref b)] [])) := g3
  exact ⟨T3, none, _, _, _, X3, by simp, rfl, by omega, (fun _ => rfl), e0, fun fs hl => c4.trans (X3.returnOut hexec hret (hb hbytes d9) hl)⟩
theorem pays {l : Launch} {R : Room} {p : Program} {e : Env} {below : List Frame} {s : State} {sargs : Array Value} {len W : Nat} (a : Addr) (D : Cell) (fV fC : Field) (b : Addr) (A : Cell) (z : Int32) (htab : tab.before sargs s = true) (hfr : 4 ≤ R.frames) (hlo : W + 65 ≤ R.locals) :
    Back l R p e below s sargs yN len W (fun A₁ a₁ => A₁.cells + 1 ≤ R.cells ∧ A₁.slots + A.slots.size ≤ R.slots ∧ P a D fV fC b A z a₁ A₁.U) (fun A₁ _ v₁ B₁ => E a D fV fC A v₁ A₁.U B₁.U ∧ B₁.locs = A₁.locs ++ [⟨a, fC.slot⟩, ⟨a, fV.slot⟩] ∧ B₁.cells = A₁.cells + 1 ∧ B₁.slots = A₁.slots + A.slots.size) :=
  (law l a D fV fC b A z).pays htab hfr (by omega)
end New1
/-- the byte, read back as charAt reads it, is the char -/
theorem lo8_mask {x : Int32} (h0 : ¬ x < 0) (h1 : ¬ 255 < x) : lo8 x &&& 255 = x := by
  have t : ∀ k : Fin 256, lo8 (Int32.ofNat k.val) &&& 255 = Int32.ofNat k.val := by decide +kernel
  rw [Int32.lt_iff_toInt_lt] at h0 h1
  have e0 : (0 : Int32).toInt = 0 := rfl
  have e1 : (255 : Int32).toInt = 255 := rfl
  obtain ⟨k, hk⟩ : ∃ k : Nat, x.toInt = k := ⟨x.toInt.toNat, by omega⟩
  have hx : x = Int32.ofNat k := Int32.toInt_inj.mp (by rw [hk, Int32.toInt_ofNat_small (by omega)])
  rw [hx]
  exact t ⟨k, by omega⟩
end StrChars
namespace StrChars.Road
open Jvm Sem ClassFile Op Lib Jvm.Stand Jvm.Free Jvm.Free.XT
open Jvm.Lib.Cold (StaticIs)
abbrev ST : String := "java/lang/String"
/-- every table word that New1's law asks, flat -/
abbrev words : List Jvm.Cond := [.code New1.yN New1.yB 2 none, .initialized ST, .methodLink ST 27 New4.yN, .instanceMethod New4.yN,
  .code New4.yN New4.yB 6 none, .fieldLink ST 38 ST "COMPACT_STRINGS" "Z", .laysFinal ST ST "value" "[B", .fieldLink ST 9 ST "value" "[B", .laysFinal ST ST "coder" "B", .fieldLink ST 15 ST "coder" "B",
  .methodLink ST 1 Lib.objectInit, .instanceMethod Lib.objectInit, .code Lib.objectInit ⟨#[0xb1]⟩ 1 none, .methodLink ST 177 Cmp3.yN, .static Cmp3.yN, .methodLink ST 47 CodL.yN, .static CodL.yN,
  .code Cmp3.yN Cmp3.yB 6 (some (.array .byte)), .initialized U16, .arrayClass .byte, .methodLink U16 115 Cmp5.yN, .static Cmp5.yN, .code Cmp5.yN Cmp5.yB 7 (some .int), .code CodL.yN CodL.yB 2 (some .byte)]
theorem tab_of {a : Array Value} {s : State} (h : ∀ w ∈ words, w.before a s = true) : New1.tab.before a s = true := by
  have h5 : Cmp5.tab.before a s = true := unparts (wk h (.code Cmp5.yN Cmp5.yB 7 (some .int))) (wks h (.initialized Cmp5.yN.cls :: Cmp5.site))
  have hc : CodL.tab.before a s = true := unparts (wk h (.code CodL.yN CodL.yB 2 (some .byte))) (wks h (.initialized CodL.yN.cls :: CodL.site))
  have q5 : ∀ w ∈ Cmp5.tab :: words, w.before a s = true := fun w hw => (List.mem_cons.mp hw).elim (fun e => e ▸ h5) (h w)
  have h3 : Cmp3.tab.before a s = true := unparts (wk q5 (.code Cmp3.yN Cmp3.yB 6 (some (.array .byte)))) (wks q5 (.initialized Cmp3.yN.cls :: Cmp3.site))
  have q3 : ∀ w ∈ Cmp3.tab :: CodL.tab :: words, w.before a s = true := fun w hw => (List.mem_cons.mp hw).elim (fun e => e ▸ h3) fun hw => (List.mem_cons.mp hw).elim (fun e => e ▸ hc) (h w)
  have h4 : New4.tab.before a s = true := unparts (wk q3 (.code New4.yN New4.yB 6 none)) (wks q3 (.initialized New4.yN.cls :: New4.site))
  have q4 : ∀ w ∈ New4.tab :: words, w.before a s = true := fun w hw => (List.mem_cons.mp hw).elim (fun e => e ▸ h4) (h w)
  exact unparts (wk q4 (.code New1.yN New1.yB 2 none)) (wks q4 (.initialized New1.yN.cls :: New1.site))
/-- the words ride from the start Z to the walk's own state -/
theorem moved {Z s : State} {a0 args : Array Value} (hZ : Z.Warmed39 s.vm) (hw : ∀ d ∈ words, d.before a0 Z = true) : ∀ d ∈ words, d.before args s = true := fun d hd => by
  have q := hw d hd
  have t : ∀ d ∈ words, d = .arrayClass .byte ∨ (d.onTables && d.keepsFace) = true := by decide +kernel
  rcases t d hd with rfl | t
  · exact RoadKit.mvA hZ q
  · exact RoadKit.mv hZ q t
/-- WHAT COMES BACK, over the tables of the start Z: h the heap at the call, h' behind it -/
def Q (Z : State) (x : Addr) (A : Cell) (h : Heap) (v : Option Value) (h' : Heap) (L : List Loc) : Prop := v = none ∧ (∀ y ∈ L, y.base = x) ∧ RoadKit.Keep h h' [x] ∧ h'.size = h.size + 1 ∧ RoadKit.Exa Z h' x ST ∧ RoadKit.Fld Z h' x ST "value" "[B" (.ref h.size) ∧ RoadKit.Fld Z h' x ST "coder" "B" (.int 0) ∧
  (∃ V : Cell, RoadKit.Arr Z h' h.size V .byte ∧ V.vm = .none ∧ Z.vm.findClass "[B" = some V.cls ∧ V.slots.size = A.slots.size ∧ ∀ j, j < A.slots.size → V.slots[j]? = some (.int (lo8 (cv A j)))) ∧
  ∀ (O n d : String) (w : Value), RoadKit.Fld Z h x O n d w → RoadKit.slotOf Z O n d ≠ RoadKit.slotOf Z ST "value" "[B" → RoadKit.slotOf Z O n d ≠ RoadKit.slotOf Z ST "coder" "B" → RoadKit.Fld Z h' x O n d w
/-- **new String(chars) AT A CALL, IN THE ROAD'S FORM**: for specialBack behind newO: x the fresh String, b the char[] with the cell A -/
theorem back {p : Program} {l : Launch} {e : Env} {R : Room} {s : State} {args : Array Value} {below : List Frame} {len W : Nat} {Z : State} {a0 : Array Value} {h : Heap} (hZ : Z.Warmed39 s.vm) (hw : ∀ d ∈ words, d.before a0 Z = true) {kI : Nat} (wi : (Jvm.Cond.instantiable ST kI).before a0 Z = true)
    {x b : Addr} {A : Cell} {z : Int32} {v0 c0 : Value} (E : RoadKit.Exa Z h x ST) (V : RoadKit.Fld Z h x ST "value" "[B" v0) (C : RoadKit.Fld Z h x ST "coder" "B" c0) (K : RoadKit.Arr Z h b A .char) (hty : Typed .char A) (S : RoadKit.Sta Z h ST "COMPACT_STRINGS" "Z" (.int z)) (hz : ¬ z = 0)
    (l0 : 0 < A.slots.size) (l2 : A.slots.size ≤ 536870912) (hp : ∀ i, i < A.slots.size → ¬ 255 < cv A i) (hfr : 4 ≤ R.frames) (hlo : W + 65 ≤ R.locals) :
    Back l R p e below s args New1.yN len W (fun P a => a = #[.ref x, .ref b] ∧ P.U.heap = h ∧ P.cells + 1 ≤ R.cells ∧ P.slots + A.slots.size ≤ R.slots)
      (fun P _ v B => ∃ L, Q Z x A h v B.U.heap L ∧ B.locs = P.locs ++ L ∧ B.cells = P.cells + 1 ∧ B.slots = P.slots + A.slots.size) := by
  intro m meth c P g ig mk a X hg hsize hdg hW hn hp'
  obtain ⟨rfl, rfl, r1, r2⟩ := hp'
  have al : Z.vm.Alike P.U.vm := hZ.alike.trans X.warmed.alike
  obtain ⟨D, cfV, kV, iV, fV, hD, gV, stV, knV, obV, asV, slV⟩ := id V
  obtain ⟨D', cfC, kC, iC, fC, hD', gC, stC, -, -, asC, slC⟩ := id C
  cases hD.symm.trans hD'
  obtain ⟨D2, kD, e1, e2, e3, e4, e5⟩ := id E
  cases hD.symm.trans e1
  obtain ⟨c2, k2, i1, i2, i3, -⟩ := Cond.instantiable_spec wi
  cases e2.symm.trans i1
  cases e3.symm.trans i2
  obtain ⟨kU, u1, u2⟩ := al.2.2 _ _ e3
  have hB : Blank ST x D P.U := ⟨hD, ⟨knV, fun q hq => by rw [hq] at obV; cases obV⟩, by rw [al.findClass]; exact e2, kU, u1, by rw [u2]; exact i3, by rw [u2]; exact e5 i3⟩
  have F1 : Found ST "value" "[B" fV P.U := ⟨SBG.found_only al ⟨cfV, kV, iV, gV⟩, stV⟩
  have F2 : Found ST "coder" "B" fC P.U := ⟨SBG.found_only al ⟨cfC, kC, iC, gC⟩, stC⟩
  have hA : Ch b A P.U := ⟨⟨K.1, State.isArrayOf_alike al K.2.1, K.2.2, by omega⟩, hty⟩
  have hS : StaticIs P.U ST "COMPACT_STRINGS" "Z" (.int z) := by
    obtain ⟨cfS, iS, kS, fS, st, cS, t1, t2, t3, t4, t5, t6, t7⟩ := S
    exact StaticIs.there (s := { Z with heap := P.U.heap }) ⟨cfS, iS, kS, fS, st, cS, t1, t2, t3, t4, t5, (fun q => by rw [q] at t6; cases t6), t7⟩ al rfl
  obtain ⟨v, B, X', ⟨⟨hv, E', V', q1, q2, q3, q4, q5, q6, q7, q8, q9, q10, q11⟩, hl, hc, hs⟩, st⟩ := New1.pays x D fV fC b A z (tab_of (moved hZ hw)) hfr hlo m meth c P g ig mk _ X hg hsize hdg hW hn ⟨r1, r2, rfl, hB, F1, F2, hA, hS, hz, l0, l2, hp⟩
  have al' : Z.vm.Alike B.U.vm := hZ.alike.trans X'.warmed.alike
  have hsz : E'.slots.size = D.slots.size := by
    obtain ⟨-, -, -, kB, w1, w2, w3⟩ := q1
    obtain ⟨kB', y1, y2⟩ := al'.2.2 _ _ e3
    rw [q2.2.1] at w1
    cases w1.symm.trans y1
    rw [w3, e5 i3, y2]
  refine ⟨v, B, X', ⟨_, ⟨hv, ?_, ⟨by omega, fun y cy hy hn' => q10 y cy (by simpa using hn') hy, fun y cy hy => ?_⟩, q11, ⟨E', _, q1.1, by rw [q2.2.1]; exact e2, by rw [q2.2.1]; exact e3, by rw [q2.1]; exact obV, fun _ => by rw [hsz]; exact e5 i3⟩,
    ⟨E', cfV, kV, iV, fV, q1.1, gV, stV, by rw [q2.1]; exact knV, by rw [q2.1]; exact obV, by rw [q2.2.1]; exact asV, q3⟩, ⟨E', cfC, kC, iC, fC, q1.1, gC, stC, by rw [q2.1]; exact knV, by rw [q2.1]; exact obV, by rw [q2.2.1]; exact asC, q4⟩,
    ⟨V', ⟨q5.1, State.isArrayOf_alike al'.symm q5.2.1, q5.2.2.1⟩, q6, by rw [← al'.findClass]; exact q7, q8, fun j hj => by have := q9 j hj; rwa [Nat.zero_add] at this⟩, fun O n d w F n1 n2 => ?_⟩, hl, hc, hs⟩, st⟩
  · intro y hy
    simp only [List.mem_cons, List.not_mem_nil, or_false] at hy
    rcases hy with rfl | rfl <;> rfl
  · by_cases q : y = x
    · subst q
      cases hD.symm.trans hy
      exact ⟨E', q1.1, q2.2.1, q2.1, hsz⟩
    · exact ⟨cy, q10 y cy q hy, rfl, rfl, rfl⟩
  · obtain ⟨D3, cf, k, i, f, g1, g2, g3, g4, g5, g6, g7⟩ := F
    cases hD.symm.trans g1
    simp only [RoadKit.slotOf, g2, gV, gC, Option.map_some, Option.getD_some] at n1 n2
    exact ⟨E', cf, k, i, f, q1.1, g2, g3, by rw [q2.1]; exact g4, by rw [q2.1]; exact g5, by rw [q2.2.1]; exact g6, by rw [q2.2.2 f.slot (by simp [n1, n2])]; exact g7⟩
end StrChars.Road
namespace StrChars.Road
open Jvm Sem ClassFile Op Lib Jvm.Stand Jvm.Free Jvm.Free.XT
/-- WHAT COMES BACK, the byte[] as a list of values -/
def QA (Z : State) (x : Addr) (zn : Int32) (cs : List Int32) (h : Heap) (v : Option Value) (h' : Heap) (L : List Loc) : Prop := v = none ∧ (∀ y ∈ L, y.base = x) ∧ RoadKit.Keep h h' [x] ∧ h'.size = h.size + 1 ∧ RoadKit.Exa Z h' x ST ∧ RoadKit.Fld Z h' x ST "value" "[B" (.ref h.size) ∧ RoadKit.Fld Z h' x ST "coder" "B" (.int 0) ∧
  (∃ kb, Z.vm.findClass "[B" = some kb ∧ RoadKit.Arv Z h' h.size kb .byte zn (cs.map fun c => .int (lo8 c)) (.int 0)) ∧
  ∀ (O n d : String) (w : Value), RoadKit.Fld Z h x O n d w → RoadKit.slotOf Z O n d ≠ RoadKit.slotOf Z ST "value" "[B" → RoadKit.slotOf Z O n d ≠ RoadKit.slotOf Z ST "coder" "B" → RoadKit.Fld Z h' x O n d w
/-- **new String(chars) AT A CALL, THE ARRAYS AS LISTS**: the char[] at b holds cs, not empty, no char above 255 -/
theorem backArv {p : Program} {l : Launch} {e : Env} {R : Room} {s : State} {args : Array Value} {below : List Frame} {len W : Nat} {Z : State} {a0 : Array Value} {h : Heap} (hZ : Z.Warmed39 s.vm) (hw : ∀ d ∈ words, d.before a0 Z = true) {kI : Nat} (wi : (Jvm.Cond.instantiable ST kI).before a0 Z = true)
    {x b : Addr} {k : ClassId} {zn z : Int32} {cs : List Int32} {dv v0 c0 : Value} (E : RoadKit.Exa Z h x ST) (V : RoadKit.Fld Z h x ST "value" "[B" v0) (C : RoadKit.Fld Z h x ST "coder" "B" c0) (K : RoadKit.Arv Z h b k .char zn (cs.map Value.int) dv) (S : RoadKit.Sta Z h ST "COMPACT_STRINGS" "Z" (.int z)) (hz : ¬ z = 0)
    (hlen : zn.toNatClampNeg = cs.length) (h0 : 0 < cs.length) (hbig : cs.length ≤ 536870912) (hall : ∀ c ∈ cs, ¬ 255 < c) (hfr : 4 ≤ R.frames) (hlo : W + 65 ≤ R.locals) :
    Back l R p e below s args New1.yN len W (fun P a => a = #[.ref x, .ref b] ∧ P.U.heap = h ∧ P.cells + 1 ≤ R.cells ∧ P.slots + cs.length ≤ R.slots)
      (fun P _ v B => ∃ L, QA Z x zn cs h v B.U.heap L ∧ B.locs = P.locs ++ L ∧ B.cells = P.cells + 1 ∧ B.slots = P.slots + cs.length) := by
  obtain ⟨A, K1, K2, K3, K4, K5, K6⟩ := K
  have e : A.slots.size = cs.length := K3.trans hlen
  have hat : ∀ (i : Nat) (hi : i < cs.length), A.slots[i]? = some (.int cs[i]) := fun i hi => by rw [K5 i (by omega)]; simp [List.getD_eq_getElem?_getD, hi]
  have hcv : ∀ (i : Nat) (hi : i < cs.length), cv A i = cs[i] := fun i hi => by unfold cv; rw [hat i hi]
  have hty : Typed .char A := fun i v hv => by
    have hi : i < A.slots.size := (Array.getElem?_eq_some_iff.mp hv).1
    have q := K5 i hi
    rw [hv] at q
    rw [Option.some.inj q]
    exact K6 i hi
  refine Back.mono (back hZ hw wi E V C K1 hty S hz (by omega) (by omega) (fun i hi => by rw [hcv i (by omega)]; exact hall _ (List.getElem_mem _)) hfr hlo) (fun P a hp => ⟨hp.1, hp.2.1, hp.2.2.1, by rw [e]; exact hp.2.2.2⟩) (fun P a v B hp hq => ?_)
  obtain ⟨L, ⟨q1, q2, q3, q4, q5, q6, q7, ⟨V', v1, v2, v3, v4, v5⟩, q9⟩, hl, hc, hs⟩ := hq
  refine ⟨L, ⟨q1, q2, q3, q4, q5, q6, q7, ⟨V'.cls, v3, V', v1, rfl, by rw [v4, e, hlen], K4, fun i hi => ?_, fun i hi => ?_⟩, q9⟩, hl, hc, by rw [hs, e]⟩
  · have hi' : i < cs.length := by omega
    rw [v5 i (by omega), hcv i hi']; simp [List.getD_eq_getElem?_getD, hi']
  · have hi' : i < cs.length := by omega
    simp only [List.getD_eq_getElem?_getD, List.getElem?_map, List.getElem?_eq_getElem hi', Option.map_some, Option.getD_some]
    exact fits_lo8 _
end StrChars.Road
namespace StrChars.Road
open Jvm Sem ClassFile Op Lib Jvm.Stand Jvm.Free Jvm.Free.XT
/-- WHAT COMES BACK, in the writer's own shape -/
def QV (Z : State) (x : Addr) (N : Int32) (bs : List Int32) (h : Heap) (n0 : Nat) (v : Option Value) (h' : Heap) (L : List Loc) : Prop := v = none ∧ RoadKit.Fr n0 L ∧ RoadKit.Keep h h' [x] ∧ RoadKit.Exa Z h' x ST ∧ RoadKit.Fld Z h' x ST "coder" "B" (.int 0) ∧
  ∃ (t : Addr) (kb : ClassId), n0 ≤ t ∧ h.size ≤ t ∧ ¬ t = x ∧ RoadKit.Fld Z h' x ST "value" "[B" (.ref t) ∧ RoadKit.Arv Z h' t kb .byte N (bs.map Value.int) (.int 0)
/-- **new String(chars) AT A CALL, FOR THE WRITER**: a char[] of n known ints, each 0 to 255 -/
theorem backV {p : Program} {l : Launch} {e : Env} {R : Room} {s : State} {args : Array Value} {below : List Frame} {len W : Nat} {Z : State} {a0 : Array Value} {h : Heap} (hZ : Z.Warmed39 s.vm) (hw : ∀ d ∈ words, d.before a0 Z = true) {kI : Nat} (wi : (Jvm.Cond.instantiable ST kI).before a0 Z = true)
    {x b : Addr} {kC : ClassId} {cs bs : List Int32} {d v0 c0 : Value} {z N : Int32} {n n0 : Nat} (hx0 : n0 ≤ x) (hh0 : n0 ≤ h.size) (E : RoadKit.Exa Z h x ST) (V : RoadKit.Fld Z h x ST "value" "[B" v0) (C : RoadKit.Fld Z h x ST "coder" "B" c0) (K : RoadKit.Arv Z h b kC .char N (cs.map Value.int) d) (S : RoadKit.Sta Z h ST "COMPACT_STRINGS" "Z" (.int z)) (hz : ¬ z = 0)
    (hn : cs.length = n) (hN : N = Int32.ofNat n) (l0 : 0 < n) (l2 : n ≤ 4000) (hp : ∀ c ∈ cs, ¬ c < 0 ∧ ¬ (255 : Int32) < c) (hb : bs = cs.map (fun c => c.toInt8.toInt32)) (hfr : 4 ≤ R.frames) (hlo : W + 65 ≤ R.locals) :
    Back l R p e below s args (⟨"java/lang/String", "<init>", "([C)V"⟩ : MethodName) len W (fun P a => a = #[.ref x, .ref b] ∧ P.U.heap = h ∧ P.cells + 1 ≤ R.cells ∧ P.slots + n ≤ R.slots)
      (fun P _ v B => ∃ L, QV Z x N bs h n0 v B.U.heap L ∧ B.locs = P.locs ++ L ∧ B.cells = P.cells + 1 ∧ B.slots = P.slots + n) := by
  subst hn hN hb
  refine Back.mono (backArv hZ hw wi E V C K S hz (n32 (by omega)) l0 (by omega) (fun c hc => (hp c hc).2) hfr hlo) (fun P a hp => hp) (fun P a v B hp hq => ?_)
  obtain ⟨L, ⟨q1, q2, q3, q4, q5, q6, q7, ⟨kb, v1, v2⟩, q9⟩, hl, hc, hs⟩ := hq
  exact ⟨L, ⟨q1, fun y hy => by rw [q2 y hy]; exact hx0, q3, q5, q7, h.size, kb, hh0, Nat.le_refl _, Nat.ne_of_gt E.lt, q6, by rw [List.map_map]; exact v2⟩, hl, hc, hs⟩
end StrChars.Road
namespace StrChars
open Jvm Sem ClassFile Op Lib Jvm.Stand Jvm.Free.XT Jvm.Free.ALB Jvm.Free.JM Jvm.Free
open Jvm.Lib.Cold (StaticIs)
def hi8 (x : Int32) : Int32 := lo8 (x >>> ((8 : Int32) &&& 31))
/-- what StringUTF16.getChar makes of two bytes -/
def pairCh (u v : Int32) : Int32 := (((u &&& 255) <<< ((0 : Int32) &&& 31)) ||| ((v &&& 255) <<< ((8 : Int32) &&& 31))).toUInt32.toUInt16.toUInt32.toInt32
theorem shr0 (c : Int32) : c >>> ((0 : Int32) &&& 31) = c := by
  have e : ((0 : Int32) &&& 31) = 0 := by decide
  rw [e]
  apply Int32.toBitVec_inj.mp
  rw [Int32.toBitVec_shiftRight]
  have e1 : ((0 : Int32).toBitVec.smod 32) = 0#32 := by decide
  rw [e1, BitVec.sshiftRight_eq']
  exact BitVec.sshiftRight_zero
theorem lo8_and (x : Int32) : (lo8 x &&& 255).toBitVec.toNat = x.toBitVec.toNat % 256 := by
  have h : (lo8 x).toBitVec = (x.toBitVec.signExtend 8).signExtend 32 := by rw [lo8, Int8.toBitVec_toInt32, Int32.toBitVec_toInt8]
  rw [Int32.toBitVec_and, BitVec.toNat_and, h]
  have e : ((x.toBitVec.signExtend 8).signExtend 32).toNat % 256 = x.toBitVec.toNat % 256 := by
    rw [BitVec.toNat_signExtend]
    have hlt := x.toBitVec.isLt
    simp only [BitVec.toNat_setWidth, BitVec.toNat_signExtend]
    split <;> split <;> omega
  rw [← e]
  exact Nat.and_two_pow_sub_one_eq_mod _ 8
theorem pair_says {c : Int32} (h0 : ¬ c < 0) (h1 : ¬ 65535 < c) : pairCh (lo8 c) (hi8 c) = c := by
  rw [Int32.lt_iff_toInt_lt] at h0 h1
  have e0 : (0 : Int32).toInt = 0 := rfl
  have e1 : (65535 : Int32).toInt = 65535 := rfl
  have hc : c.toInt = c.toBitVec.toNat := by
    have := c.toBitVec.isLt
    have e : c.toInt = c.toBitVec.toInt := rfl
    rw [e] at h0 h1
    rw [e]
    rw [BitVec.toInt_eq_toNat_cond] at h0 h1 ⊢
    split at h0 <;> split <;> omega
  have hn : c.toBitVec.toNat < 65536 := by omega
  have a1 := lo8_and c
  have a2 : (hi8 c &&& 255).toBitVec.toNat = c.toBitVec.toNat / 256 := by
    rw [hi8, lo8_and]
    have e : ((8 : Int32) &&& 31) = 8 := by decide
    rw [e, Int32.toBitVec_shiftRight]
    have e2 : ((8 : Int32).toBitVec.smod 32) = 8#32 := by decide
    rw [e2, BitVec.sshiftRight_eq', BitVec.toNat_sshiftRight_of_msb_false (by rw [BitVec.msb_eq_false_iff_two_mul_lt]; omega)]
    show c.toBitVec.toNat >>> 8 % 256 = _
    rw [Nat.shiftRight_eq_div_pow]
    omega
  unfold pairCh
  apply Int32.toBitVec_inj.mp
  apply BitVec.eq_of_toNat_eq
  have f0 : ((0 : Int32) &&& 31) = 0 := by decide
  have f8 : ((8 : Int32) &&& 31) = 8 := by decide
  rw [f0, f8]
  have g : (((lo8 c &&& 255) <<< (0 : Int32)) ||| ((hi8 c &&& 255) <<< (8 : Int32))).toBitVec.toNat = c.toBitVec.toNat := by
    rw [Int32.toBitVec_or, Int32.toBitVec_shiftLeft, Int32.toBitVec_shiftLeft]
    have s0 : ((0 : Int32).toBitVec.smod 32) = 0#32 := by decide
    have s8 : ((8 : Int32).toBitVec.smod 32) = 8#32 := by decide
    rw [s0, s8, BitVec.toNat_or]
    simp only [BitVec.shiftLeft_eq', BitVec.toNat_shiftLeft, a1, a2]
    show (c.toBitVec.toNat % 256) <<< 0 % 2 ^ 32 ||| (c.toBitVec.toNat / 256) <<< 8 % 2 ^ 32 = _
    rw [Nat.shiftLeft_zero, Nat.mod_eq_of_lt (show c.toBitVec.toNat % 256 < 2 ^ 32 by omega), Nat.mod_eq_of_lt (show (c.toBitVec.toNat / 256) <<< 8 < 2 ^ 32 by rw [Nat.shiftLeft_eq]; omega), Nat.or_comm, ← Nat.shiftLeft_add_eq_or_of_lt (by omega), Nat.shiftLeft_eq]
    omega
  show BitVec.toNat (((((lo8 c &&& 255) <<< (0 : Int32)) ||| ((hi8 c &&& 255) <<< (8 : Int32))).toBitVec.setWidth 16).setWidth 32) = _
  rw [BitVec.toNat_setWidth, BitVec.toNat_setWidth, g]
  omega
end StrChars
namespace StrChars
open Jvm Sem ClassFile Op Lib Jvm.Stand Jvm.Free.XT Jvm.Free.ALB Jvm.Free.JM Jvm.Free
open Jvm.Lib.Cold (StaticIs)
theorem shr1 {n : Nat} (h : 2 * n < 2 ^ 31) : Int32.ofNat (2 * n) >>> ((1 : Int32) &&& 31) = Int32.ofNat n := by
  have e : ((1 : Int32) &&& 31) = 1 := by decide
  rw [e]
  apply Int32.toBitVec_inj.mp
  rw [Int32.toBitVec_shiftRight]
  have e1 : ((1 : Int32).toBitVec.smod 32) = 1#32 := by decide
  have hm : (BitVec.ofNat 32 (2 * n)).toNat = 2 * n := by rw [BitVec.toNat_ofNat, Nat.mod_eq_of_lt (by omega)]
  rw [e1, BitVec.sshiftRight_eq']
  apply BitVec.eq_of_toNat_eq
  show ((BitVec.ofNat 32 (2 * n)).sshiftRight 1).toNat = (BitVec.ofNat 32 n).toNat
  rw [BitVec.toNat_sshiftRight_of_msb_false (by rw [BitVec.msb_eq_false_iff_two_mul_lt, hm]; omega), hm, BitVec.toNat_ofNat, Nat.shiftRight_eq_div_pow]
  omega
/-- charAt's cast of a byte read back -/
def chr8 (u : Int32) : Int32 := (u &&& 255).toUInt32.toUInt16.toUInt32.toInt32
theorem chr8_lo8 {c : Int32} (h0 : ¬ c < 0) (h1 : ¬ 255 < c) : chr8 (lo8 c) = c := by
  have t : ∀ k : Fin 256, (Int32.ofNat k.val).toUInt32.toUInt16.toUInt32.toInt32 = Int32.ofNat k.val := by decide +kernel
  unfold chr8
  rw [lo8_mask h0 h1]
  rw [Int32.lt_iff_toInt_lt] at h0 h1
  have e0 : (0 : Int32).toInt = 0 := rfl
  have e1 : (255 : Int32).toInt = 255 := rfl
  obtain ⟨k, hk⟩ : ∃ k : Nat, c.toInt = k := ⟨c.toInt.toNat, by omega⟩
  have hx : c = Int32.ofNat k := Int32.toInt_inj.mp (by rw [hk, Int32.toInt_ofNat_small (by omega)])
  rw [hx]
  exact t ⟨k, by omega⟩
theorem narrow_ch {c : Int32} (h0 : ¬ c < 0) (h1 : ¬ 65535 < c) : narrow .char (.int c) = .int c := by
  have q : narrow .char (.int (pairCh (lo8 c) (hi8 c))) = .int (pairCh (lo8 c) (hi8 c)) := narrow_c _
  rwa [pair_says h0 h1] at q
/-- the array's cell V codes the n chars f 0 .. f (n - 1) by the coder cd, as the JDK does: coder 1 just where some char is above 255 -/
def Cod (cd : Int32) (n : Nat) (f : Nat → Int32) (V : Cell) : Prop := (cd = 0 ∧ V.slots.size = n ∧ ∀ j, j < n → V.slots[j]? = some (.int (lo8 (f j))) ∧ ¬ 255 < f j) ∨ (cd = 1 ∧ V.slots.size = 2 * n ∧ (∀ j, j < n → V.slots[2 * j]? = some (.int (lo8 (f j))) ∧ V.slots[2 * j + 1]? = some (.int (hi8 (f j)))) ∧ ∃ j, j < n ∧ 255 < f j)
theorem Cod.cd {cd : Int32} {n : Nat} {f : Nat → Int32} {V : Cell} (h : Cod cd n f V) : cd = 0 ∨ cd = 1 := h.imp (fun q => q.1) fun q => q.1
theorem Cod.len {cd : Int32} {n : Nat} {f : Nat → Int32} {V : Cell} (h : Cod cd n f V) (hs : V.slots.size < 2 ^ 31) : Int32.ofNat V.slots.size >>> (cd &&& 31) = Int32.ofNat n := by
  rcases h with ⟨rfl, h, -⟩ | ⟨rfl, h, -⟩
  · rw [shr0, h]
  · rw [h, shr1 (by omega)]
/-- **x is a String of the n chars f 0 .. f (n - 1)**, Latin-1 or UTF-16; its array at t has the cell V -/
def Txt (x t : Addr) (V : Cell) (cd : Int32) (n : Nat) (f : Nat → Int32) (U : State) : Prop := Exact "java/lang/String" x U ∧ Has x "java/lang/String" "value" "[B" (.ref t) U ∧ Has x "java/lang/String" "coder" "B" (.int cd) U ∧ XT.Arr .byte t V U ∧ Cod cd n f V ∧ ∀ j, j < n → ¬ f j < 0 ∧ ¬ 65535 < f j
theorem Txt.mv {x t : Addr} {V : Cell} {cd : Int32} {n : Nat} {f : Nat → Int32} {U U' : State} (h : Txt x t V cd n f U) (hal : U.vm.Alike U'.vm) (hh : U'.heap = U.heap) : Txt x t V cd n f U' := ⟨h.1.mv hal hh, h.2.1.mv hal hh, h.2.2.1.mv hal hh, h.2.2.2.1.mv hal hh, h.2.2.2.2⟩
namespace Cdr
def yN : MethodName := ⟨"java/lang/String", "coder", "()B"⟩
abbrev yB : ByteArray := jdk_42_method_152_code
theorem d0 : decode yB 0 = .ok (.getstatic 38, 3) := by decide +kernel
theorem d3 : decode yB 3 = .ok (.ifCond (.eq) 10, 3) := by decide +kernel
theorem d6 : decode yB 6 = .ok (.aload_n 0, 1) := by decide +kernel
theorem d7 : decode yB 7 = .ok (.getfield 15, 3) := by decide +kernel
theorem d10 : decode yB 10 = .ok (.goto 4, 3) := by decide +kernel
theorem d14 : decode yB 14 = .ok (.ireturn, 1) := by decide +kernel
def site : List Cond := [.fieldLink "java/lang/String" 38 "java/lang/String" "COMPACT_STRINGS" "Z", .fieldLink "java/lang/String" 15 "java/lang/String" "coder" "B"]
def tab : Cond := tabOf yN yB 1 (some .byte) site
def P (x : Addr) (cd z : Int32) (args : Array Value) (s : State) : Prop := args = #[.ref x] ∧ Has x "java/lang/String" "coder" "B" (.int cd) s ∧ (cd = 0 ∨ cd = 1) ∧ StaticIs s "java/lang/String" "COMPACT_STRINGS" "Z" (.int z) ∧ ¬ z = 0
def E (cd : Int32) (r : Option Value) (s u : State) : Prop := XT.PureE (some (.int cd)) r s u
theorem law (l : Launch) (x : Addr) (cd z : Int32) : Law l yN 1 0 0 0 yB 1 (some .byte) site (P x cd z) (E cd) [] 0 0 := by
  refine Law.of_walk (plainFor_of_name (by decide +kernel)) (by decide +kernel) (by decide +kernel) (by decide) (fun _ _ h => by rw [h.1]; rfl) (fun _ U U' hal hh h => ⟨h.1, h.2.1.mv hal hh, h.2.2.1, h.2.2.2.1.there hal hh, h.2.2.2.2⟩) (fun r U U' V V' h1 hal h2 h => XT.PureE.mv r U U' V V' h1 hal h2 h) ?_
  intro p e s m args below meth c s₁ X0 hexec hbytes hml hret hlk hnm hown hh0 W hP
  obtain ⟨rfl, hx, hc, s1, hz⟩ := hP
  have c1 : Steps p.tables e below (s₁.setTop (entryFrame m #[.ref x] 1)) (s₁.setTop (mkF m 0 #[.val (.ref x)] [])) := entry rfl
  obtain ⟨T2, X2, q2, st2⟩ := X0.sget hexec hown (wk W (.fieldLink "java/lang/String" 38 "java/lang/String" "COMPACT_STRINGS" "Z")) s1 (fun _ _ h => by rw [hh0]; exact h) (g := (mkF m 0 #[.val (.ref x)] [])) rfl (hb hbytes d0)
  have hh2 := q2.trans hh0
  have c3 : Steps p.tables e below (s₁.setTop (entryFrame m #[.ref x] 1)) (T2.setTop (mkF m 7 #[.val (.ref x)] [.ref x])) := (c1.trans (st2 _ (Steps.refl _))).trans (by
    refine XS.ifNo X2.here hexec rfl (hb hbytes d3) rfl (i0_eq_f hz) ?_
    refine XS.aloadN X2.here hexec rfl (hb hbytes d6) rfl rfl ?_
    exact Steps.refl _)
  obtain ⟨T4, X4, q4, st4⟩ := X2.hget hexec hown (wk W (.fieldLink "java/lang/String" 15 "java/lang/String" "coder" "B")) (hx.mv X2.warmed.alike hh2) (g := (mkF m 7 #[.val (.ref x)] [.ref x])) rfl (rest := []) rfl (hb hbytes d7)
  have c5 : Steps p.tables e below (s₁.setTop (entryFrame m #[.ref x] 1)) (T4.setTop (mkF m 14 #[.val (.ref x)] [.int cd])) := (c3.trans (st4 _ (Steps.refl _))).trans (by
    refine XS.goto X4.here hexec rfl (pc0 := 10) rfl (hb hbytes d10) (by decide) rfl ?_
    exact Steps.refl _)
  exact ⟨T4, some (.int cd), _, _, _, X4, rfl, rfl, rfl, (fun h => by cases h), ⟨rfl, q4.trans hh2⟩, fun fs hl => c5.trans (X4.ireturnOut hexec hret (by rcases hc with rfl | rfl <;> rfl) (Or.inr (Or.inr (Or.inl rfl))) (hb hbytes d14) hl)⟩
end Cdr
namespace Len
def yN : MethodName := ⟨"java/lang/String", "length", "()I"⟩
abbrev yB : ByteArray := jdk_42_method_54_code
theorem d0 : decode yB 0 = .ok (.aload_n 0, 1) := by decide +kernel
theorem d1 : decode yB 1 = .ok (.getfield 9, 3) := by decide +kernel
theorem d4 : decode yB 4 = .ok (.arraylength, 1) := by decide +kernel
theorem d5 : decode yB 5 = .ok (.aload_n 0, 1) := by decide +kernel
theorem d6 : decode yB 6 = .ok (.invokevirtual 335, 3) := by decide +kernel
theorem d9 : decode yB 9 = .ok (.ishr, 1) := by decide +kernel
theorem d10 : decode yB 10 = .ok (.ireturn, 1) := by decide +kernel
def site : List Cond := [.fieldLink "java/lang/String" 9 "java/lang/String" "value" "[B", Cdr.tab] ++ virtW "java/lang/String" 335 "java/lang/String" Cdr.yN Cdr.yN
def tab : Cond := tabOf yN yB 1 (some .int) site
def P (x t : Addr) (V : Cell) (cd : Int32) (n : Nat) (f : Nat → Int32) (z : Int32) (args : Array Value) (s : State) : Prop := args = #[.ref x] ∧ Txt x t V cd n f s ∧ StaticIs s "java/lang/String" "COMPACT_STRINGS" "Z" (.int z) ∧ ¬ z = 0
def E (n : Nat) (r : Option Value) (s u : State) : Prop := XT.PureE (some (.int (Int32.ofNat n))) r s u
/-- length() of a String of n chars, in either coding -/
theorem law (l : Launch) (x t : Addr) (V : Cell) (cd : Int32) (n : Nat) (f : Nat → Int32) (z : Int32) : Law l yN 1 0 1 13 yB 1 (some .int) site (P x t V cd n f z) (E n) [] 0 0 := by
  refine Law.of_walk (plainFor_of_name (by decide +kernel)) (by decide +kernel) (by decide +kernel) (by decide) (fun _ _ h => by rw [h.1]; rfl) (fun _ U U' hal hh h => ⟨h.1, h.2.1.mv hal hh, h.2.2.1.there hal hh, h.2.2.2⟩) (fun r U U' V V' h1 hal h2 h => XT.PureE.mv r U U' V V' h1 hal h2 h) ?_
  intro p e s m args below meth c s₁ X0 hexec hbytes hml hret hlk hnm hown hh0 W hP
  obtain ⟨rfl, hx, s1, hz⟩ := hP
  have v31 := hx.2.2.2.1.2.2.2
  have c1 : Steps p.tables e below (s₁.setTop (entryFrame m #[.ref x] 1)) (s₁.setTop (mkF m 1 #[.val (.ref x)] [.ref x])) := Steps.trans (entry rfl) (by
    show Steps p.tables e below (s₁.setTop (mkF m 0 #[.val (.ref x)] [])) _
    refine XS.aloadN X0.here hexec rfl (hb hbytes d0) rfl rfl ?_
    exact Steps.refl _)
  obtain ⟨T2, X2, q2, st2⟩ := X0.hget hexec hown (wk W (.fieldLink "java/lang/String" 9 "java/lang/String" "value" "[B")) (hx.mv X0.warmed.alike hh0).2.1 (g := (mkF m 1 #[.val (.ref x)] [.ref x])) rfl (rest := []) rfl (hb hbytes d1)
  have hh2 := q2.trans hh0
  have hx2 := hx.mv X2.warmed.alike hh2
  have c3 : Steps p.tables e below (s₁.setTop (entryFrame m #[.ref x] 1)) (T2.setTop (mkF m 6 #[.val (.ref x)] [.ref x, .int (Int32.ofNat V.slots.size)])) := (c1.trans (st2 _ (Steps.refl _))).trans (by
    refine X2.alen hexec hx2.2.2.2.1 rfl rfl (hb hbytes d4) ?_
    refine XS.aloadN X2.here hexec rfl (hb hbytes d5) rfl rfl ?_
    exact Steps.refl _)
  obtain ⟨v4, T4, X4, E4, g4⟩ := X2.callV hexec (Cdr.law l x cd z) hown (wks W (virtW "java/lang/String" 335 "java/lang/String" Cdr.yN Cdr.yN)) rfl (by decide) (wk W Cdr.tab) (W := 1) (Nat.le_of_ble_eq_true rfl) (Nat.le_of_ble_eq_true rfl) (Nat.le_refl _) (Nat.le_refl _) (hx2.1.fc X2.warmed.alike) hx2.1.is (g := (mkF m 6 #[.val (.ref x)] [.ref x, .int (Int32.ofNat V.slots.size)])) rfl (by rw [hml]; rfl) c3 (argsL := []) (rest := [.int (Int32.ofNat V.slots.size)]) rfl rfl (by show 2 * 0 + (1 + 0) ≤ _; decide) (hb hbytes d6) (⟨rfl, hx2.2.2.1, hx.2.2.2.2.1.cd, s1.there X2.warmed.alike hh2, hz⟩)
  obtain ⟨rfl, q4⟩ := E4
  have c5 : Steps p.tables e below (s₁.setTop (entryFrame m #[.ref x] 1)) (T4.setTop (mkF m 10 #[.val (.ref x)] [.int (Int32.ofNat V.slots.size >>> (cd &&& 31))])) := Steps.trans g4 (by
    refine ishr X4.here hexec rfl (hb hbytes d9) rfl ?_
    exact Steps.refl _)
  rw [hx.2.2.2.2.1.len v31] at c5
  exact ⟨T4, some (.int (Int32.ofNat n)), _, _, _, X4, rfl, rfl, rfl, (fun h => by cases h), ⟨rfl, q4.trans hh2⟩, fun fs hl => c5.trans (X4.ireturnOut hexec hret rfl (Or.inl rfl) (hb hbytes d10) hl)⟩
theorem pays {l : Launch} {R : Room} {p : Program} {e : Env} {below : List Frame} {s : State} {sargs : Array Value} {len W : Nat} (x t : Addr) (V : Cell) (cd : Int32) (n : Nat) (f : Nat → Int32) (z : Int32) (htab : tab.before sargs s = true) (hfr : 2 ≤ R.frames) (hlo : W + 25 ≤ R.locals) :
    Back l R p e below s sargs yN len W (fun A₁ a₁ => A₁.cells + 0 ≤ R.cells ∧ A₁.slots + 0 ≤ R.slots ∧ P x t V cd n f z a₁ A₁.U) (fun A₁ _ v₁ B₁ => E n v₁ A₁.U B₁.U ∧ B₁.locs = A₁.locs ++ [] ∧ B₁.cells = A₁.cells + 0 ∧ B₁.slots = A₁.slots + 0) :=
  (law l x t V cd n f z).pays htab hfr (by omega)
end Len
namespace IsL
def yN : MethodName := ⟨"java/lang/String", "isLatin1", "()Z"⟩
abbrev yB : ByteArray := jdk_42_method_154_code
theorem d0 : decode yB 0 = .ok (.getstatic 38, 3) := by decide +kernel
theorem d3 : decode yB 3 = .ok (.ifCond (.eq) 14, 3) := by decide +kernel
theorem d6 : decode yB 6 = .ok (.aload_n 0, 1) := by decide +kernel
theorem d7 : decode yB 7 = .ok (.getfield 15, 3) := by decide +kernel
theorem d10 : decode yB 10 = .ok (.ifCond (.ne) 7, 3) := by decide +kernel
theorem d13 : decode yB 13 = .ok (.iconst 1, 1) := by decide +kernel
theorem d14 : decode yB 14 = .ok (.goto 4, 3) := by decide +kernel
theorem d17 : decode yB 17 = .ok (.iconst 0, 1) := by decide +kernel
theorem d18 : decode yB 18 = .ok (.ireturn, 1) := by decide +kernel
def site : List Cond := [.fieldLink "java/lang/String" 38 "java/lang/String" "COMPACT_STRINGS" "Z", .fieldLink "java/lang/String" 15 "java/lang/String" "coder" "B"]
def tab : Cond := tabOf yN yB 1 (some .boolean) site
def P (x : Addr) (cd z : Int32) (args : Array Value) (s : State) : Prop := args = #[.ref x] ∧ Has x "java/lang/String" "coder" "B" (.int cd) s ∧ (cd = 0 ∨ cd = 1) ∧ StaticIs s "java/lang/String" "COMPACT_STRINGS" "Z" (.int z) ∧ ¬ z = 0
def E (cd : Int32) (r : Option Value) (s u : State) : Prop := XT.PureE (some (.int (1 - cd))) r s u
theorem law (l : Launch) (x : Addr) (cd z : Int32) : Law l yN 1 0 0 0 yB 1 (some .boolean) site (P x cd z) (E cd) [] 0 0 := by
  refine Law.of_walk (plainFor_of_name (by decide +kernel)) (by decide +kernel) (by decide +kernel) (by decide) (fun _ _ h => by rw [h.1]; rfl) (fun _ U U' hal hh h => ⟨h.1, h.2.1.mv hal hh, h.2.2.1, h.2.2.2.1.there hal hh, h.2.2.2.2⟩) (fun r U U' V V' h1 hal h2 h => XT.PureE.mv r U U' V V' h1 hal h2 h) ?_
  intro p e s m args below meth c s₁ X0 hexec hbytes hml hret hlk hnm hown hh0 W hP
  obtain ⟨rfl, hx, hc, s1, hz⟩ := hP
  have c1 : Steps p.tables e below (s₁.setTop (entryFrame m #[.ref x] 1)) (s₁.setTop (mkF m 0 #[.val (.ref x)] [])) := entry rfl
  obtain ⟨T2, X2, q2, st2⟩ := X0.sget hexec hown (wk W (.fieldLink "java/lang/String" 38 "java/lang/String" "COMPACT_STRINGS" "Z")) s1 (fun _ _ h => by rw [hh0]; exact h) (g := (mkF m 0 #[.val (.ref x)] [])) rfl (hb hbytes d0)
  have hh2 := q2.trans hh0
  have c3 : Steps p.tables e below (s₁.setTop (entryFrame m #[.ref x] 1)) (T2.setTop (mkF m 7 #[.val (.ref x)] [.ref x])) := (c1.trans (st2 _ (Steps.refl _))).trans (by
    refine XS.ifNo X2.here hexec rfl (hb hbytes d3) rfl (i0_eq_f hz) ?_
    refine XS.aloadN X2.here hexec rfl (hb hbytes d6) rfl rfl ?_
    exact Steps.refl _)
  obtain ⟨T4, X4, q4, st4⟩ := X2.hget hexec hown (wk W (.fieldLink "java/lang/String" 15 "java/lang/String" "coder" "B")) (hx.mv X2.warmed.alike hh2) (g := (mkF m 7 #[.val (.ref x)] [.ref x])) rfl (rest := []) rfl (hb hbytes d7)
  have c5 : Steps p.tables e below (s₁.setTop (entryFrame m #[.ref x] 1)) (T4.setTop (mkF m 10 #[.val (.ref x)] [.int cd])) := c3.trans (st4 _ (Steps.refl _))
  have c6 : Steps p.tables e below (s₁.setTop (entryFrame m #[.ref x] 1)) (T4.setTop (mkF m 18 #[.val (.ref x)] [.int (1 - cd)])) := by
    rcases hc with rfl | rfl
    · exact c5.trans (by
        refine XS.ifNo X4.here hexec rfl (hb hbytes d10) rfl (i0_ne_f rfl) ?_
        refine iconstV X4.here hexec rfl 1 (hb hbytes d13) (by decide) ?_
        refine XS.goto X4.here hexec rfl (pc0 := 14) rfl (hb hbytes d14) (by decide) rfl ?_
        exact Steps.refl _)
    · exact c5.trans (by
        refine XS.ifYes X4.here hexec rfl (pc0 := 10) rfl (hb hbytes d10) rfl (i0_ne_t (by decide)) (by decide) rfl ?_
        refine iconstV X4.here hexec rfl 0 (hb hbytes d17) (by decide) ?_
        exact Steps.refl _)
  exact ⟨T4, some (.int (1 - cd)), _, _, _, X4, rfl, rfl, rfl, (fun h => by cases h), ⟨rfl, q4.trans hh2⟩, fun fs hl => c6.trans (X4.ireturnOut hexec hret (by rcases hc with rfl | rfl <;> rfl) (Or.inr (Or.inl rfl)) (hb hbytes d18) hl)⟩
end IsL
namespace LChA
def yN : MethodName := ⟨"java/lang/StringLatin1", "charAt", "([BI)C"⟩
abbrev yB : ByteArray := jdk_43_method_2_code
theorem d0 : decode yB 0 = .ok (.iload_n 1, 1) := by decide +kernel
theorem d1 : decode yB 1 = .ok (.aload_n 0, 1) := by decide +kernel
theorem d2 : decode yB 2 = .ok (.arraylength, 1) := by decide +kernel
theorem d3 : decode yB 3 = .ok (.invokestatic 9, 3) := by decide +kernel
theorem d6 : decode yB 6 = .ok (.aload_n 0, 1) := by decide +kernel
theorem d7 : decode yB 7 = .ok (.iload_n 1, 1) := by decide +kernel
theorem d8 : decode yB 8 = .ok (.baload, 1) := by decide +kernel
theorem d9 : decode yB 9 = .ok (.sipush 255, 3) := by decide +kernel
theorem d12 : decode yB 12 = .ok (.iand, 1) := by decide +kernel
theorem d13 : decode yB 13 = .ok (.i2c, 1) := by decide +kernel
theorem d14 : decode yB 14 = .ok (.ireturn, 1) := by decide +kernel
def site : List Cond := [JO.Str_checkIndex.tab] ++ staticW "java/lang/StringLatin1" 9 JO.Str_checkIndex.yN
def tab : Cond := tabOf yN yB 2 (some .char) site
def P (t : Addr) (V : Cell) (i : Nat) (u : Int32) (fm : Value) (args : Array Value) (s : State) : Prop := args = #[.ref t, .int (Int32.ofNat i)] ∧ XT.Arr .byte t V s ∧ V.slots[i]? = some (.int u) ∧ (StaticIs s "jdk/internal/util/Preconditions" "SIOOBE_FORMATTER" "Ljava/util/function/BiFunction;" fm ∧ fm.isRef = true)
def E (u : Int32) (r : Option Value) (s w : State) : Prop := XT.PureE (some (.int (chr8 u))) r s w
theorem law (l : Launch) (t : Addr) (V : Cell) (i : Nat) (u : Int32) (fm : Value) : Law l yN 2 2 2 27 yB 2 (some .char) site (P t V i u fm) (E u) [] 0 0 := by
  refine Law.of_walk (plainFor_of_name (by decide +kernel)) (by decide +kernel) (by decide +kernel) (by decide) (fun _ _ h => by rw [h.1]; rfl) (fun _ U U' hal hh h => ⟨h.1, h.2.1.mv hal hh, h.2.2.1, h.2.2.2.1.there hal hh, h.2.2.2.2⟩) (fun r U U' V V' h1 hal h2 h => XT.PureE.mv r U U' V V' h1 hal h2 h) ?_
  intro p e s m args below meth c s₁ X0 hexec hbytes hml hret hlk hnm hown hh0 W hP
  obtain ⟨rfl, hV, hu, s1, rf⟩ := hP
  have v31 := hV.2.2.2
  have hi : i < V.slots.size := (Array.getElem?_eq_some_iff.mp hu).1
  have c1 : Steps p.tables e below (s₁.setTop (entryFrame m #[.ref t, .int (Int32.ofNat i)] 2)) (s₁.setTop (mkF m 0 #[.val (.ref t), .val (.int (Int32.ofNat i))] [])) := entry rfl
  have c2 : Steps p.tables e below (s₁.setTop (entryFrame m #[.ref t, .int (Int32.ofNat i)] 2)) (s₁.setTop (mkF m 3 #[.val (.ref t), .val (.int (Int32.ofNat i))] [.int (Int32.ofNat V.slots.size), .int (Int32.ofNat i)])) := c1.trans (by
    refine XS.iloadN X0.here hexec rfl (hb hbytes d0) rfl ?_
    refine XS.aloadN X0.here hexec rfl (hb hbytes d1) rfl rfl ?_
    refine X0.alen hexec (hV.mv X0.warmed.alike hh0) rfl rfl (hb hbytes d2) ?_
    exact Steps.refl _)
  obtain ⟨v3, T3, X3, E3, g3⟩ := X0.callS hexec (JO.Str_checkIndex.law l (Int32.ofNat i) (Int32.ofNat V.slots.size) fm) hown (wks W (staticW "java/lang/StringLatin1" 9 JO.Str_checkIndex.yN)) (wk W JO.Str_checkIndex.tab) (W := 0) (Nat.le_of_ble_eq_true rfl) (Nat.le_of_ble_eq_true rfl) (Nat.le_refl _) (Nat.le_refl _) (g := (mkF m 3 #[.val (.ref t), .val (.int (Int32.ofNat i))] [.int (Int32.ofNat V.slots.size), .int (Int32.ofNat i)])) rfl (by rw [hml]; rfl) c2 (argsL := [.int (Int32.ofNat i), .int (Int32.ofNat V.slots.size)]) (rest := []) rfl rfl (by show 2 * 0 + 0 ≤ _; decide) (hb hbytes d3) (⟨rfl, rf, s1.there X0.warmed.alike hh0, Int32.ofNat_not_neg (by omega), lt32 v31 hi⟩)
  obtain ⟨rfl, q3⟩ := E3
  have hh3 := q3.trans hh0
  have c4 : Steps p.tables e below (s₁.setTop (entryFrame m #[.ref t, .int (Int32.ofNat i)] 2)) (T3.setTop (mkF m 14 #[.val (.ref t), .val (.int (Int32.ofNat i))] [.int (chr8 u)])) := Steps.trans g3 (by
    refine XS.aloadN X3.here hexec rfl (hb hbytes d6) rfl rfl ?_
    refine XS.iloadN X3.here hexec rfl (hb hbytes d7) rfl ?_
    refine X3.aget hexec (hV.mv X3.warmed.alike hh3) rfl hu rfl rfl (hb hbytes d8) ?_
    refine sipushV X3.here hexec rfl 255 (hb hbytes d9) (by decide) ?_
    refine XS.iand X3.here hexec rfl (hb hbytes d12) rfl ?_
    refine i2c X3.here hexec rfl (hb hbytes d13) rfl ?_
    exact Steps.refl _)
  exact ⟨T3, some (.int (chr8 u)), _, _, _, X3, rfl, rfl, rfl, (fun h => by cases h), ⟨rfl, hh3⟩, fun fs hl => c4.trans (X3.ireturnOut hexec hret (narrow_c _) (Or.inr (Or.inr (Or.inr (Or.inl rfl)))) (hb hbytes d14) hl)⟩
end LChA
end StrChars
namespace StrChars.Road
open Jvm Sem ClassFile Op Lib Jvm.Stand Jvm.Free Jvm.Free.XT
open Jvm.Lib.Cold (StaticIs)
theorem consq {a : Array Value} {s : State} {c : Jvm.Cond} {L : List Jvm.Cond} (h0 : c.before a s = true) (h : ∀ w ∈ L, w.before a s = true) : ∀ w ∈ c :: L, w.before a s = true := fun w hw => (List.mem_cons.mp hw).elim (fun e => e ▸ h0) (h w)
/-- the words of String.length(), either coding -/
abbrev wordsLen : List Jvm.Cond := [.code Len.yN Len.yB 1 (some .int), .initialized ST, .fieldLink ST 9 ST "value" "[B", .fieldLink ST 38 ST "COMPACT_STRINGS" "Z", .fieldLink ST 15 ST "coder" "B", .code Cdr.yN Cdr.yB 1 (some .byte), .methodLink ST 335 Cdr.yN, .declares Cdr.yN, .selects ST Cdr.yN Cdr.yN, .instanceMethod Cdr.yN]
theorem tabLen_of {a : Array Value} {s : State} (h : ∀ w ∈ wordsLen, w.before a s = true) : Len.tab.before a s = true := by
  have hc : Cdr.tab.before a s = true := unparts (wk h (.code Cdr.yN Cdr.yB 1 (some .byte))) (wks h (.initialized Cdr.yN.cls :: Cdr.site))
  have q := consq hc h
  exact unparts (wk q (.code Len.yN Len.yB 1 (some .int))) (wks q (.initialized Len.yN.cls :: Len.site))
theorem movedLen {Z s : State} {a0 args : Array Value} (hZ : Z.Warmed39 s.vm) (hw : ∀ d ∈ wordsLen, d.before a0 Z = true) : ∀ d ∈ wordsLen, d.before args s = true := fun d hd => by
  have q := hw d hd
  have t : ∀ d ∈ wordsLen, d = .arrayClass .byte ∨ (d.onTables && d.keepsFace) = true := by decide +kernel
  rcases t d hd with rfl | t
  · exact RoadKit.mvA hZ q
  · exact RoadKit.mv hZ q t
/-- the bytes of the chars cs, low before high -/
def wideBytes : List Int32 → List Value
  | [] => []
  | c :: cs => .int (lo8 c) :: .int (hi8 c) :: wideBytes cs
theorem wide_lo (d : Value) : ∀ (cs : List Int32) (j : Nat), j < cs.length → (wideBytes cs).getD (2 * j) d = .int (lo8 (cs.getD j 0))
  | [], j, h => absurd h (Nat.not_lt_zero j)
  | c :: cs, 0, _ => rfl
  | c :: cs, j + 1, h => by
    have q := wide_lo d cs j (by simpa using h)
    rw [show 2 * (j + 1) = 2 * j + 1 + 1 from by omega]
    simpa [wideBytes] using q
theorem wide_hi (d : Value) : ∀ (cs : List Int32) (j : Nat), j < cs.length → (wideBytes cs).getD (2 * j + 1) d = .int (hi8 (cs.getD j 0))
  | [], j, h => absurd h (Nat.not_lt_zero j)
  | c :: cs, 0, _ => rfl
  | c :: cs, j + 1, h => by
    have q := wide_hi d cs j (by simpa using h)
    rw [show 2 * (j + 1) + 1 = 2 * j + 1 + 1 + 1 from by omega]
    simpa [wideBytes] using q
theorem low_at (d : Value) (cs : List Int32) (j : Nat) (h : j < cs.length) : (cs.map fun c => Value.int (lo8 c)).getD j d = .int (lo8 (cs.getD j 0)) := by
  simp [List.getD_eq_getElem?_getD, h]
/-- an array of N2 bytes vs codes the chars cs by the coder cd -/
def CodA (cs : List Int32) (cd N2 : Int32) (vs : List Value) : Prop := (cd = 0 ∧ N2 = Int32.ofNat cs.length ∧ vs = (cs.map fun c => Value.int (lo8 c)) ∧ ∀ c ∈ cs, ¬ 255 < c) ∨ (cd = 1 ∧ N2 = Int32.ofNat (2 * cs.length) ∧ vs = wideBytes cs ∧ ∃ c ∈ cs, 255 < c)
theorem CodA.cod {cs : List Int32} {cd N2 : Int32} {vs : List Value} {V : Cell} (h : CodA cs cd N2 vs) (hn : 2 * cs.length < 2 ^ 31) (hs : V.slots.size = N2.toNatClampNeg) (hv : RoadKit.Has V vs (.int 0)) : Cod cd cs.length (fun j => cs.getD j 0) V := by
  rcases h with ⟨rfl, rfl, rfl, h⟩ | ⟨rfl, rfl, rfl, c, hc, hw⟩
  · rw [n32 (by omega)] at hs
    exact Or.inl ⟨rfl, hs, fun j hj => ⟨by rw [hv j (by omega), low_at _ _ _ hj], by
      have e : cs.getD j 0 = cs[j] := by simp [List.getD_eq_getElem?_getD, hj]
      show ¬ 255 < cs.getD j 0
      rw [e]; exact h _ (List.getElem_mem _)⟩⟩
  · rw [n32 (by omega)] at hs
    obtain ⟨j, hj, rfl⟩ := List.getElem_of_mem hc
    exact Or.inr ⟨rfl, hs, fun j hj => ⟨by rw [hv _ (by omega), wide_lo _ _ _ hj], by rw [hv _ (by omega), wide_hi _ _ _ hj]⟩, j, hj, by
      have e : cs.getD j 0 = cs[j] := by simp [List.getD_eq_getElem?_getD, hj]
      show 255 < cs.getD j 0
      rw [e]; exact hw⟩
/-- an object of exactly java/lang/String, its two fields found: as the laws ask it -/
theorem strObj {Z U : State} {a0 : Array Value} {kI : Nat} (wi : (Jvm.Cond.instantiable ST kI).before a0 Z = true) (al : Z.vm.Alike U.vm) {x : Addr} {v0 c0 : Value} (E : RoadKit.Exa Z U.heap x ST) (V : RoadKit.Fld Z U.heap x ST "value" "[B" v0) (C : RoadKit.Fld Z U.heap x ST "coder" "B" c0) :
    ∃ (D : Cell) (fV fC : Field), Blank ST x D U ∧ Found ST "value" "[B" fV U ∧ Found ST "coder" "B" fC U ∧ D.slots[fV.slot]? = some v0 ∧ D.slots[fC.slot]? = some c0 ∧ RoadKit.slotOf Z ST "value" "[B" = fV.slot ∧ RoadKit.slotOf Z ST "coder" "B" = fC.slot := by
  obtain ⟨D, cfV, kV, iV, fV, hD, gV, stV, knV, obV, asV, slV⟩ := V
  obtain ⟨D', cfC, kC, iC, fC, hD', gC, stC, -, -, asC, slC⟩ := C
  cases hD.symm.trans hD'
  obtain ⟨D2, kD, e1, e2, e3, e4, e5⟩ := E
  cases hD.symm.trans e1
  obtain ⟨c2, k2, i1, i2, i3, -⟩ := Cond.instantiable_spec wi
  cases e2.symm.trans i1
  cases e3.symm.trans i2
  obtain ⟨kU, u1, u2⟩ := al.2.2 _ _ e3
  exact ⟨D, fV, fC, ⟨hD, ⟨knV, fun q hq => by rw [hq] at obV; cases obV⟩, by rw [al.findClass]; exact e2, kU, u1, by rw [u2]; exact i3, by rw [u2]; exact e5 i3⟩, ⟨SBG.found_only al ⟨cfV, kV, iV, gV⟩, stV⟩, ⟨SBG.found_only al ⟨cfC, kC, iC, gC⟩, stC⟩, slV, slC, by simp [RoadKit.slotOf, gV], by simp [RoadKit.slotOf, gC]⟩
theorem sta_is {Z U : State} (al : Z.vm.Alike U.vm) {C n d : String} {v : Value} (S : RoadKit.Sta Z U.heap C n d v) : StaticIs U C n d v := by
  obtain ⟨cfS, iS, kS, fS, st, cS, t1, t2, t3, t4, t5, t6, t7⟩ := S
  exact StaticIs.there (s := { Z with heap := U.heap }) ⟨cfS, iS, kS, fS, st, cS, t1, t2, t3, t4, t5, (fun q => by rw [q] at t6; cases t6), t7⟩ al rfl
/-- **length() OF SUCH A STRING** -/
theorem lenW {p : Program} {l : Launch} {e : Env} {R : Room} {s : State} {args : Array Value} {below : List Frame} {len W : Nat} {Z : State} {a0 : Array Value} {h : Heap} (hZ : Z.Warmed39 s.vm) (hw : ∀ d ∈ wordsLen, d.before a0 Z = true) {kI : Nat} (wi : (Jvm.Cond.instantiable ST kI).before a0 Z = true)
    {x t : Addr} {kb : ClassId} {cs : List Int32} {cd N2 z : Int32} {vs : List Value} (E : RoadKit.Exa Z h x ST) (V : RoadKit.Fld Z h x ST "value" "[B" (.ref t)) (C : RoadKit.Fld Z h x ST "coder" "B" (.int cd)) (K : RoadKit.Arv Z h t kb .byte N2 vs (.int 0)) (hc : CodA cs cd N2 vs) (hb : ∀ c ∈ cs, ¬ c < 0 ∧ ¬ (65535 : Int32) < c)
    (S : RoadKit.Sta Z h ST "COMPACT_STRINGS" "Z" (.int z)) (hz : ¬ z = 0) (l2 : cs.length ≤ 4000) (hfr : 2 ≤ R.frames) (hlo : W + 25 ≤ R.locals) :
    Back l R p e below s args (⟨"java/lang/String", "length", "()I"⟩ : MethodName) len W (fun P a => a = #[.ref x] ∧ P.U.heap = h ∧ P.cells + 0 ≤ R.cells ∧ P.slots + 0 ≤ R.slots)
      (fun P _ v B => ∃ L, (v = some (.int (Int32.ofNat cs.length)) ∧ L = [] ∧ B.U.heap = h) ∧ B.locs = P.locs ++ L ∧ B.cells = P.cells + 0 ∧ B.slots = P.slots + 0) := by
  obtain ⟨A, K1, K2, K3, K4, K5, K6⟩ := K
  have hcod := hc.cod (by omega) K3 K5
  intro m meth c P g ig mk a X hg hsize hdg hW hn hp'
  obtain ⟨rfl, rfl, r1, r2⟩ := hp'
  have al : Z.vm.Alike P.U.vm := hZ.alike.trans X.warmed.alike
  obtain ⟨D, fV, fC, hB, F1, F2, g1, g2, -, -⟩ := strObj wi al E V C
  have hx : Txt x t A cd cs.length (fun j => cs.getD j 0) P.U := ⟨⟨_, hB.2.2.1, D, hB.1, rfl, by cases q : D.vm <;> first | rfl | exact absurd q (hB.2.1.2 _)⟩, Has.of hB F1 g1, Has.of hB F2 g2, ⟨K1.1, State.isArrayOf_alike al K1.2.1, K1.2.2, by rcases hcod with ⟨-, q, -⟩ | ⟨-, q, -⟩ <;> omega⟩, hcod, fun j hj => by
    have e : cs.getD j 0 = cs[j] := by simp [List.getD_eq_getElem?_getD, hj]
    show ¬ cs.getD j 0 < 0 ∧ ¬ 65535 < cs.getD j 0
    rw [e]; exact hb _ (List.getElem_mem _)⟩
  obtain ⟨v, B, X', ⟨⟨hv, hh⟩, hl, hk, hs⟩, st⟩ := Len.pays x t A cd cs.length (fun j => cs.getD j 0) z (tabLen_of (movedLen hZ hw)) hfr hlo m meth c P g ig mk _ X hg hsize hdg hW hn ⟨r1, r2, rfl, hx, sta_is al S, hz⟩
  exact ⟨v, B, X', ⟨[], ⟨hv, rfl, hh⟩, hl, hk, hs⟩, st⟩
end StrChars.Road
namespace StrChars.Road
open Jvm Sem ClassFile Op Lib Jvm.Stand Jvm.Free Jvm.Free.XT
open Jvm.Lib.Cold (StaticIs)
/-- the road's facts of a String, as the laws ask it -/
theorem txt_of {Z U : State} {a0 : Array Value} {kI : Nat} (wi : (Jvm.Cond.instantiable ST kI).before a0 Z = true) (al : Z.vm.Alike U.vm) {x t : Addr} {kb : ClassId} {cs : List Int32} {cd N2 : Int32} {vs : List Value} (E : RoadKit.Exa Z U.heap x ST) (V : RoadKit.Fld Z U.heap x ST "value" "[B" (.ref t)) (C : RoadKit.Fld Z U.heap x ST "coder" "B" (.int cd)) (K : RoadKit.Arv Z U.heap t kb .byte N2 vs (.int 0)) (hc : CodA cs cd N2 vs) (hb : ∀ c ∈ cs, ¬ c < 0 ∧ ¬ (65535 : Int32) < c) (l2 : cs.length ≤ 4000) :
    ∃ A, Txt x t A cd cs.length (fun j => cs.getD j 0) U := by
  obtain ⟨A, K1, K2, K3, K4, K5, K6⟩ := K
  have hcod := hc.cod (by omega) K3 K5
  obtain ⟨D, fV, fC, hB, F1, F2, g1, g2, -, -⟩ := strObj wi al E V C
  exact ⟨A, ⟨_, hB.2.2.1, D, hB.1, rfl, by cases q : D.vm <;> first | rfl | exact absurd q (hB.2.1.2 _)⟩, Has.of hB F1 g1, Has.of hB F2 g2, ⟨K1.1, State.isArrayOf_alike al K1.2.1, K1.2.2, by rcases hcod with ⟨-, q, -⟩ | ⟨-, q, -⟩ <;> omega⟩, hcod, fun j hj => by
    have e : cs.getD j 0 = cs[j] := by simp [List.getD_eq_getElem?_getD, hj]
    show ¬ cs.getD j 0 < 0 ∧ ¬ 65535 < cs.getD j 0
    rw [e]; exact hb _ (List.getElem_mem _)⟩
end StrChars.Road
namespace StrChars
open Jvm Sem ClassFile Op Lib Jvm.Stand Jvm.Free.XT Jvm.Free.ALB Jvm.Free.JM Jvm.Free
open Jvm.Lib.Cold (StaticIs)
namespace ChN
def yN : MethodName := ⟨"java/lang/String", "charAt", "(I)C"⟩
abbrev yB : ByteArray := jdk_42_method_56_code
theorem d0 : decode yB 0 = .ok (.aload_n 0, 1) := by decide +kernel
theorem d1 : decode yB 1 = .ok (.invokevirtual 492, 3) := by decide +kernel
theorem d4 : decode yB 4 = .ok (.ifCond (.eq) 12, 3) := by decide +kernel
theorem d7 : decode yB 7 = .ok (.aload_n 0, 1) := by decide +kernel
theorem d8 : decode yB 8 = .ok (.getfield 9, 3) := by decide +kernel
theorem d11 : decode yB 11 = .ok (.iload_n 1, 1) := by decide +kernel
theorem d12 : decode yB 12 = .ok (.invokestatic 495, 3) := by decide +kernel
theorem d15 : decode yB 15 = .ok (.ireturn, 1) := by decide +kernel
def site : List Cond := [.fieldLink "java/lang/String" 9 "java/lang/String" "value" "[B", IsL.tab, LChA.tab] ++ virtW "java/lang/String" 492 "java/lang/String" IsL.yN IsL.yN ++ staticW "java/lang/String" 495 LChA.yN
def tab : Cond := tabOf yN yB 2 (some .char) site
def P (x t : Addr) (V : Cell) (n : Nat) (f : Nat → Int32) (z : Int32) (fm : Value) (i : Nat) (args : Array Value) (s : State) : Prop := args = #[.ref x, .int (Int32.ofNat i)] ∧ Txt x t V 0 n f s ∧ i < n ∧ StaticIs s "java/lang/String" "COMPACT_STRINGS" "Z" (.int z) ∧ ¬ z = 0 ∧ StaticIs s "jdk/internal/util/Preconditions" "SIOOBE_FORMATTER" "Ljava/util/function/BiFunction;" fm ∧ fm.isRef = true
def E (f : Nat → Int32) (i : Nat) (r : Option Value) (s u : State) : Prop := XT.PureE (some (.int (f i))) r s u
/-- charAt(i) of a Latin-1 String of n chars, i < n: f i -/
theorem law (l : Launch) (x t : Addr) (V : Cell) (n : Nat) (f : Nat → Int32) (z : Int32) (fm : Value) (i : Nat) : Law l yN 2 1 3 40 yB 2 (some .char) site (P x t V n f z fm i) (E f i) [] 0 0 := by
  refine Law.of_walk (plainFor_of_name (by decide +kernel)) (by decide +kernel) (by decide +kernel) (by decide) (fun _ _ h => by rw [h.1]; rfl) (fun _ U U' hal hh h => ⟨h.1, h.2.1.mv hal hh, h.2.2.1, h.2.2.2.1.there hal hh, h.2.2.2.2.1, h.2.2.2.2.2.1.there hal hh, h.2.2.2.2.2.2⟩) (fun r U U' V V' h1 hal h2 h => XT.PureE.mv r U U' V V' h1 hal h2 h) ?_
  intro p e s m args below meth c s₁ X0 hexec hbytes hml hret hlk hnm hown hh0 W hP
  obtain ⟨rfl, hx, hi, s1, hz, s3, rf⟩ := hP
  have v31 := hx.2.2.2.1.2.2.2
  have hr := hx.2.2.2.2.2 i hi
  have hx0 := hx.mv X0.warmed.alike hh0
  have c1 : Steps p.tables e below (s₁.setTop (entryFrame m #[.ref x, .int (Int32.ofNat i)] 2)) (s₁.setTop (mkF m 1 #[.val (.ref x), .val (.int (Int32.ofNat i))] [.ref x])) := Steps.trans (entry rfl) (by
    show Steps p.tables e below (s₁.setTop (mkF m 0 #[.val (.ref x), .val (.int (Int32.ofNat i))] [])) _
    refine XS.aloadN X0.here hexec rfl (hb hbytes d0) rfl rfl ?_
    exact Steps.refl _)
  obtain ⟨v2, T2, X2, E2, g2⟩ := X0.callV hexec (IsL.law l x 0 z) hown (wks W (virtW "java/lang/String" 492 "java/lang/String" IsL.yN IsL.yN)) rfl (by decide) (wk W IsL.tab) (W := 0) (Nat.le_of_ble_eq_true rfl) (Nat.le_of_ble_eq_true rfl) (Nat.le_refl _) (Nat.le_refl _) (hx0.1.fc X0.warmed.alike) hx0.1.is (g := (mkF m 1 #[.val (.ref x), .val (.int (Int32.ofNat i))] [.ref x])) rfl (by rw [hml]; rfl) c1 (argsL := []) (rest := []) rfl rfl (by show 2 * 0 + 0 ≤ _; decide) (hb hbytes d1) (⟨rfl, hx0.2.2.1, hx.2.2.2.2.1.cd, s1.there X0.warmed.alike hh0, hz⟩)
  obtain ⟨rfl, q2⟩ := E2
  have hh2 := q2.trans hh0
  have hx2 := hx.mv X2.warmed.alike hh2
  obtain ⟨-, k1, k2⟩ | ⟨k0, -⟩ := hx.2.2.2.2.1
  · have c3 : Steps p.tables e below (s₁.setTop (entryFrame m #[.ref x, .int (Int32.ofNat i)] 2)) (T2.setTop (mkF m 8 #[.val (.ref x), .val (.int (Int32.ofNat i))] [.ref x])) := Steps.trans g2 (by
      refine XS.ifNo X2.here hexec rfl (hb hbytes d4) rfl (i0_eq_f (by decide)) ?_
      refine XS.aloadN X2.here hexec rfl (hb hbytes d7) rfl rfl ?_
      exact Steps.refl _)
    obtain ⟨T4, X4, q4, st4⟩ := X2.hget hexec hown (wk W (.fieldLink "java/lang/String" 9 "java/lang/String" "value" "[B")) hx2.2.1 (g := (mkF m 8 #[.val (.ref x), .val (.int (Int32.ofNat i))] [.ref x])) rfl (rest := []) rfl (hb hbytes d8)
    have hh4 := q4.trans hh2
    have c5 : Steps p.tables e below (s₁.setTop (entryFrame m #[.ref x, .int (Int32.ofNat i)] 2)) (T4.setTop (mkF m 12 #[.val (.ref x), .val (.int (Int32.ofNat i))] [.int (Int32.ofNat i), .ref t])) := (c3.trans (st4 _ (Steps.refl _))).trans (by
      refine XS.iloadN X4.here hexec rfl (hb hbytes d11) rfl ?_
      exact Steps.refl _)
    obtain ⟨v6, T6, X6, E6, g6⟩ := X4.callS hexec (LChA.law l t V i (lo8 (f i)) fm) hown (wks W (staticW "java/lang/String" 495 LChA.yN)) (wk W LChA.tab) (W := 0) (Nat.le_of_ble_eq_true rfl) (Nat.le_of_ble_eq_true rfl) (Nat.le_refl _) (Nat.le_refl _) (g := (mkF m 12 #[.val (.ref x), .val (.int (Int32.ofNat i))] [.int (Int32.ofNat i), .ref t])) rfl (by rw [hml]; rfl) c5 (argsL := [.ref t, .int (Int32.ofNat i)]) (rest := []) rfl rfl (by show 2 * 0 + 0 ≤ _; decide) (hb hbytes d12) (⟨rfl, hx.2.2.2.1.mv X4.warmed.alike hh4, (k2 i hi).1, s3.there X4.warmed.alike hh4, rf⟩)
    obtain ⟨rfl, q6⟩ := E6
    rw [chr8_lo8 hr.1 (k2 i hi).2] at g6
    exact ⟨T6, some (.int (f i)), _, _, _, X6, rfl, rfl, rfl, (fun h => by cases h), ⟨rfl, q6.trans hh4⟩, fun fs hl => Steps.trans g6 (X6.ireturnOut hexec hret (narrow_ch hr.1 hr.2) (Or.inr (Or.inr (Or.inr (Or.inl rfl)))) (hb hbytes d15) hl)⟩
  · exact absurd k0 (by decide)
theorem pays {l : Launch} {R : Room} {p : Program} {e : Env} {below : List Frame} {s : State} {sargs : Array Value} {len W : Nat} (x t : Addr) (V : Cell) (n : Nat) (f : Nat → Int32) (z : Int32) (fm : Value) (i : Nat) (htab : tab.before sargs s = true) (hfr : 4 ≤ R.frames) (hlo : W + 53 ≤ R.locals) :
    Back l R p e below s sargs yN len W (fun A₁ a₁ => A₁.cells + 0 ≤ R.cells ∧ A₁.slots + 0 ≤ R.slots ∧ P x t V n f z fm i a₁ A₁.U) (fun A₁ _ v₁ B₁ => E f i v₁ A₁.U B₁.U ∧ B₁.locs = A₁.locs ++ [] ∧ B₁.cells = A₁.cells + 0 ∧ B₁.slots = A₁.slots + 0) :=
  (law l x t V n f z fm i).pays htab hfr (by omega)
end ChN
end StrChars
namespace StrChars.Road
open Jvm Sem ClassFile Op Lib Jvm.Stand Jvm.Free Jvm.Free.XT
open Jvm.Lib.Cold (StaticIs)
/-- the words of String.charAt(int), the Latin-1 road alone -/
abbrev wordsChN : List Jvm.Cond := [.code ChN.yN ChN.yB 2 (some .char), .initialized ST, .fieldLink ST 9 ST "value" "[B", .fieldLink ST 38 ST "COMPACT_STRINGS" "Z", .fieldLink ST 15 ST "coder" "B", .code IsL.yN IsL.yB 1 (some .boolean), .methodLink ST 492 IsL.yN, .declares IsL.yN, .selects ST IsL.yN IsL.yN, .instanceMethod IsL.yN,
  .methodLink ST 495 LChA.yN, .static LChA.yN, .code LChA.yN LChA.yB 2 (some .char), .initialized "java/lang/StringLatin1", .methodLink "java/lang/StringLatin1" 9 JO.Str_checkIndex.yN, .static JO.Str_checkIndex.yN, .code JO.Str_checkIndex.yN JO.Str_checkIndex.yB 2 none,
  .fieldLink ST 1053 "jdk/internal/util/Preconditions" "SIOOBE_FORMATTER" "Ljava/util/function/BiFunction;", .methodLink ST 1059 JC.PreCheck.yN, .static JC.PreCheck.yN, .code JC.PreCheck.yN JC.PreCheck.yB 3 (some .int), .initialized "jdk/internal/util/Preconditions"]
theorem tabChN_of {a : Array Value} {s : State} (h : ∀ w ∈ wordsChN, w.before a s = true) : ChN.tab.before a s = true := by
  have hp : JC.PreCheck.tab.before a s = true := unparts (wk h (.code JC.PreCheck.yN JC.PreCheck.yB 3 (some .int))) (wks h (.initialized JC.PreCheck.yN.cls :: JC.PreCheck.site))
  have qk := consq hp h
  have hk : JO.Str_checkIndex.tab.before a s = true := unparts (wk qk (.code JO.Str_checkIndex.yN JO.Str_checkIndex.yB 2 none)) (wks qk (.initialized JO.Str_checkIndex.yN.cls :: JO.Str_checkIndex.site))
  have ql := consq hk h
  have hl : LChA.tab.before a s = true := unparts (wk ql (.code LChA.yN LChA.yB 2 (some .char))) (wks ql (.initialized LChA.yN.cls :: LChA.site))
  have hi : IsL.tab.before a s = true := unparts (wk h (.code IsL.yN IsL.yB 1 (some .boolean))) (wks h (.initialized IsL.yN.cls :: IsL.site))
  have q := consq hi (consq hl h)
  exact unparts (wk q (.code ChN.yN ChN.yB 2 (some .char))) (wks q (.initialized ChN.yN.cls :: ChN.site))
theorem movedChN {Z s : State} {a0 args : Array Value} (hZ : Z.Warmed39 s.vm) (hw : ∀ d ∈ wordsChN, d.before a0 Z = true) : ∀ d ∈ wordsChN, d.before args s = true := fun d hd => by
  have t : ∀ d ∈ wordsChN, (d.onTables && d.keepsFace) = true := by decide +kernel
  exact RoadKit.mv hZ (hw d hd) (t d hd)
/-- **charAt(i) OF A LATIN-1 STRING**, i < n: the char -/
theorem chN {p : Program} {l : Launch} {e : Env} {R : Room} {s : State} {args : Array Value} {below : List Frame} {len W : Nat} {Z : State} {a0 : Array Value} {h : Heap} (hZ : Z.Warmed39 s.vm) (hw : ∀ d ∈ wordsChN, d.before a0 Z = true) {kI : Nat} (wi : (Jvm.Cond.instantiable ST kI).before a0 Z = true)
    {x t : Addr} {kb : ClassId} {cs : List Int32} {N2 z : Int32} {vs : List Value} {fm : Value} {i : Nat} {j : Int32} (E : RoadKit.Exa Z h x ST) (V : RoadKit.Fld Z h x ST "value" "[B" (.ref t)) (C : RoadKit.Fld Z h x ST "coder" "B" (.int 0)) (K : RoadKit.Arv Z h t kb .byte N2 vs (.int 0)) (hc : CodA cs 0 N2 vs) (hb : ∀ c ∈ cs, ¬ c < 0 ∧ ¬ (65535 : Int32) < c)
    (S : RoadKit.Sta Z h ST "COMPACT_STRINGS" "Z" (.int z)) (hz : ¬ z = 0) (F : RoadKit.Sta Z h "jdk/internal/util/Preconditions" "SIOOBE_FORMATTER" "Ljava/util/function/BiFunction;" fm) (rf : fm.isRef = true) (l2 : cs.length ≤ 4000) (hi : i < cs.length) (hj : j = Int32.ofNat i) (hfr : 4 ≤ R.frames) (hlo : W + 53 ≤ R.locals) :
    Back l R p e below s args (⟨"java/lang/String", "charAt", "(I)C"⟩ : MethodName) len W (fun P a => a = #[.ref x, .int j] ∧ P.U.heap = h ∧ P.cells + 0 ≤ R.cells ∧ P.slots + 0 ≤ R.slots)
      (fun P _ v B => ∃ L, (v = some (.int (cs.getD i 0)) ∧ L = [] ∧ B.U.heap = h) ∧ B.locs = P.locs ++ L ∧ B.cells = P.cells + 0 ∧ B.slots = P.slots + 0) := by
  subst hj
  intro m meth c P g ig mk a X hg hsize hdg hW hn hp'
  obtain ⟨rfl, rfl, r1, r2⟩ := hp'
  have al : Z.vm.Alike P.U.vm := hZ.alike.trans X.warmed.alike
  obtain ⟨A, hx⟩ := txt_of wi al E V C K hc hb l2
  obtain ⟨v, B, X', ⟨⟨hv, hh⟩, hl, hk, hs⟩, st⟩ := ChN.pays x t A cs.length (fun j => cs.getD j 0) z fm i (tabChN_of (movedChN hZ hw)) hfr hlo m meth c P g ig mk _ X hg hsize hdg hW hn ⟨r1, r2, rfl, hx, hi, sta_is al S, hz, sta_is al F, rf⟩
  exact ⟨v, B, X', ⟨[], ⟨hv, rfl, hh⟩, hl, hk, hs⟩, st⟩
/-- what backV says of its String, as the contracts of this text ask it: cs's low bytes, coder 0 -/
theorem codOf {cs : List Int32} {n : Nat} (hn : cs.length = n) (hb : ∀ c ∈ cs, ¬ 255 < c) : CodA cs 0 (Int32.ofNat n) ((cs.map lo8).map Value.int) := Or.inl ⟨rfl, by rw [hn], by simp [List.map_map, Function.comp_def], hb⟩
end StrChars.Road
end Jvm.Pilot.@@N@@
namespace Jvm.Pilot.@@N@@
open Jvm Jvm.ClassFile Sem Op Lib Jvm.Free Jvm.Stand Jvm.LawKit Jvm.RoadKit Bundle Jvm.Pilot.@@N@@.Jvm.D
/-! 0. own tools: the goal that a walk carries; an array's store and load by what is known of it -/
def Go (tb : Tables) (e : Env) (below : List Frame) (P : State → Prop) (s : State) : Prop := ∃ s₂, Steps tb e below s s₂ ∧ P s₂
section OwnTools
variable {tb : Tables} {e : Env} {below : List Frame} {P : State → Prop} {A B : State}
theorem Go.st (h : ∀ t, Steps tb e below A t → Steps tb e below B t) (g : Go tb e below P A) : Go tb e below P B := by
  obtain ⟨s₂, h1, h2⟩ := g
  exact ⟨s₂, h _ h1, h2⟩
theorem Go.tr (h : Steps tb e below B A) (g : Go tb e below P A) : Go tb e below P B := by
  obtain ⟨s₂, h1, h2⟩ := g
  exact ⟨s₂, h.trans h1, h2⟩
theorem Go.start {Q : Outcome → State → Prop} (h : ∀ P : State → Prop, (∀ s₂ o, s₂.status = .running → Ended s₂ below o → Q o s₂ → P s₂) → Go tb e below P A) : ∃ s₂ o, Steps tb e below A s₂ ∧ s₂.status = .running ∧ Ended s₂ below o ∧ Q o s₂ := by
  obtain ⟨s₂, h1, o, h2, h3, h4⟩ := h (fun s₂ => ∃ o, s₂.status = .running ∧ Ended s₂ below o ∧ Q o s₂) (fun s₂ o a b c => ⟨o, a, b, c⟩)
  exact ⟨s₂, o, h1, h2, h3, h4⟩
abbrev lR (a : Addr) : Slot := .val (.ref a)
abbrev lI (x : Int32) : Slot := .val (.int x)
abbrev lJ (x : Int64) : Slot := .val (.long x)
abbrev lD (x : UInt64) : Slot := .val (.double x)
abbrev lN : Slot := .val .null
abbrev lU : Slot := .unset
abbrev lS : Slot := .second
theorem ow {a0 : Array Value} {Z : State} (hw : ∀ d ∈ tables_1, d.before a0 Z = true) (i : Nat) {d : Jvm.Cond} (h : tables_1[i]? = some d) : d.before a0 Z = true := hw d (List.mem_of_getElem? h)
theorem own_oldsz {Z : State} {n0 : Nat} {h : Heap} (X : Old Z n0 h) : n0 ≤ h.size := by have := X.1; have := X.2.1; omega
theorem own_cat {v : Value} (h : v.isRef = true) : v.category = 1 := by cases v <;> first | rfl | simp [Value.isRef] at h
theorem own_refcase {v : Value} (h : v.isRef = true) : v = .null ∨ ∃ a, v = .ref a := by cases v <;> first | (left; rfl) | (right; exact ⟨_, rfl⟩) | (simp [Value.isRef] at h)
theorem own_nar_ref {v : Value} {t : FieldType} (h : v.isRef = true) : narrow t v = v := by cases v <;> first | (simp [Value.isRef] at h; done) | (cases t <;> rfl)
theorem own_fits_ref {v : Value} {t : FieldType} (h : v.isRef = true) (ht : t.isReference = true := by rfl) : fits t v = true := by cases v <;> first | (simp [Value.isRef] at h; done) | (cases t <;> first | rfl | (simp [FieldType.isReference] at ht))
theorem own_eq_ref {args : Array Value} {first s : State} {o : Option Outcome} {idx : List Nat} {a b : Term} {w : Addr} (hb : b.eval args first o idx s = some (.ref w)) (h : (Cond.eq a b).value args first o s idx = some true) : a.eval args first o idx s = some (.ref w) := by
  cases ha : a.eval args first o idx s with
  | none => simp [Cond.value, ha] at h
  | some x => cases x <;> simp [Cond.value, ha, hb] at h ⊢; exact h
theorem own_len_start {args : Array Value} {s : State} {t : Term} {n : Int32} {a : Addr} {cl : Cell} (h : (Term.length t).eval args s none [] s = some (.int n)) (ht : t.eval args s none [] s = some (.ref a)) (hc : s.heap[a]? = some cl) : cl.slots.size < 2 ^ 31 ∧ cl.slots.size.toInt32 = n := by
  simp only [Term.eval, ht, Option.bind_eq_bind, Option.bind_some] at h
  cases hq : s.arrayAt? a with
  | none => simp [hq] at h
  | some c2 =>
    have e := (State.arrayAt?_spec hq).1
    cases hc.symm.trans e
    simp only [hq, Option.bind_some] at h
    split at h
    · rename_i hlt; exact ⟨hlt, by simpa using h⟩
    · cases h
theorem own_since (s : State) : s.Since s.vm 0 := (State.WarmedH.refl s).since 0
theorem own_and255 (x : Int32) : ¬ (x &&& 255) < 0 ∧ ¬ (255 : Int32) < (x &&& 255) := by
  have h := c_and x 255 (by decide)
  have e0 : (0 : Int32).toInt = 0 := rfl
  have e1 : (255 : Int32).toInt = 255 := rfl
  rw [Int32.lt_iff_toInt_lt, Int32.lt_iff_toInt_lt]
  omega
theorem own_nar_i2c (x : Int32) : nar .char (x.toUInt32.toUInt16.toUInt32.toInt32) = x.toUInt32.toUInt16.toUInt32.toInt32 := by
  show (x.toUInt32.toUInt16.toUInt32.toInt32).toUInt32.toUInt16.toUInt32.toInt32 = _
  rw [UInt32.toUInt32_toInt32, UInt16.toUInt16_toUInt32]
theorem own_nar_i2b (x : Int32) : nar .byte (x.toInt8.toInt32) = x.toInt8.toInt32 := by
  show (x.toInt8.toInt32).toInt8.toInt32 = _
  simp
theorem own_narZ {x : Int32} (h : x = 0 ∨ x = 1) : nar .boolean x = x := by rcases h with rfl | rfl <;> rfl
theorem own_up (cs : List Int32) (h : ∀ c ∈ cs, ¬ c < 0 ∧ ¬ (255 : Int32) < c) : ∀ c ∈ cs, ¬ c < 0 ∧ ¬ (65535 : Int32) < c := fun c hc => ⟨(h c hc).1, fun q => (h c hc).2 (by rw [Int32.lt_iff_toInt_lt] at q ⊢; have e1 : (65535 : Int32).toInt = 65535 := rfl; have e2 : (255 : Int32).toInt = 255 := rfl; omega)⟩
theorem own_narC {x : Int32} (h : ¬ x < 0 ∧ ¬ (255 : Int32) < x) : nar .char x = x := by
  have e0 : (0 : Int32).toInt = 0 := rfl
  have e1 : (255 : Int32).toInt = 255 := rfl
  have a := h.1
  have b := h.2
  rw [Int32.lt_iff_toInt_lt, e0] at a
  rw [Int32.lt_iff_toInt_lt, e1] at b
  have c := c_i2c x
  exact Int32.toInt_inj.mp (show x.toUInt32.toUInt16.toUInt32.toInt32.toInt = x.toInt by omega)
theorem own_int {r : Int32} {k : Int} (h : r.toInt = k) {q : Int32} (hq : q.toInt = k) : r = q := Int32.toInt_inj.mp (by rw [h, hq])
end OwnTools
section OwnArrays
variable {p : Program} {l : Launch} {e : Env} {R : Room} {s : State} {m : MethodId} {args : Array Value} {below : List Frame} {meth : Method} {c : Code} {T : State} {locs : List Loc} {cells slots : Nat} {Z : State} {h : Heap} {a : Addr} {k : ClassId} {z : Int32} {vs : List Value} {dv : Value}
theorem own_stC (X : Stand p l e R s m args below meth c T locs cells slots) (hx : p.tables.exec = Jvm.exec) (hZ : Z.Warmed39 s.vm) (eT : T.heap = h) (V : Arv Z h a k .char z vs dv) {j x : Int32} {i : Nat} (hj : ¬ j < 0 ∧ j < z) (hji : j.toNatClampNeg = i) (hi : i < vs.length) {g : JFrame} (hg : g.method = m) {rest : List Value} (hs : g.stack = .int x :: .int j :: .ref a :: rest) (hd : decode c.code g.pc = .ok (.castore, 1)) :
    ∃ T' h', Stand p l e R s m args below meth c T' (locs ++ [⟨a, j.toNatClampNeg⟩]) cells slots ∧ T'.heap = h' ∧ Wr h h' a j.toNatClampNeg (.int (nar .char x)) ∧ Arv Z h' a k .char z (vs.set i (.int (nar .char x))) dv ∧ ∀ target, Steps p.tables e below (T'.setTop { g with pc := g.pc + 1, stack := rest }) target → Steps p.tables e below (T.setTop g) target := by
  obtain ⟨cl, A, q1, S, q3, H, G⟩ := V
  obtain ⟨T', h', X', e', W, st⟩ := stC X hx hZ eT A (inb_of S hj) hg hs hd
  exact ⟨T', h', X', e', W, Arv.set A q1 S q3 H G (fits_nar_char x) W i hji hi, st⟩
theorem own_stI (X : Stand p l e R s m args below meth c T locs cells slots) (hx : p.tables.exec = Jvm.exec) (hZ : Z.Warmed39 s.vm) (eT : T.heap = h) (V : Arv Z h a k .int z vs dv) {j x : Int32} {i : Nat} (hj : ¬ j < 0 ∧ j < z) (hji : j.toNatClampNeg = i) (hi : i < vs.length) {g : JFrame} (hg : g.method = m) {rest : List Value} (hs : g.stack = .int x :: .int j :: .ref a :: rest) (hd : decode c.code g.pc = .ok (.iastore, 1)) :
    ∃ T' h', Stand p l e R s m args below meth c T' (locs ++ [⟨a, j.toNatClampNeg⟩]) cells slots ∧ T'.heap = h' ∧ Wr h h' a j.toNatClampNeg (.int x) ∧ Arv Z h' a k .int z (vs.set i (.int x)) dv ∧ ∀ target, Steps p.tables e below (T'.setTop { g with pc := g.pc + 1, stack := rest }) target → Steps p.tables e below (T.setTop g) target := by
  obtain ⟨cl, A, q1, S, q3, H, G⟩ := V
  obtain ⟨T', h', X', e', W, st⟩ := stI X hx hZ eT A (inb_of S hj) hg hs hd
  exact ⟨T', h', X', e', W, Arv.set A q1 S q3 H G rfl W i hji hi, st⟩
theorem own_stZ (X : Stand p l e R s m args below meth c T locs cells slots) (hx : p.tables.exec = Jvm.exec) (hZ : Z.Warmed39 s.vm) (eT : T.heap = h) (V : Arv Z h a k .boolean z vs dv) {j x : Int32} {i : Nat} (hj : ¬ j < 0 ∧ j < z) (hji : j.toNatClampNeg = i) (hi : i < vs.length) {g : JFrame} (hg : g.method = m) {rest : List Value} (hs : g.stack = .int x :: .int j :: .ref a :: rest) (hd : decode c.code g.pc = .ok (.bastore, 1)) :
    ∃ T' h', Stand p l e R s m args below meth c T' (locs ++ [⟨a, j.toNatClampNeg⟩]) cells slots ∧ T'.heap = h' ∧ Wr h h' a j.toNatClampNeg (.int (nar .boolean x)) ∧ Arv Z h' a k .boolean z (vs.set i (.int (nar .boolean x))) dv ∧ ∀ target, Steps p.tables e below (T'.setTop { g with pc := g.pc + 1, stack := rest }) target → Steps p.tables e below (T.setTop g) target := by
  obtain ⟨cl, A, q1, S, q3, H, G⟩ := V
  obtain ⟨T', h', X', e', W, st⟩ := stZ X hx hZ eT A (inb_of S hj) hg hs hd
  exact ⟨T', h', X', e', W, Arv.set A q1 S q3 H G (fits_nar_bool x) W i hji hi, st⟩
theorem own_stB (X : Stand p l e R s m args below meth c T locs cells slots) (hx : p.tables.exec = Jvm.exec) (hZ : Z.Warmed39 s.vm) (eT : T.heap = h) (V : Arv Z h a k .byte z vs dv) {j x : Int32} {i : Nat} (hj : ¬ j < 0 ∧ j < z) (hji : j.toNatClampNeg = i) (hi : i < vs.length) {g : JFrame} (hg : g.method = m) {rest : List Value} (hs : g.stack = .int x :: .int j :: .ref a :: rest) (hd : decode c.code g.pc = .ok (.bastore, 1)) :
    ∃ T' h', Stand p l e R s m args below meth c T' (locs ++ [⟨a, j.toNatClampNeg⟩]) cells slots ∧ T'.heap = h' ∧ Wr h h' a j.toNatClampNeg (.int (nar .byte x)) ∧ Arv Z h' a k .byte z (vs.set i (.int (nar .byte x))) dv ∧ ∀ target, Steps p.tables e below (T'.setTop { g with pc := g.pc + 1, stack := rest }) target → Steps p.tables e below (T.setTop g) target := by
  obtain ⟨cl, A, q1, S, q3, H, G⟩ := V
  obtain ⟨T', h', X', e', W, st⟩ := stB X hx hZ eT A (inb_of S hj) hg hs hd
  exact ⟨T', h', X', e', W, Arv.set A q1 S q3 H G (fits_nar_byte x) W i hji hi, st⟩
theorem own_stD (X : Stand p l e R s m args below meth c T locs cells slots) (hx : p.tables.exec = Jvm.exec) (hZ : Z.Warmed39 s.vm) (eT : T.heap = h) (V : Arv Z h a k .double z vs dv) {j : Int32} {x : UInt64} {i : Nat} (hj : ¬ j < 0 ∧ j < z) (hji : j.toNatClampNeg = i) (hi : i < vs.length) {g : JFrame} (hg : g.method = m) {rest : List Value} (hs : g.stack = .double x :: .int j :: .ref a :: rest) (hd : decode c.code g.pc = .ok (.dastore, 1)) :
    ∃ T' h', Stand p l e R s m args below meth c T' (locs ++ [⟨a, j.toNatClampNeg⟩]) cells slots ∧ T'.heap = h' ∧ Wr h h' a j.toNatClampNeg (.double x) ∧ Arv Z h' a k .double z (vs.set i (.double x)) dv ∧ ∀ target, Steps p.tables e below (T'.setTop { g with pc := g.pc + 1, stack := rest }) target → Steps p.tables e below (T.setTop g) target := by
  obtain ⟨cl, A, q1, S, q3, H, G⟩ := V
  obtain ⟨T', h', X', e', W, st⟩ := stD X hx hZ eT A (inb_of S hj) hg hs hd
  exact ⟨T', h', X', e', W, Arv.set A q1 S q3 H G rfl W i hji hi, st⟩
theorem own_at {ty : FieldType} (V : Arv Z h a k ty z vs dv) {j : Int32} {i : Nat} {v : Value} (hj : ¬ j < 0 ∧ j < z) (hji : j.toNatClampNeg = i) (hv : vs.getD i dv = v) : ∃ cl : Cell, Arr Z h a cl ty ∧ ¬ (j < 0 ∨ cl.slots.size ≤ j.toNatClampNeg) ∧ cl.slots[j.toNatClampNeg]? = some v := by
  obtain ⟨cl, A, q1, S, q3, H, G⟩ := V
  exact ⟨cl, A, inb_of S hj, Has.at H (inb_of S hj) (by rw [hji]; exact hv)⟩
theorem own_ldI (X : Stand p l e R s m args below meth c T locs cells slots) (hx : p.tables.exec = Jvm.exec) (hZ : Z.Warmed39 s.vm) (eT : T.heap = h) (V : Arv Z h a k .int z vs dv) {j : Int32} {i : Nat} {v : Value} (hj : ¬ j < 0 ∧ j < z) (hji : j.toNatClampNeg = i) (hv : vs.getD i dv = v) {g : JFrame} (hg : g.method = m) {rest : List Value} (hs : g.stack = .int j :: .ref a :: rest) (hd : decode c.code g.pc = .ok (.iaload, 1)) (target : State) :
    Steps p.tables e below (T.setTop { g with pc := g.pc + 1, stack := v :: rest }) target → Steps p.tables e below (T.setTop g) target := by
  obtain ⟨cl, A, hin, hat⟩ := own_at V hj hji hv
  exact X.iaload hx (by rw [eT]; exact A.1) (State.isArrayOf_alike hZ.alike A.2.1) A.2.2 hin hat hg hs hd target
theorem own_ldC (X : Stand p l e R s m args below meth c T locs cells slots) (hx : p.tables.exec = Jvm.exec) (hZ : Z.Warmed39 s.vm) (eT : T.heap = h) (V : Arv Z h a k .char z vs dv) {j : Int32} {i : Nat} {v : Value} (hj : ¬ j < 0 ∧ j < z) (hji : j.toNatClampNeg = i) (hv : vs.getD i dv = v) {g : JFrame} (hg : g.method = m) {rest : List Value} (hs : g.stack = .int j :: .ref a :: rest) (hd : decode c.code g.pc = .ok (.caload, 1)) (target : State) :
    Steps p.tables e below (T.setTop { g with pc := g.pc + 1, stack := v :: rest }) target → Steps p.tables e below (T.setTop g) target := by
  obtain ⟨cl, A, hin, hat⟩ := own_at V hj hji hv
  exact X.caload hx (by rw [eT]; exact A.1) (State.isArrayOf_alike hZ.alike A.2.1) A.2.2 hin hat hg hs hd target
theorem own_ldZ (X : Stand p l e R s m args below meth c T locs cells slots) (hx : p.tables.exec = Jvm.exec) (hZ : Z.Warmed39 s.vm) (eT : T.heap = h) (V : Arv Z h a k .boolean z vs dv) {j : Int32} {i : Nat} {v : Value} (hj : ¬ j < 0 ∧ j < z) (hji : j.toNatClampNeg = i) (hv : vs.getD i dv = v) {g : JFrame} (hg : g.method = m) {rest : List Value} (hs : g.stack = .int j :: .ref a :: rest) (hd : decode c.code g.pc = .ok (.baload, 1)) (target : State) :
    Steps p.tables e below (T.setTop { g with pc := g.pc + 1, stack := v :: rest }) target → Steps p.tables e below (T.setTop g) target := by
  obtain ⟨cl, A, hin, hat⟩ := own_at V hj hji hv
  exact X.baloadBooleans hx (by rw [eT]; exact A.1) (State.isArrayOf_alike hZ.alike A.2.1) A.2.2 hin hat hg hs hd target
theorem own_ldB (X : Stand p l e R s m args below meth c T locs cells slots) (hx : p.tables.exec = Jvm.exec) (hZ : Z.Warmed39 s.vm) (eT : T.heap = h) (V : Arv Z h a k .byte z vs dv) {j : Int32} {i : Nat} {v : Value} (hj : ¬ j < 0 ∧ j < z) (hji : j.toNatClampNeg = i) (hv : vs.getD i dv = v) {g : JFrame} (hg : g.method = m) {rest : List Value} (hs : g.stack = .int j :: .ref a :: rest) (hd : decode c.code g.pc = .ok (.baload, 1)) (target : State) :
    Steps p.tables e below (T.setTop { g with pc := g.pc + 1, stack := v :: rest }) target → Steps p.tables e below (T.setTop g) target := by
  obtain ⟨cl, A, hin, hat⟩ := own_at V hj hji hv
  exact X.baloadBytes hx (by rw [eT]; exact A.1) (State.isArrayOf_alike hZ.alike A.2.1) A.2.2 hin hat hg hs hd target
theorem own_ldD (X : Stand p l e R s m args below meth c T locs cells slots) (hx : p.tables.exec = Jvm.exec) (hZ : Z.Warmed39 s.vm) (eT : T.heap = h) (V : Arv Z h a k .double z vs dv) {j : Int32} {i : Nat} {v : Value} (hj : ¬ j < 0 ∧ j < z) (hji : j.toNatClampNeg = i) (hv : vs.getD i dv = v) {g : JFrame} (hg : g.method = m) {rest : List Value} (hs : g.stack = .int j :: .ref a :: rest) (hd : decode c.code g.pc = .ok (.daload, 1)) (target : State) :
    Steps p.tables e below (T.setTop { g with pc := g.pc + 1, stack := v :: rest }) target → Steps p.tables e below (T.setTop g) target := by
  obtain ⟨cl, A, hin, hat⟩ := own_at V hj hji hv
  exact X.daload hx (by rw [eT]; exact A.1) (State.isArrayOf_alike hZ.alike A.2.1) A.2.2 hin hat hg hs hd target
theorem own_ldR {C : String} (X : Stand p l e R s m args below meth c T locs cells slots) (hx : p.tables.exec = Jvm.exec) (hZ : Z.Warmed39 s.vm) (eT : T.heap = h) (V : Arv Z h a k (.object C) z vs dv) {j : Int32} {i : Nat} {v : Value} (hj : ¬ j < 0 ∧ j < z) (hji : j.toNatClampNeg = i) (hv : vs.getD i dv = v) {g : JFrame} (hg : g.method = m) {rest : List Value} (hs : g.stack = .int j :: .ref a :: rest) (hd : decode c.code g.pc = .ok (.aaload, 1)) (target : State) :
    Steps p.tables e below (T.setTop { g with pc := g.pc + 1, stack := v :: rest }) target → Steps p.tables e below (T.setTop g) target := by
  obtain ⟨cl, A, hin, hat⟩ := own_at V hj hji hv
  exact X.aaload hx (by rw [eT]; exact A.1) (State.isArrayOf_alike hZ.alike A.2.1) rfl A.2.2 hin hat hg hs hd target
theorem own_len {ty : FieldType} (X : Stand p l e R s m args below meth c T locs cells slots) (hx : p.tables.exec = Jvm.exec) (hZ : Z.Warmed39 s.vm) (eT : T.heap = h) (V : Arv Z h a k ty z vs dv) {g : JFrame} (hg : g.method = m) {rest : List Value} (hs : g.stack = .ref a :: rest) (hd : decode c.code g.pc = .ok (.arraylength, 1)) (target : State) :
    Steps p.tables e below (T.setTop { g with pc := g.pc + 1, stack := .int z :: rest }) target → Steps p.tables e below (T.setTop g) target := by
  obtain ⟨cl, A, q1, S, q3, H, G⟩ := V
  have q := X.arraylength hx (by rw [eT]; exact A.1) (State.isArrayOf_alike hZ.alike A.2.1) hg hs hd target
  rw [len_of S q3] at q
  exact q
theorem own_getD_int (xs : List Int32) (i : Nat) : (xs.map Value.int).getD i (.int 0) = .int (xs.getD i 0) := by
  simp only [List.getD_eq_getElem?_getD, List.getElem?_map]
  cases xs[i]? <;> rfl
theorem own_arv_set {ty : FieldType} {xs : List Int32} {i : Nat} {v : Int32} (V : Arv Z h a k ty z ((xs.map Value.int).set i (.int v)) dv) : Arv Z h a k ty z ((xs.set i v).map Value.int) dv := by rw [List.map_set]; exact V
end OwnArrays

theorem own_strAtoms : ∀ a ∈ Bundle.stringAtoms, a ∈ tables_1 := by decide +kernel
theorem own_wNew : ∀ d ∈ StrChars.Road.words, d ∈ tables_1 := by decide +kernel
theorem own_wLen : ∀ d ∈ StrChars.Road.wordsLen, d ∈ tables_1 := by decide +kernel
theorem own_wCh : ∀ d ∈ StrChars.Road.wordsChN, d ∈ tables_1 := by decide +kernel
theorem own_safe_null {Z : State} {EL : List (String × Nat)} {vm : Vm} {h : Heap} {x : Addr} (hal : Z.vm.Alike vm) (E : Exa Z h x "java/lang/String") (V : Fld Z h x "java/lang/String" "value" "[B" .null) : Safe Z EL vm h x := fun B => by
  obtain ⟨p, hp, u, a, hb, q, hqa, F, hy⟩ := B
  obtain ⟨cS, ⟨⟨s1, s2, s3, ⟨cv, kv, iv, s4, s4'⟩, s5, s6, s7, s8, s9, s10, srest⟩, hfS, hcS⟩, k1, hB, hbyt⟩ := F
  rcases hy with rfl | rfl
  · obtain ⟨cell, cf, k, i, f, h1, h2, h3, h4, h5, h6, h7⟩ := V
    have e1 : h[q.sa]? = some q.sC := s1
    cases h1.symm.trans e1
    obtain ⟨kv', z4⟩ := ff_back (U := Wst Z vm h) hal s4
    have z5 := h2.symm.trans z4
    simp only [Option.some.injEq, Prod.mk.injEq] at z5
    rw [z5.2.2.2, s8] at h7
    cases h7
  · obtain ⟨cell, k, h1, h2, h3, h4, h5⟩ := E
    have e1 : h[q.sd]? = some q.SA := s10
    cases h1.symm.trans e1
    have hB' : vm.findClass "[B" = some q.SA.cls := hB
    rw [hal.findClass] at hB'
    obtain ⟨ka, a1, a2⟩ := Vm.findClass_spec h2
    obtain ⟨kb, b1, b2⟩ := Vm.findClass_spec hB'
    cases a1.symm.trans b1
    exact absurd (a2.symm.trans b2) (by decide)
theorem own_arvN {Z : State} {h : Heap} {t : Addr} {k : ClassId} {cs : List Int32} {n : Nat} {vs : List Value} {dv : Value} (hn : cs.length = n) (A : Arv Z h t k .byte (Int32.ofNat n) vs dv) : Arv Z h t k .byte (Int32.ofNat cs.length) vs dv := by rw [hn]; exact A
theorem own_set_small {xs : List Int32} {i : Nat} {v : Int32} (h : ∀ c ∈ xs, ¬ c < 0 ∧ ¬ (255 : Int32) < c) (hv : ¬ v < 0 ∧ ¬ (255 : Int32) < v) : ∀ c ∈ xs.set i v, ¬ c < 0 ∧ ¬ (255 : Int32) < c := fun c hc => by
  rcases List.mem_or_eq_of_mem_set hc with q | q
  · exact h c q
  · rw [q]; exact hv
theorem own_set_eq {xs : List Int32} {i : Nat} {v : Int32} (hi : i < xs.length) : xs.set i v = xs ↔ v = xs.getD i 0 := by
  constructor
  · intro q
    have e := congrArg (fun l : List Int32 => l.getD i 0) q
    simp only [List.getD_eq_getElem?_getD, List.getElem?_set_self hi] at e
    simpa [List.getD_eq_getElem?_getD] using e
  · intro q
    apply List.ext_getElem?
    intro j
    rw [List.getElem?_set]
    split
    · rename_i e; subst e; rw [q, List.getD_eq_getElem?_getD, List.getElem?_eq_getElem hi]; simp [hi]
    · rfl
theorem own_natback {j : Int32} (h : ¬ j < 0) : j = Int32.ofNat j.toNatClampNeg := (back32 h).1.symm
section OwnCopy
variable {p : Program} {l : Launch} {e : Env} {R : Room} {s : State} {m : MethodId} {args : Array Value} {below : List Frame} {meth : Method} {c : Code} {T : State} {locs : List Loc} {cells slots : Nat} {Z : State} {h : Heap}
theorem own_fits_int {v : Value} (h : fits .byte v = true) : ∃ x, v = .int x := by
  cases v <;> first | exact ⟨_, rfl⟩ | cases h
/-- System.arraycopy of n bytes, from place o of src to place q of dst -/
theorem own_acopy (X : Stand p l e R s m args below meth c T locs cells slots) (hx : p.tables.exec = Jvm.exec) (hZ : Z.Warmed39 s.vm) (eT : T.heap = h) {own : String} {index : Nat} (hown : s.vm.findClass own = some m.cls)
    (hlink : (Cond.methodLink own index Stand.acN).before args s = true) (hnat : (Cond.native Stand.acN).before args s = true) (hstat : (Cond.static Stand.acN).before args s = true) (hinit : (Cond.initialized "java/lang/System").before args s = true)
    {src dst : Addr} {ks kd : ClassId} {zs zd : Int32} {vss vsd ws : List Value} (S : Arv Z h src ks .byte zs vss (.int 0)) (D : Arv Z h dst kd .byte zd vsd (.int 0)) {o q n : Nat} (hso : o + n ≤ zs.toNatClampNeg) (hdo : q + n ≤ zd.toNatClampNeg)
    (hws : ∀ i, i < zd.toNatClampNeg → ws.getD i (.int 0) = if q ≤ i ∧ i < q + n then vss.getD (o + (i - q)) (.int 0) else vsd.getD i (.int 0))
    {g : JFrame} (hg : g.method = m) (hsize : g.locals.size = c.maxLocals) {rest : List Value} {jo jq jn : Int32} (ejo : jo = Int32.ofNat o) (ejq : jq = Int32.ofNat q) (ejn : jn = Int32.ofNat n) (hstack : g.stack = .int jn :: .int jq :: .ref dst :: .int jo :: .ref src :: rest) (hdg : decode c.code g.pc = .ok (.invokestatic index, 3))
    (hfr : 1 ≤ R.frames) (hlo : 2 * g.monitorRoom + (rest.map fun v => v.category).sum + (nativeFrameWords "java/lang/System" "arraycopy" 5 + 11) ≤ R.locals) :
    ∃ T' L', Stand p l e R s m args below meth c T' (locs ++ L') cells slots ∧ (∀ k, k ≤ dst → Fr k L') ∧ Keep h T'.heap [dst] ∧ Arv Z T'.heap dst kd .byte zd ws (.int 0) ∧ ∀ target, Steps p.tables e below (T'.setTop { g with pc := g.pc + 3, stack := rest }) target → Steps p.tables e below (T.setTop g) target := by
  subst ejo ejq ejn
  obtain ⟨cs, ⟨s1, s2, s3⟩, -, sz, -, sH, sG⟩ := S
  obtain ⟨cd, ⟨d1, d2, d3⟩, dk, dz, dn, dH, dG⟩ := D
  obtain ⟨sv, kS, hkS, compS, hkindS⟩ := State.isArrayOf_alike hZ.alike s2
  obtain ⟨dv, kD, hkD, compD, hkindD⟩ := State.isArrayOf_alike hZ.alike d2
  have zlt : ∀ z : Int32, z.toNatClampNeg < 2 ^ 31 := fun z => by have := z.toInt_lt; show z.toInt.toNat < 2 ^ 31; omega
  have l1 := zlt zs
  have l2 := zlt zd
  have ho : o < 2 ^ 31 := by omega
  have hq : q < 2 ^ 31 := by omega
  have hn : n < 2 ^ 31 := by omega
  have to : (Int32.ofNat o).toInt = (o : Int) := len_toInt ho
  have tq : (Int32.ofNat q).toInt = (q : Int) := len_toInt hq
  have tn : (Int32.ofNat n).toInt = (n : Int) := len_toInt hn
  have z0 : (0 : Int32).toInt = 0 := rfl
  have no : (Int32.ofNat o).toNatClampNeg = o := by show (Int32.ofNat o).toInt.toNat = o; omega
  have nq : (Int32.ofNat q).toNatClampNeg = q := by show (Int32.ofNat q).toInt.toNat = q; omega
  have nn : (Int32.ofNat n).toNatClampNeg = n := by show (Int32.ofNat n).toInt.toNat = n; omega
  have sAt : ∀ i, i < cs.slots.size → cs.slots.getD i .null = vss.getD i (.int 0) := fun i hi => by
    have h1 := sH i hi
    rw [Array.getD_eq_getD_getElem?, h1]; rfl
  obtain ⟨vm₁, hW, X', st⟩ := X.arraycopyK hx (own := own) (index := index) hown hlink hnat hstat hinit (src := src) (dst := dst) (srcPos := Int32.ofNat o) (destPos := Int32.ofNat q) (n := Int32.ofNat n) (cs := cs) (cd := cd)
    (by rw [eT]; exact s1) (by rw [eT]; exact d1) sv dv s3 d3 hkS hkD hkindS hkindD (by decide)
    (by rw [Int32.lt_iff_toInt_lt, z0]; omega) (by rw [Int32.lt_iff_toInt_lt, z0]; omega) (by rw [Int32.lt_iff_toInt_lt, z0]; omega) (by rw [to, tn]; omega) (by rw [tq, tn]; omega)
    (fun vm hW i hi => by
      rw [nn] at hi
      rw [no, sAt _ (by omega)]
      have hf := sG (o + i) (by omega)
      refine ⟨hf, ?_⟩
      obtain ⟨x, hx⟩ := own_fits_int hf
      rw [hx]; trivial)
    hg hsize hstack hdg hfr hlo
  have hlt : dst < h.size := (Array.getElem?_eq_some_iff.mp d1).1
  have eh : ((T.setVm vm₁).setCell dst (copied cs cd (Int32.ofNat o) (Int32.ofNat q) (Int32.ofNat n))).heap = h.setIfInBounds dst (copied cs cd (Int32.ofNat o) (Int32.ofNat q) (Int32.ofNat n)) := by rw [← eT]; rfl
  have cf := Jvm.Free.SB.copied_facts cs cd (Int32.ofNat o) (Int32.ofNat q) (Int32.ofNat n)
  have at2 := Jvm.Free.Str.copied_at2 (cs := cs) (cd := cd) ho hq hn (show q + n ≤ cd.slots.size by omega)
  refine ⟨_, _, X', fun k hk y hy => by rw [Stand.copyLocs_base hy]; exact hk, ?_, ?_, st⟩
  · rw [eh]
    refine ⟨by simp, fun x cx hcx hx => ?_, fun x cx hcx => ?_⟩
    · have : dst ≠ x := fun z => hx (by simp [z])
      rw [Array.getElem?_setIfInBounds_ne this]; exact hcx
    · by_cases z : dst = x
      · subst z
        cases d1.symm.trans hcx
        exact ⟨_, Array.getElem?_setIfInBounds_self_of_lt hlt, cf.1, cf.2.1, cf.2.2⟩
      · exact ⟨cx, by rw [Array.getElem?_setIfInBounds_ne z]; exact hcx, rfl, rfl, rfl⟩
  · rw [eh]
    have key : ∀ i, i < cd.slots.size → (copied cs cd (Int32.ofNat o) (Int32.ofNat q) (Int32.ofNat n)).slots[i]? = some (ws.getD i (.int 0)) := fun i hi => by
      rw [at2, hws i (by omega)]
      by_cases h : q ≤ i ∧ i < q + n
      · rw [if_pos h, if_pos h, sAt _ (by omega)]
      · rw [if_neg h, if_neg h]; exact dH i hi
    refine ⟨_, ⟨Array.getElem?_setIfInBounds_self_of_lt hlt, ?_, ?_⟩, cf.1.trans dk, cf.2.2.trans dz, dn, fun i hi => key i (by rw [cf.2.2] at hi; exact hi), fun i hi => ?_⟩
    · obtain ⟨v0, k0, h0, r0⟩ := d2
      exact ⟨by rw [cf.2.1]; exact v0, k0, by rw [cf.1]; exact h0, r0⟩
    · rw [cf.2.1]; exact d3
    · rw [cf.2.2] at hi
      rw [hws i (by omega)]
      split
      · exact sG _ (by omega)
      · exact dG i hi
end OwnCopy

section OwnSb
theorem own_declares {a0 : Array Value} {Z : State} {y : MethodName} {bytes : ByteArray} {n : Nat} {ret : Option FieldType} (hi : (Cond.instanceMethod y).before a0 Z = true) (hc : (Cond.code y bytes n ret).before a0 Z = true) : (Cond.declares y).before a0 Z = true := by
  obtain ⟨mk, meth, hn, hm, hst, -⟩ := Cond.instanceMethod_spec hi
  obtain ⟨m2, cM, q1, -, -, -, -, -, -, hsig⟩ := Cond.code_spec hn hc
  cases hm.symm.trans q1
  simp [Cond.before, Cond.holds, Cond.value, hn, hm, hst, hsig]
theorem own_sameself {a0 : Array Value} {Z : State} {C : String} {x y y2 : MethodName} (hi : (Cond.instanceMethod y).before a0 Z = true) (hs : (Cond.selects C x y2).before a0 Z = true) (hc : y2.cls = y.cls) (hy : y.cls ≠ "java/lang/invoke/MethodHandle" ∧ y.cls ≠ "java/lang/invoke/VarHandle") : (Cond.sameMethod y.cls y.cls y.name y.desc).before a0 Z = true := by
  obtain ⟨mk, meth, hn, hm, -, -⟩ := Cond.instanceMethod_spec hi
  obtain ⟨c, r, m, -, -, q3, -, kP, hkP, hkPi⟩ := Cond.selects_spec hs
  have h1 := findClass_of_methodNamed hn
  have h2 := findClass_of_methodNamed q3
  rw [hc, h1] at h2
  have h3 : mk.cls = m.cls := Option.some.inj h2
  have hf := State.methodFound?_of_named hn hy
  have hn' : Z.methodNamed? ⟨y.cls, y.name, y.desc⟩ = some mk := hn
  simp [Cond.before, Cond.holds, Cond.value, h1, hf, hn', h3, hkP, hkPi]
theorem own_nf {args : Array Value} {s : State} {C : String} {x y y2 : MethodName} (hs : (Cond.selects C x y2).before args s = true) (hc : y2.cls = y.cls) : NotFace s y := fun r0 h0 => by
  obtain ⟨c, r, m, -, -, q3, -, kP, hkP, hkPi⟩ := Cond.selects_spec hs
  have h1 := findClass_of_methodNamed h0
  have h2 := findClass_of_methodNamed q3
  rw [hc, h1] at h2
  have h3 : r0.cls = m.cls := Option.some.inj h2
  exact ⟨kP, by rw [h3]; exact hkP, hkPi⟩
theorem own_ishl0 (x : Int32) : x <<< ((0 : Int32) &&& 31) = x := by
  rw [show (0 : Int32) &&& 31 = 0 from by decide]; exact Int32.toBitVec_inj.mp (by simp)
theorem own_ishr0 (x : Int32) : x >>> ((0 : Int32) &&& 31) = x := by
  rw [show (0 : Int32) &&& 31 = 0 from by decide]; exact Int32.toBitVec_inj.mp (by simp)
theorem own_sub0 (x : Int32) : x - (0 : Int32) = x := Int32.sub_zero x
theorem own_ofN {n : Nat} (h : n < 2 ^ 31) : (Int32.ofNat n).toInt = (n : Int) := len_toInt h
theorem own_clamp {n : Nat} (h : n < 2 ^ 31) : (Int32.ofNat n).toNatClampNeg = n := by
  have := own_ofN h
  show (Int32.ofNat n).toInt.toNat = n
  omega
theorem own_zlt (z : Int32) : z.toNatClampNeg < 2 ^ 31 := by have := z.toInt_lt; show z.toInt.toNat < 2 ^ 31; omega
theorem own_znat {z : Int32} (h : ¬ z < 0) : z.toInt = (z.toNatClampNeg : Int) := by
  rw [Int32.lt_iff_toInt_lt, show (0 : Int32).toInt = 0 from rfl] at h
  show z.toInt = (z.toInt.toNat : Int)
  omega
theorem own_lenapp (a b : List Int32) : Int32.ofNat a.length + Int32.ofNat b.length = Int32.ofNat (a ++ b).length := by
  rw [List.length_append]; exact (Int32.ofNat_add a.length b.length).symm
theorem own_room {n : Nat} {z : Int32} (hz : ¬ z < 0) (h : n ≤ z.toNatClampNeg) : ¬ ((0 : Int32) < (Int32.ofNat n - z)) := by
  have hl := own_zlt z
  have e1 := own_ofN (n := n) (by omega)
  rw [Int32.lt_iff_toInt_lt, Int32.toInt_sub, e1, show (0 : Int32).toInt = 0 from rfl, own_znat hz, Int.bmod_eq_of_le (by omega) (by omega)]; omega
theorem own_arvnn {Z : State} {h : Heap} {a : Addr} {k : ClassId} {ty : FieldType} {z : Int32} {vs : List Value} {d : Value} (A : Arv Z h a k ty z vs d) : ¬ z < 0 := by
  obtain ⟨c, -, -, -, q, -⟩ := A
  exact q
theorem own_grow {n : Nat} (h : 16 < n) (h2 : n < 34) : (0 : Int32) < (Int32.ofNat n - (16 : Int32)) ∧ (Int32.ofNat n - (16 : Int32)) < (18 : Int32) := by
  have e1 := own_ofN (n := n) (by omega)
  constructor
  · rw [Int32.lt_iff_toInt_lt, Int32.toInt_sub, e1, show (0 : Int32).toInt = 0 from rfl, show (16 : Int32).toInt = 16 from rfl, Int.bmod_eq_of_le (by omega) (by omega)]; omega
  · rw [Int32.lt_iff_toInt_lt, Int32.toInt_sub, e1, show (18 : Int32).toInt = 18 from rfl, show (16 : Int32).toInt = 16 from rfl, Int.bmod_eq_of_le (by omega) (by omega)]; omega
theorem own_getmap (xs : List Int32) (i : Nat) : ((xs.map StrChars.lo8).map Value.int).getD i (.int 0) = Value.int ((xs.map StrChars.lo8).getD i 0) := by
  simp only [List.getD_eq_getElem?_getD, List.getElem?_map]
  cases xs[i]? <;> rfl
theorem own_appws (a b : List Int32) (i : Nat) : (((a ++ b).map StrChars.lo8).map Value.int).getD i (.int 0) = if a.length ≤ i ∧ i < a.length + b.length then ((b.map StrChars.lo8).map Value.int).getD (0 + (i - a.length)) (.int 0) else ((a.map StrChars.lo8).map Value.int).getD i (.int 0) := by
  simp only [List.getD_eq_getElem?_getD, List.getElem?_map, List.getElem?_append]
  by_cases h : i < a.length
  · rw [if_pos h, if_neg (by omega)]
  · rw [if_neg h]
    by_cases h2 : i < a.length + b.length
    · rw [if_pos ⟨by omega, h2⟩, Nat.zero_add]
    · rw [if_neg (by omega), List.getElem?_eq_none (by omega), List.getElem?_eq_none (by omega)]
theorem own_cpws {vs : List Value} {n : Nat} (h : vs.length ≤ n) (i : Nat) : vs.getD i (.int 0) = if 0 ≤ i ∧ i < 0 + n then vs.getD (0 + (i - 0)) (.int 0) else ([] : List Value).getD i (.int 0) := by
  by_cases q : i < n
  · rw [if_pos ⟨Nat.zero_le _, by omega⟩]; simp
  · rw [if_neg (by omega), List.getD_eq_getElem?_getD, List.getElem?_eq_none (by omega)]; rfl
theorem own_nneg {n : Nat} (h : n < 2 ^ 31) : ¬ (Int32.ofNat n < 0) := by
  rw [Int32.lt_iff_toInt_lt, own_ofN h, show (0 : Int32).toInt = 0 from rfl]; omega
theorem own_ltz {p2 za : Int32} {nv : Nat} (hz : ¬ za < 0) (hnv : p2 = Int32.ofNat nv) (hzc : nv ≤ za.toNatClampNeg) (hne : ¬ (p2 = za)) : p2 < za := by
  have hl := own_zlt za
  have e1 := own_ofN (n := nv) (by omega)
  have e2 := own_znat hz
  rw [Int32.lt_iff_toInt_lt]
  have : p2.toInt ≠ za.toInt := fun q => hne (Int32.toInt_inj.mp q)
  rw [hnv] at this ⊢
  omega
end OwnSb

theorem own_EW (Z : State) (a0 : Array Value) (hw : ∀ d ∈ tables_1, d.before a0 Z = true) : EW Z a0 consts_1 := (EW.cons (ow hw 49 rfl) (by decide) (EW.cons (ow hw 54 rfl) (by decide) (EW.cons (ow hw 55 rfl) (by decide) (EW.cons (ow hw 85 rfl) (by decide) (EW.cons (ow hw 133 rfl) (by decide) (EW.cons (ow hw 134 rfl) (by decide) (EW.cons (ow hw 198 rfl) (by decide) (EW.cons (ow hw 224 rfl) (by decide) (EW.cons (ow hw 225 rfl) (by decide) (EW.cons (ow hw 18 rfl) (by decide) EW.nil))))))))))
theorem own_one {v : Int32} (hv : ¬ v < 0 ∧ ¬ (255 : Int32) < v) : ∀ c ∈ ([v] : List Int32), ¬ c < 0 ∧ ¬ (255 : Int32) < c := fun c hc => by rw [List.mem_singleton.mp hc]; exact hv
theorem own_litU : ((([(117 : Int32), (110 : Int32), (117 : Int32), (115 : Int32), (101 : Int32), (100 : Int32), (32 : Int32)] : List Int32).map StrChars.lo8).map Value.int) = ([(.int (117 : Int32)), (.int (110 : Int32)), (.int (117 : Int32)), (.int (115 : Int32)), (.int (101 : Int32)), (.int (100 : Int32)), (.int (32 : Int32))] : List Value) := by rfl
theorem own_litS : ((([(32 : Int32)] : List Int32).map StrChars.lo8).map Value.int) = ([(.int (32 : Int32))] : List Value) := by rfl
theorem own_litF : ((([(32 : Int32), (102 : Int32), (111 : Int32), (114 : Int32), (32 : Int32)] : List Int32).map StrChars.lo8).map Value.int) = ([(.int (32 : Int32)), (.int (102 : Int32)), (.int (111 : Int32)), (.int (114 : Int32)), (.int (32 : Int32))] : List Value) := by rfl
theorem own_c16 : (16 : Int32).toNatClampNeg = 16 := by decide
theorem own_c34 : (34 : Int32).toNatClampNeg = 34 := by decide
def own_R (m o u : List Int32) : List Int32 := ((((((([] : List Int32) ++ ([(117 : Int32), (110 : Int32), (117 : Int32), (115 : Int32), (101 : Int32), (100 : Int32), (32 : Int32)] : List Int32)) ++ m) ++ ([(32 : Int32)] : List Int32)) ++ o) ++ ([(32 : Int32), (102 : Int32), (111 : Int32), (114 : Int32), (32 : Int32)] : List Int32)) ++ u)
theorem own_lenR (m o u : List Int32) : (own_R m o u).length = 13 + m.length + o.length + u.length := by simp [own_R]; omega
theorem own_totlen (m o u : List Int32) : (Int32.ofNat (own_R m o u).length) = ((((13 : Int32) + (Int32.ofNat m.length)) + (Int32.ofNat o.length)) + (Int32.ofNat u.length)) := by
  rw [own_lenR, Int32.ofNat_add, Int32.ofNat_add, Int32.ofNat_add]; rfl
theorem own_subAt (a b c : List Int32) : ∀ i, i < b.length → a.length + i < (a ++ b ++ c).length ∧ (a ++ b ++ c).getD (a.length + i) 0 = b.getD i 0 := fun i hi => by
  constructor
  · simp; omega
  · simp only [List.getD_eq_getElem?_getD]
    rw [List.getElem?_append_left (by simp; omega), List.getElem?_append_right (by omega)]
    simp
theorem own_subK {a b c R : List Int32} {k : Nat} (hR : R = a ++ b ++ c) (hk : a.length = k) : ∀ i, i < b.length → k + i < R.length ∧ R.getD (k + i) 0 = b.getD i 0 := by
  subst hR hk; exact own_subAt a b c
theorem own_addj {p : Int32} {k : Nat} (j : Nat) (h : p = Int32.ofNat k) : p + Int32.ofNat j = Int32.ofNat (k + j) := by rw [h]; exact (Int32.ofNat_add k j).symm
theorem own_gtlen {j n : Nat} (h : Int32.ofNat j < Int32.ofNat n) (hn : n ≤ 4000) (hj : j ≤ 4000) : j < n := by
  rw [Int32.lt_iff_toInt_lt, own_ofN (by omega), own_ofN (by omega)] at h; omega
theorem own_ef_rm_emp2 (m : MethodId) (x0 : Addr) (x1 : Addr) (x2 : Int32) (x3 : Int32) : entryFrame m #[(.ref x0), (.ref x1), (.int x2), (.int x3), .null] 6 = mkF m 0 #[.val (.ref x0), .val (.ref x1), .val (.int x2), .val (.int x3), .val .null, .unset] [] := by first | (simp [entryFrame, mkF, argsToLocals, Value.category]; done) | rfl
theorem own_pn0 : plainName "java/lang/String" = true := by first | (simp [plainName, overriddenIn]; done) | decide +kernel
theorem od0_0 : decode jdk_42_method_149_code 0 = .ok (.aload_n 0, 1) := by decide +kernel
theorem od0_1 : decode jdk_42_method_149_code 1 = .ok (.invokespecial 1, 3) := by decide +kernel
theorem od0_4 : decode jdk_42_method_149_code 4 = .ok (.iload_n 3, 1) := by decide +kernel
theorem od0_5 : decode jdk_42_method_149_code 5 = .ok (.ifCond .ne 22, 3) := by decide +kernel
theorem od0_8 : decode jdk_42_method_149_code 8 = .ok (.aload_n 0, 1) := by decide +kernel
theorem od0_9 : decode jdk_42_method_149_code 9 = .ok (.ldc 7, 2) := by decide +kernel
theorem od0_11 : decode jdk_42_method_149_code 11 = .ok (.getfield 9, 3) := by decide +kernel
theorem od0_14 : decode jdk_42_method_149_code 14 = .ok (.putfield 9, 3) := by decide +kernel
theorem od0_17 : decode jdk_42_method_149_code 17 = .ok (.aload_n 0, 1) := by decide +kernel
theorem od0_18 : decode jdk_42_method_149_code 18 = .ok (.ldc 7, 2) := by decide +kernel
theorem od0_20 : decode jdk_42_method_149_code 20 = .ok (.getfield 15, 3) := by decide +kernel
theorem od0_23 : decode jdk_42_method_149_code 23 = .ok (.putfield 15, 3) := by decide +kernel
theorem od0_26 : decode jdk_42_method_149_code 26 = .ok (.return_, 1) := by decide +kernel
def Q_rm_emp2 (Z : State) (g_CS : Int32) (p0 : Addr) (p1 : Addr) (h0 : Heap) (n0 : Nat) (v : Option Value) (h : Heap) (L : List Loc) : Prop := ∃ (vb : Addr) (kb : ClassId), v = none ∧ Fr n0 L ∧ Keep h0 h [p0] ∧ Exa Z h p0 "java/lang/String" ∧ Fld Z h p0 "java/lang/String" "coder" "B" (.int (0 : Int32)) ∧ Fld Z h p0 "java/lang/String" "value" "[B" (.ref vb) ∧ Arv Z h vb kb .byte (0 : Int32) [] (.int (0 : Int32))
set_option maxRecDepth 65536 in
set_option maxHeartbeats 40000000 in
theorem rm_emp2 (l : Launch) (Z : State) (a0 : Array Value) (hw : ∀ d ∈ tables_1, d.before a0 Z = true) (ws : List Jvm.Cond) (g_CS : Int32) (S_CS : Sta Z Z.heap "java/lang/String" "COMPACT_STRINGS" "Z" (.int g_CS)) (nz_CS : ¬ (g_CS = (0 : Int32))) (p0 : Addr) (p1 : Addr) (h0 : Heap) (n0 : Nat) (X00 : Old Z n0 h0) (hp0 : Exa Z h0 p0 "java/lang/String") (hp1 : Fld Z h0 p0 "java/lang/String" "value" "[B" .null) (hp2 : Fld Z h0 p0 "java/lang/String" "coder" "B" (.int (0 : Int32))) (hp3 : n0 ≤ p0) :
    MetFree l (⟨"java/lang/String", "<init>", "([CIILjava/lang/Void;)V"⟩ : MethodName) (head1 (Jvm.Cond.code (⟨"java/lang/String", "<init>", "([CIILjava/lang/Void;)V"⟩ : MethodName) jdk_42_method_149_code 6 none :: ws) ({ frames := 1, cells := 4, slots := 8, locals := 12 } : Room)) (fun a U => a = #[(.ref p0), (.ref p1), (.int (0 : Int32)), (.int (0 : Int32)), .null] ∧ Z.Warmed39 U.vm ∧ U.heap = h0 ∧ CHv Z consts_1 U.vm h0) (fun _ _ _ _ _ => True) (fun _ U o U' => ∃ v L, o = .returned v ∧ Q_rm_emp2 Z g_CS p0 p1 h0 n0 v U'.heap L ∧ CHr Z consts_1 U.vm U.heap U'.vm U'.heap ∧ ReturnedEndW U o U' L ({ frames := 1, cells := 4, slots := 8, locals := 12 } : Room).cells ({ frames := 1, cells := 4, slots := 8, locals := 12 } : Room).slots) := by
  refine MetFree.of_bodySF (plainFor_of_name own_pn0) hisR ?_
  intro p e s m args below meth c s₁ Bd hml0 hP hK
  obtain ⟨rfl, hZ, hh, hCH⟩ := hP
  have hEL := own_EW Z a0 hw
  have CR0 : CHr Z consts_1 s.vm h0 s.vm h0 := CHr.refl hCH
  have hx := Bd.exec
  have hby := Bd.bytes
  have hml : c.maxLocals = 6 := hml0
  have hown : s.vm.findClass "java/lang/String" = some m.cls := findClass_of_methodNamed Bd.named
  have hnm := (name_of_methodNamed Bd.named Bd.method).1
  have X0 : Stand p l e ({ frames := 1, cells := 4, slots := 8, locals := 12 } : Room) (s.setVm s.vm) m #[(.ref p0), (.ref p1), (.int (0 : Int32)), (.int (0 : Int32)), .null] below meth c s₁ [] 0 0 := Stand.of_body Bd
  have e0 : s₁.heap = h0 := by rw [← hh, Bd.state]; rfl
  have N0 := Fr.nil n0
  have hS0 : s.Since s.vm 0 := own_since s
  have hk0 : 0 ≤ h0.size := Nat.zero_le _
  have hZ : Z.Warmed39 (s.setVm s.vm).vm := hZ
  have hown : (s.setVm s.vm).vm.findClass "java/lang/String" = some m.cls := hown
  refine Go.start fun P hPend => ?_
  refine Go.st (fun _ k => castTop (own_ef_rm_emp2 m p0 p1 ((0 : Int32)) ((0 : Int32))) k) ?_
  show Go _ _ _ _ (s₁.setTop (mkF m 0 #[lR p0, lR p1, lI (0 : Int32), lI (0 : Int32), lN, lU] []))
  refine Go.st (fun _ => XS.aloadN X0.here hx rfl (hb hby od0_0) rfl rfl) ?_
  show Go _ _ _ _ (s₁.setTop (mkF m 1 #[lR p0, lR p1, lI (0 : Int32), lI (0 : Int32), lN, lU] [(.ref p0)]))
  obtain ⟨T1, X1, e1, st1⟩ := initO X0 hx hZ hown (ow hw 15 rfl) (ow hw 16 rfl) (ow hw 17 rfl) e0 (g := (mkF m 1 #[.val (.ref p0), .val (.ref p1), .val (.int (0 : Int32)), .val (.int (0 : Int32)), .val .null, .unset] [(.ref p0)])) rfl (by rw [hml]; rfl) rfl (hb hby od0_1) (by decide) (W := 0) (by show 2 * 0 + _ ≤ _; exact Nat.le_of_eq rfl) (by decide)
  refine Go.st st1 ?_
  show Go _ _ _ _ (T1.setTop (mkF m 4 #[lR p0, lR p1, lI (0 : Int32), lI (0 : Int32), lN, lU] []))
  refine Go.st (fun _ => XS.iloadN X1.here hx rfl (hb hby od0_4) rfl) ?_
  show Go _ _ _ _ (T1.setTop (mkF m 5 #[lR p0, lR p1, lI (0 : Int32), lI (0 : Int32), lN, lU] [(.int (0 : Int32))]))
  refine Go.st (fun _ => XS.ifNo X1.here hx rfl (hb hby od0_5) rfl ((if0 _ _).trans (teq (by decide)).2)) ?_
  show Go _ _ _ _ (T1.setTop (mkF m 8 #[lR p0, lR p1, lI (0 : Int32), lI (0 : Int32), lN, lU] []))
  refine Go.st (fun _ => XS.aloadN X1.here hx rfl (hb hby od0_8) rfl rfl) ?_
  show Go _ _ _ _ (T1.setTop (mkF m 9 #[lR p0, lR p1, lI (0 : Int32), lI (0 : Int32), lN, lU] [(.ref p0)]))
  obtain ⟨a2, T2, h2, kk2, b2, kb2, X2, e2, E2, hS2, hk2, hZ2, hown2, Ea2, Ca2, Va2, Ab2, alt2, blt2, hCR2, Li2, hne2, st2⟩ := ldcCH X1 hx hZ hown (ow hw 18 rfl) (fun a ha => hw a (own_strAtoms a ha)) e1 hS0 hk0 hEL (by decide +kernel) CR0.1 (vs := []) (z := (0 : Int32)) (by decide +kernel) (by decide) rfl (g := (mkF m 9 #[.val (.ref p0), .val (.ref p1), .val (.int (0 : Int32)), .val (.int (0 : Int32)), .val .null, .unset] [(.ref p0)])) rfl (hb hby od0_9) (n := 0) (by decide +kernel) (by decide) (by decide) (by decide)
  refine Go.st st2 ?_
  have K2 : Keep h0 h2 [p0] := (Keep.refl h0 [p0]).ext E2
  have O2 := X00.ext E2
  have CR2 := CR0.trans hCR2
  have c3 := (hp0.ext E2)
  have c4 := (hp1.ext E2)
  have ne5 := hne2 p0 (own_safe_null hZ2.alike c3 c4)
  show Go _ _ _ _ (T2.setTop (mkF m 11 #[lR p0, lR p1, lI (0 : Int32), lI (0 : Int32), lN, lU] [(.ref a2), (.ref p0)]))
  obtain ⟨T6, X6, e6, st6⟩ := getF X2 hx hZ2 hown2 (host := "") (Or.inl (ow hw 24 rfl)) Via.refl e2 Va2 (g := (mkF m 11 #[.val (.ref p0), .val (.ref p1), .val (.int (0 : Int32)), .val (.int (0 : Int32)), .val .null, .unset] [(.ref a2), (.ref p0)])) rfl rfl (hb hby od0_11)
  refine Go.st st6 ?_
  show Go _ _ _ _ (T6.setTop (mkF m 14 #[lR p0, lR p1, lI (0 : Int32), lI (0 : Int32), lN, lU] [(.ref b2), (.ref p0)]))
  have sf7 : Safe Z consts_1 T2.vm h2 p0 := (own_safe_null hZ2.alike c3 c4)
  obtain ⟨T8, h8, X8, e8, W8, st8⟩ := putF X6 hx hZ2 hown2 (host := "") (Or.inl (ow hw 24 rfl)) Via.refl e6 c4 c3 (Or.inr ⟨(ow hw 20 rfl), rfl, hnm⟩) (ow hw 5 rfl) (ty := (.array .byte)) (by decide) rfl rfl (g := (mkF m 14 #[.val (.ref p0), .val (.ref p1), .val (.int (0 : Int32)), .val (.int (0 : Int32)), .val .null, .unset] [(.ref b2), (.ref p0)])) rfl rfl (hb hby od0_14)
  refine Go.st st8 ?_
  have sf9 := Safe.wr W8 sf7 CR2.1 sf7
  have CR8 := CR2.trans (CHr.wr W8 sf7 CR2.1)
  have K8 : Keep h0 h8 [p0] := K2.wr W8 (Or.inl (List.mem_of_getElem? (i := 0) rfl))
  have O8 := O2.wr W8 hp3
  have N8 := Fr.snoc X8 N0 hp3
  have F8 := c4.same W8
  show Go _ _ _ _ (T8.setTop (mkF m 17 #[lR p0, lR p1, lI (0 : Int32), lI (0 : Int32), lN, lU] []))
  refine Go.st (fun _ => XS.aloadN X8.here hx rfl (hb hby od0_17) rfl rfl) ?_
  show Go _ _ _ _ (T8.setTop (mkF m 18 #[lR p0, lR p1, lI (0 : Int32), lI (0 : Int32), lN, lU] [(.ref p0)]))
  have c11 := (c3.wr W8)
  have c12 := (Ea2.wr W8)
  have c13 := (Ab2.other W8 (Ne.symm ne5.2))
  obtain ⟨a10, T10, h10, kk10, b10, kb10, X10, e10, E10, hS10, hk10, hZ10, hown10, Ea10, Ca10, Va10, Ab10, alt10, blt10, hCR10, Li10, hne10, st10⟩ := ldcCH X8 hx hZ2 hown2 (ow hw 18 rfl) (fun a ha => hw a (own_strAtoms a ha)) e8 hS2 (Nat.le_trans hk2 (Keep.of_wr W8).1) hEL (by decide +kernel) CR8.1 (vs := []) (z := (0 : Int32)) (by decide +kernel) (by decide) rfl (g := (mkF m 18 #[.val (.ref p0), .val (.ref p1), .val (.int (0 : Int32)), .val (.int (0 : Int32)), .val .null, .unset] [(.ref p0)])) rfl (hb hby od0_18) (n := 0) (by decide +kernel) (by decide) (by decide) (by decide)
  refine Go.st st10 ?_
  have K10 : Keep h0 h10 [p0] := K8.ext E10
  have O10 := O8.ext E10
  have sf14 := hCR10.safe c11.lt sf9
  have CR10 := CR8.trans hCR10
  have ne15 := hne10 p0 sf14
  show Go _ _ _ _ (T10.setTop (mkF m 20 #[lR p0, lR p1, lI (0 : Int32), lI (0 : Int32), lN, lU] [(.ref a10), (.ref p0)]))
  obtain ⟨T16, X16, e16, st16⟩ := getF X10 hx hZ10 hown10 (host := "") (Or.inl (ow hw 25 rfl)) Via.refl e10 Ca10 (g := (mkF m 20 #[.val (.ref p0), .val (.ref p1), .val (.int (0 : Int32)), .val (.int (0 : Int32)), .val .null, .unset] [(.ref a10), (.ref p0)])) rfl rfl (hb hby od0_20)
  refine Go.st st16 ?_
  show Go _ _ _ _ (T16.setTop (mkF m 23 #[lR p0, lR p1, lI (0 : Int32), lI (0 : Int32), lN, lU] [(.int (0 : Int32)), (.ref p0)]))
  have c17 := (((hp2.ext E2).other W8 (Or.inr (slot_ne (Or.inr (ow hw 21 rfl)) (Or.inr (ow hw 20 rfl)) (by decide) (t := .byte) (t' := (.array .byte)) (by decide) (by decide)))).ext E10)
  have c18 := (c11.ext E10)
  obtain ⟨T19, h19, X19, e19, W19, st19⟩ := putF X16 hx hZ10 hown10 (host := "") (Or.inl (ow hw 25 rfl)) Via.refl e16 c17 c18 (Or.inr ⟨(ow hw 21 rfl), rfl, hnm⟩) (ow hw 5 rfl) (ty := .byte) (by decide) rfl rfl (g := (mkF m 23 #[.val (.ref p0), .val (.ref p1), .val (.int (0 : Int32)), .val (.int (0 : Int32)), .val .null, .unset] [(.int (0 : Int32)), (.ref p0)])) rfl rfl (hb hby od0_23)
  refine Go.st st19 ?_
  have sf20 := Safe.wr W19 sf14 CR10.1 sf14
  have CR19 := CR10.trans (CHr.wr W19 sf14 CR10.1)
  have K19 : Keep h0 h19 [p0] := K10.wr W19 (Or.inl (List.mem_of_getElem? (i := 0) rfl))
  have O19 := O10.wr W19 hp3
  have N19 := Fr.snoc X19 N8 hp3
  have F19 := c17.same W19
  show Go _ _ _ _ (T19.setTop (mkF m 26 #[lR p0, lR p1, lI (0 : Int32), lI (0 : Int32), lN, lU] []))
  obtain ⟨fs, hr, hrun, hended, -, hW, hpair, hsame⟩ := X19.leaveW hS10 (by rw [e19]; exact (Nat.le_trans hk10 (Keep.of_wr W19).1)) (v := none) (fun _ => rfl)
  have hCRe := CR19.trans (CHv.at X19 hZ10 hEL CR19.1)
  refine ⟨_, ?_, hPend _ _ hrun hended ⟨_, _, rfl, ?_, ?_, ⟨_, rfl⟩, hW, hpair, hsame.mono (by decide) (by decide)⟩⟩
  · exact X19.returnOut hx Bd.returns (hb hby od0_26) hr
  · show Q_rm_emp2 Z _ _ _ h0 n0 _ T19.heap _
    rw [e19]
    have c21 := (c18.wr W19)
    have c22 := ((F8.ext E10).other W19 (Or.inr (slot_ne (Or.inr (ow hw 20 rfl)) (Or.inr (ow hw 21 rfl)) (by decide) (t := (.array .byte)) (t' := .byte) (by decide) (by decide))))
    have c23 := ((c13.ext E10).other W19 (Ne.symm ne5.2))
    exact ⟨b2, kb2, rfl, N19, K19, c21, F19, c22, c23⟩
  · show CHr Z consts_1 s.vm s.heap T19.vm T19.heap
    rw [hh, e19]
    exact hCRe
theorem own_ef_rm_emp1 (m : MethodId) (x0 : Addr) (x1 : Addr) : entryFrame m #[(.ref x0), (.ref x1)] 2 = mkF m 0 #[.val (.ref x0), .val (.ref x1)] [] := by first | (simp [entryFrame, mkF, argsToLocals, Value.category]; done) | rfl
theorem od1_0 : decode jdk_42_method_3_code 0 = .ok (.aload_n 0, 1) := by decide +kernel
theorem od1_1 : decode jdk_42_method_3_code 1 = .ok (.aload_n 1, 1) := by decide +kernel
theorem od1_2 : decode jdk_42_method_3_code 2 = .ok (.iconst 0, 1) := by decide +kernel
theorem od1_3 : decode jdk_42_method_3_code 3 = .ok (.aload_n 1, 1) := by decide +kernel
theorem od1_4 : decode jdk_42_method_3_code 4 = .ok (.arraylength, 1) := by decide +kernel
theorem od1_5 : decode jdk_42_method_3_code 5 = .ok (.aconst_null, 1) := by decide +kernel
theorem od1_6 : decode jdk_42_method_3_code 6 = .ok (.invokespecial 27, 3) := by decide +kernel
theorem own_pd0 : parseMethodDescriptor "([CIILjava/lang/Void;)V" = some ⟨[(.array .char), .int, .int, (.object "java/lang/Void")], none⟩ := by decide +kernel
theorem od1_9 : decode jdk_42_method_3_code 9 = .ok (.return_, 1) := by decide +kernel
def Q_rm_emp1 (Z : State) (g_CS : Int32) (p0 : Addr) (p1 : Addr) (ka : ClassId) (h0 : Heap) (n0 : Nat) (v : Option Value) (h : Heap) (L : List Loc) : Prop := ∃ (vb : Addr) (kb : ClassId), v = none ∧ Fr n0 L ∧ Keep h0 h [p0] ∧ Exa Z h p0 "java/lang/String" ∧ Fld Z h p0 "java/lang/String" "coder" "B" (.int (0 : Int32)) ∧ Fld Z h p0 "java/lang/String" "value" "[B" (.ref vb) ∧ Arv Z h vb kb .byte (0 : Int32) [] (.int (0 : Int32))
set_option maxRecDepth 65536 in
set_option maxHeartbeats 40000000 in
theorem rm_emp1 (l : Launch) (Z : State) (a0 : Array Value) (hw : ∀ d ∈ tables_1, d.before a0 Z = true) (ws : List Jvm.Cond) (g_CS : Int32) (S_CS : Sta Z Z.heap "java/lang/String" "COMPACT_STRINGS" "Z" (.int g_CS)) (nz_CS : ¬ (g_CS = (0 : Int32))) (p0 : Addr) (p1 : Addr) (ka : ClassId) (h0 : Heap) (n0 : Nat) (X00 : Old Z n0 h0) (hp0 : Exa Z h0 p0 "java/lang/String") (hp1 : Fld Z h0 p0 "java/lang/String" "value" "[B" .null) (hp2 : Fld Z h0 p0 "java/lang/String" "coder" "B" (.int (0 : Int32))) (hp3 : n0 ≤ p0) (hp4 : Arv Z h0 p1 ka .char (0 : Int32) [] (.int (0 : Int32))) :
    MetFree l (⟨"java/lang/String", "<init>", "([C)V"⟩ : MethodName) (head1 (Jvm.Cond.code (⟨"java/lang/String", "<init>", "([C)V"⟩ : MethodName) jdk_42_method_3_code 2 none :: ws) ({ frames := 2, cells := 4, slots := 8, locals := 29 } : Room)) (fun a U => a = #[(.ref p0), (.ref p1)] ∧ Z.Warmed39 U.vm ∧ U.heap = h0 ∧ CHv Z consts_1 U.vm h0) (fun _ _ _ _ _ => True) (fun _ U o U' => ∃ v L, o = .returned v ∧ Q_rm_emp1 Z g_CS p0 p1 ka h0 n0 v U'.heap L ∧ CHr Z consts_1 U.vm U.heap U'.vm U'.heap ∧ ReturnedEndW U o U' L ({ frames := 2, cells := 4, slots := 8, locals := 29 } : Room).cells ({ frames := 2, cells := 4, slots := 8, locals := 29 } : Room).slots) := by
  refine MetFree.of_bodySF (plainFor_of_name own_pn0) hisR ?_
  intro p e s m args below meth c s₁ Bd hml0 hP hK
  obtain ⟨rfl, hZ, hh, hCH⟩ := hP
  have hEL := own_EW Z a0 hw
  have CR0 : CHr Z consts_1 s.vm h0 s.vm h0 := CHr.refl hCH
  have hx := Bd.exec
  have hby := Bd.bytes
  have hml : c.maxLocals = 2 := hml0
  have hown : s.vm.findClass "java/lang/String" = some m.cls := findClass_of_methodNamed Bd.named
  have hnm := (name_of_methodNamed Bd.named Bd.method).1
  have X0 : Stand p l e ({ frames := 2, cells := 4, slots := 8, locals := 29 } : Room) (s.setVm s.vm) m #[(.ref p0), (.ref p1)] below meth c s₁ [] 0 0 := Stand.of_body Bd
  have e0 : s₁.heap = h0 := by rw [← hh, Bd.state]; rfl
  have N0 := Fr.nil n0
  have hS0 : s.Since s.vm 0 := own_since s
  have hk0 : 0 ≤ h0.size := Nat.zero_le _
  have hZ : Z.Warmed39 (s.setVm s.vm).vm := hZ
  have hown : (s.setVm s.vm).vm.findClass "java/lang/String" = some m.cls := hown
  refine Go.start fun P hPend => ?_
  refine Go.st (fun _ k => castTop (own_ef_rm_emp1 m p0 p1) k) ?_
  show Go _ _ _ _ (s₁.setTop (mkF m 0 #[lR p0, lR p1] []))
  refine Go.st (fun _ => XS.aloadN X0.here hx rfl (hb hby od1_0) rfl rfl) ?_
  show Go _ _ _ _ (s₁.setTop (mkF m 1 #[lR p0, lR p1] [(.ref p0)]))
  refine Go.st (fun _ => XS.aloadN X0.here hx rfl (hb hby od1_1) rfl rfl) ?_
  show Go _ _ _ _ (s₁.setTop (mkF m 2 #[lR p0, lR p1] [(.ref p1), (.ref p0)]))
  refine Go.st (fun _ => XS.iconst X0.here hx rfl (hb hby od1_2)) ?_
  show Go _ _ _ _ (s₁.setTop (mkF m 3 #[lR p0, lR p1] [(.int (0 : Int32)), (.ref p1), (.ref p0)]))
  refine Go.st (fun _ => XS.aloadN X0.here hx rfl (hb hby od1_3) rfl rfl) ?_
  show Go _ _ _ _ (s₁.setTop (mkF m 4 #[lR p0, lR p1] [(.ref p1), (.int (0 : Int32)), (.ref p1), (.ref p0)]))
  refine Go.st (fun _ => own_len X0 hx hZ e0 hp4 (g := (mkF m 4 #[.val (.ref p0), .val (.ref p1)] [(.ref p1), (.int (0 : Int32)), (.ref p1), (.ref p0)])) rfl rfl (hb hby od1_4) _) ?_
  show Go _ _ _ _ (s₁.setTop (mkF m 5 #[lR p0, lR p1] [(.int (0 : Int32)), (.int (0 : Int32)), (.ref p1), (.ref p0)]))
  refine Go.st (fun _ => XS.aconstNull X0.here hx rfl (hb hby od1_5)) ?_
  show Go _ _ _ _ (s₁.setTop (mkF m 6 #[lR p0, lR p1] [.null, (.int (0 : Int32)), (.int (0 : Int32)), (.ref p1), (.ref p0)]))
  obtain ⟨_, _, ⟨T1, L1, k1, n1⟩, -, X1, hS1, hg1, ⟨Lc1, hQ1, l1, y1, z1, hCR1⟩, st1⟩ := X0.specialBackS hx (y := (⟨"java/lang/String", "<init>", "([CIILjava/lang/Void;)V"⟩ : MethodName)) rfl hown (mvT hZ (ow hw 11 rfl)) (mvT hZ (ow hw 12 rfl)) (mvT hZ (ow hw 14 rfl)) (by decide) (backOfSH (W := 0) (rm_emp2 l Z a0 hw [] g_CS S_CS nz_CS p0 p1 h0 n0 X00 hp0 hp1 hp2 hp3) hZ (ow hw 14 rfl) (ow hw 6 rfl) (by decide) (by decide) hEL CR0.1) (g := (mkF m 6 #[.val (.ref p0), .val (.ref p1)] [.null, (.int (0 : Int32)), (.int (0 : Int32)), (.ref p1), (.ref p0)])) rfl (by rw [hml]; rfl) (Steps.refl _) (a := p0) (argsL := [(.ref p1), (.int (0 : Int32)), (.int (0 : Int32)), .null]) (rest := []) (lenOf own_pd0 rfl) rfl (by show 2 * 0 + _ ≤ _; exact Nat.le_of_eq rfl) (hb hby od1_6) (fun _ _ => ⟨rfl, e0, (by decide : 0 + 4 ≤ _), (by decide : 0 + 8 ≤ _)⟩)
  dsimp only [Pt.U, Pt.locs, Pt.cells, Pt.slots] at X1 l1 y1 z1 st1 hQ1 hS1 hg1 hCR1
  subst y1 z1
  refine Go.tr st1 ?_
  obtain ⟨XX1, hSS1, hZ1, hown1⟩ := rebS hS0 (by rw [e0]; exact hk0) X1 hS1 hg1 hZ hown
  obtain ⟨vb_2, kb_3, rfl, N1q, K1q, q1_0, q1_1, q1_2, q1_3⟩ := hQ1
  have N1 : Fr n0 L1 := by rw [l1]; exact Fr.app N0 N1q
  have CR1 := CR0.trans hCR1
  have O1 := X00.keep K1q (allS hp3 all0)
  have K1 : Keep h0 T1.heap [p0] := (Keep.refl h0 [p0]).trans K1q (allS (Or.inl (List.mem_of_getElem? (i := 0) rfl)) all0)
  show Go _ _ _ _ (T1.setTop (mkF m 9 #[lR p0, lR p1] []))
  obtain ⟨fs, hr, hrun, hended, -, hW, hpair, hsame⟩ := XX1.leaveW hSS1 (Nat.le_refl _) (v := none) (fun _ => rfl)
  have hCRe := CR1.trans (CHv.at XX1 hZ1 hEL CR1.1)
  refine ⟨_, ?_, hPend _ _ hrun hended ⟨_, _, rfl, ?_, ?_, ⟨_, rfl⟩, hW, hpair, hsame.mono (by decide) (by decide)⟩⟩
  · exact XX1.returnOut hx Bd.returns (hb hby od1_9) hr
  · show Q_rm_emp1 Z _ _ _ _ h0 n0 _ T1.heap _
    exact ⟨vb_2, kb_3, rfl, N1, K1, q1_0, q1_1, q1_2, q1_3⟩
  · show CHr Z consts_1 s.vm s.heap T1.vm T1.heap
    rw [hh]
    exact hCRe
theorem own_ef_rm_canEnc (m : MethodId) (x0 : Int32) : entryFrame m #[(.int x0)] 1 = mkF m 0 #[.val (.int x0)] [] := by first | (simp [entryFrame, mkF, argsToLocals, Value.category]; done) | rfl
theorem own_pn1 : plainName "java/lang/StringLatin1" = true := by first | (simp [plainName, overriddenIn]; done) | decide +kernel
theorem od2_0 : decode jdk_43_method_3_code 0 = .ok (.iload_n 0, 1) := by decide +kernel
theorem od2_1 : decode jdk_43_method_3_code 1 = .ok (.sipush 255, 3) := by decide +kernel
theorem od2_4 : decode jdk_43_method_3_code 4 = .ok (.if_icmp .gt 7, 3) := by decide +kernel
theorem od2_7 : decode jdk_43_method_3_code 7 = .ok (.iconst 1, 1) := by decide +kernel
theorem od2_8 : decode jdk_43_method_3_code 8 = .ok (.goto 4, 3) := by decide +kernel
theorem od2_12 : decode jdk_43_method_3_code 12 = .ok (.ireturn, 1) := by decide +kernel
def Q_rm_canEnc (Z : State) (g_CS : Int32) (p0 : Int32) (h0 : Heap) (n0 : Nat) (v : Option Value) (h : Heap) (L : List Loc) : Prop := v = some (.int (1 : Int32)) ∧ Fr n0 L ∧ h = h0
set_option maxRecDepth 65536 in
set_option maxHeartbeats 40000000 in
theorem rm_canEnc (l : Launch) (Z : State) (a0 : Array Value) (hw : ∀ d ∈ tables_1, d.before a0 Z = true) (ws : List Jvm.Cond) (g_CS : Int32) (S_CS : Sta Z Z.heap "java/lang/String" "COMPACT_STRINGS" "Z" (.int g_CS)) (nz_CS : ¬ (g_CS = (0 : Int32))) (p0 : Int32) (h0 : Heap) (n0 : Nat) (X00 : Old Z n0 h0) (hsm : ¬ p0 < 0 ∧ ¬ (255 : Int32) < p0) :
    MetFree l (⟨"java/lang/StringLatin1", "canEncode", "(C)Z"⟩ : MethodName) (head1 (Jvm.Cond.code (⟨"java/lang/StringLatin1", "canEncode", "(C)Z"⟩ : MethodName) jdk_43_method_3_code 1 (some .boolean) :: ws) ({ frames := 0, cells := 0, slots := 0, locals := 0 } : Room)) (fun a U => a = #[(.int p0)] ∧ Z.Warmed39 U.vm ∧ U.heap = h0) (fun _ _ _ _ _ => True) (fun _ U o U' => ∃ v L, o = .returned v ∧ Q_rm_canEnc Z g_CS p0 h0 n0 v U'.heap L ∧ FrameEnd U o U' L ({ frames := 0, cells := 0, slots := 0, locals := 0 } : Room).cells ({ frames := 0, cells := 0, slots := 0, locals := 0 } : Room).slots) := by
  refine MetFree.of_bodySF (plainFor_of_name own_pn1) hisR ?_
  intro p e s m args below meth c s₁ Bd hml0 hP hK
  obtain ⟨rfl, hZ, hh⟩ := hP
  have hx := Bd.exec
  have hby := Bd.bytes
  have hml : c.maxLocals = 1 := hml0
  have hown : s.vm.findClass "java/lang/StringLatin1" = some m.cls := findClass_of_methodNamed Bd.named
  have hnm := (name_of_methodNamed Bd.named Bd.method).1
  have X0 : Stand p l e ({ frames := 0, cells := 0, slots := 0, locals := 0 } : Room) s m #[(.int p0)] below meth c s₁ [] 0 0 := Stand.of_body Bd
  have e0 : s₁.heap = h0 := by rw [← hh, Bd.state]; rfl
  have N0 := Fr.nil n0
  refine Go.start fun P hPend => ?_
  refine Go.st (fun _ k => castTop (own_ef_rm_canEnc m p0) k) ?_
  show Go _ _ _ _ (s₁.setTop (mkF m 0 #[lI p0] []))
  refine Go.st (fun _ => XS.iloadN X0.here hx rfl (hb hby od2_0) rfl) ?_
  show Go _ _ _ _ (s₁.setTop (mkF m 1 #[lI p0] [(.int p0)]))
  refine Go.st (fun _ => XS.sipush X0.here hx rfl (hb hby od2_1)) ?_
  show Go _ _ _ _ (s₁.setTop (mkF m 4 #[lI p0] [(.int (255 : Int32)), (.int p0)]))
  have hb1 : ¬ ((255 : Int32) < p0) := hsm.2
  refine Go.st (fun _ => XS.icmpNo X0.here hx rfl (hb hby od2_4) rfl (flt hb1).2.2.1) ?_
  show Go _ _ _ _ (s₁.setTop (mkF m 7 #[lI p0] []))
  refine Go.st (fun _ => XS.iconst X0.here hx rfl (hb hby od2_7)) ?_
  show Go _ _ _ _ (s₁.setTop (mkF m 8 #[lI p0] [(.int (1 : Int32))]))
  refine Go.st (fun _ => XS.goto X0.here hx rfl (pc0 := 8) (pc' := 12) rfl (hb hby od2_8) (by decide) (by decide)) ?_
  show Go _ _ _ _ (s₁.setTop (mkF m 12 #[lI p0] [(.int (1 : Int32))]))
  obtain ⟨fs, hr, hrun, hended, hW, hsame⟩ := X0.leave (v := some (.int (1 : Int32))) (fun h => by rw [Bd.returns] at h; cases h)
  refine ⟨_, ?_, hPend _ _ hrun hended ⟨_, _, rfl, ?_, ⟨_, rfl⟩, hW, hsame.mono (by decide) (by decide)⟩⟩
  · exact retN X0 hx (t := .boolean) Bd.returns (by simp) (hb hby od2_12) hr
  · show Q_rm_canEnc Z _ _ h0 n0 _ s₁.heap _
    rw [e0]
    exact ⟨rfl, N0, rfl⟩
theorem own_ef_rm_toB (m : MethodId) (x0 : Int32) : entryFrame m #[(.int x0)] 1 = mkF m 0 #[.val (.int x0)] [] := by first | (simp [entryFrame, mkF, argsToLocals, Value.category]; done) | rfl
theorem od3_0 : decode jdk_43_method_46_code 0 = .ok (.iconst 1, 1) := by decide +kernel
theorem od3_1 : decode jdk_43_method_46_code 1 = .ok (.newarray .byte, 2) := by decide +kernel
theorem od3_3 : decode jdk_43_method_46_code 3 = .ok (.dup, 1) := by decide +kernel
theorem od3_4 : decode jdk_43_method_46_code 4 = .ok (.iconst 0, 1) := by decide +kernel
theorem od3_5 : decode jdk_43_method_46_code 5 = .ok (.iload_n 0, 1) := by decide +kernel
theorem od3_6 : decode jdk_43_method_46_code 6 = .ok (.i2b, 1) := by decide +kernel
theorem od3_7 : decode jdk_43_method_46_code 7 = .ok (.bastore, 1) := by decide +kernel
theorem od3_8 : decode jdk_43_method_46_code 8 = .ok (.areturn, 1) := by decide +kernel
def Q_rm_toB (Z : State) (g_CS : Int32) (p0 : Int32) (h0 : Heap) (n0 : Nat) (v : Option Value) (h : Heap) (L : List Loc) : Prop := ∃ (ob : Addr) (kb : ClassId), v = some (.ref ob) ∧ Fr n0 L ∧ Keep h0 h [] ∧ h0.size ≤ ob ∧ Arv Z h ob kb .byte (1 : Int32) [(.int p0.toInt8.toInt32)] (.int (0 : Int32))
set_option maxRecDepth 65536 in
set_option maxHeartbeats 40000000 in
theorem rm_toB (l : Launch) (Z : State) (a0 : Array Value) (hw : ∀ d ∈ tables_1, d.before a0 Z = true) (ws : List Jvm.Cond) (g_CS : Int32) (S_CS : Sta Z Z.heap "java/lang/String" "COMPACT_STRINGS" "Z" (.int g_CS)) (nz_CS : ¬ (g_CS = (0 : Int32))) (p0 : Int32) (h0 : Heap) (n0 : Nat) (X00 : Old Z n0 h0)  :
    MetFree l (⟨"java/lang/StringLatin1", "toBytes", "(C)[B"⟩ : MethodName) (head1 (Jvm.Cond.code (⟨"java/lang/StringLatin1", "toBytes", "(C)[B"⟩ : MethodName) jdk_43_method_46_code 1 (some (.array .byte)) :: ws) ({ frames := 0, cells := 1, slots := 1, locals := 0 } : Room)) (fun a U => a = #[(.int p0)] ∧ Z.Warmed39 U.vm ∧ U.heap = h0) (fun _ _ _ _ _ => True) (fun _ U o U' => ∃ v L, o = .returned v ∧ Q_rm_toB Z g_CS p0 h0 n0 v U'.heap L ∧ FrameEnd U o U' L ({ frames := 0, cells := 1, slots := 1, locals := 0 } : Room).cells ({ frames := 0, cells := 1, slots := 1, locals := 0 } : Room).slots) := by
  refine MetFree.of_bodySF (plainFor_of_name own_pn1) hisR ?_
  intro p e s m args below meth c s₁ Bd hml0 hP hK
  obtain ⟨rfl, hZ, hh⟩ := hP
  have hx := Bd.exec
  have hby := Bd.bytes
  have hml : c.maxLocals = 1 := hml0
  have hown : s.vm.findClass "java/lang/StringLatin1" = some m.cls := findClass_of_methodNamed Bd.named
  have hnm := (name_of_methodNamed Bd.named Bd.method).1
  have X0 : Stand p l e ({ frames := 0, cells := 1, slots := 1, locals := 0 } : Room) s m #[(.int p0)] below meth c s₁ [] 0 0 := Stand.of_body Bd
  have e0 : s₁.heap = h0 := by rw [← hh, Bd.state]; rfl
  have N0 := Fr.nil n0
  refine Go.start fun P hPend => ?_
  refine Go.st (fun _ k => castTop (own_ef_rm_toB m p0) k) ?_
  show Go _ _ _ _ (s₁.setTop (mkF m 0 #[lI p0] []))
  refine Go.st (fun _ => XS.iconst X0.here hx rfl (hb hby od3_0)) ?_
  show Go _ _ _ _ (s₁.setTop (mkF m 1 #[lI p0] [(.int (1 : Int32))]))
  obtain ⟨T1, h1, k1, X1, e1, E1, A1, st1⟩ := newP X0 hx hZ (ow hw 19 rfl) e0 (g := (mkF m 1 #[.val (.int p0)] [(.int (1 : Int32))])) rfl (hb hby od3_1) rfl (by decide) (cap := 1) (by decide) (by decide) (by decide) (by decide)
  obtain ⟨b1, g1⟩ : ∃ z, z = h0.size := ⟨_, rfl⟩
  rw [← g1] at A1 st1
  refine Go.st st1 ?_
  have g_b1 : n0 ≤ b1 := Nat.le_trans (own_oldsz X00) (Nat.le_of_eq g1.symm)
  have sz_b1 : h0.size ≤ b1 := Nat.le_trans (Keep.refl h0 []).1 (Nat.le_of_eq g1.symm)
  have K1 : Keep h0 h1 [] := (Keep.refl h0 []).ext E1
  have O1 := X00.ext E1
  have V1 : Arv Z h1 b1 k1 .byte (1 : Int32) [(.int (0 : Int32))] (.int (0 : Int32)) := (Arv.new A1 (by decide)).pad (pad_rep [] (.int (0 : Int32)) 1)
  show Go _ _ _ _ (T1.setTop (mkF m 3 #[lI p0] [(.ref b1)]))
  refine Go.st (fun _ => XS.dup X1.here hx rfl (hb hby od3_3) rfl rfl) ?_
  show Go _ _ _ _ (T1.setTop (mkF m 4 #[lI p0] [(.ref b1), (.ref b1)]))
  refine Go.st (fun _ => XS.iconst X1.here hx rfl (hb hby od3_4)) ?_
  show Go _ _ _ _ (T1.setTop (mkF m 5 #[lI p0] [(.int (0 : Int32)), (.ref b1), (.ref b1)]))
  refine Go.st (fun _ => XS.iloadN X1.here hx rfl (hb hby od3_5) rfl) ?_
  show Go _ _ _ _ (T1.setTop (mkF m 6 #[lI p0] [(.int p0), (.int (0 : Int32)), (.ref b1), (.ref b1)]))
  refine Go.st (fun _ => XS.i2b X1.here hx rfl (hb hby od3_6) rfl) ?_
  show Go _ _ _ _ (T1.setTop (mkF m 7 #[lI p0] [(.int (p0.toInt8.toInt32)), (.int (0 : Int32)), (.ref b1), (.ref b1)]))
  obtain ⟨T2, h2, X2, e2, W2, V2, st2⟩ := own_stB X1 hx hZ e1 V1 (j := (0 : Int32)) (i := 0) (by decide) (by decide) (Nat.le_of_ble_eq_true rfl) (g := (mkF m 7 #[.val (.int p0)] [(.int (p0.toInt8.toInt32)), (.int (0 : Int32)), (.ref b1), (.ref b1)])) rfl rfl (hb hby od3_7)
  refine Go.st st2 ?_
  rw [show nar .byte (p0.toInt8.toInt32) = (p0.toInt8.toInt32) from own_nar_i2b _] at V2
  have K2 : Keep h0 h2 [] := K1.wr W2 (Or.inr sz_b1)
  have O2 := O1.wr W2 g_b1
  have N2 := Fr.snoc X2 N0 g_b1
  have V2' : Arv Z h2 b1 k1 .byte (1 : Int32) [(.int (p0.toInt8.toInt32))] (.int (0 : Int32)) := V2
  show Go _ _ _ _ (T2.setTop (mkF m 8 #[lI p0] [(.ref b1)]))
  obtain ⟨fs, hr, hrun, hended, hW, hsame⟩ := X2.leave (v := some (.ref b1)) (fun h => by rw [Bd.returns] at h; cases h)
  refine ⟨_, ?_, hPend _ _ hrun hended ⟨_, _, rfl, ?_, ⟨_, rfl⟩, hW, hsame.mono (by decide) (by decide)⟩⟩
  · exact retOut X2 hx (t := (.array .byte)) Bd.returns rfl (Or.inr (Or.inr (Or.inr (Or.inr ⟨rfl, rfl, rfl⟩)))) (hb hby od3_8) hr
  · show Q_rm_toB Z _ _ h0 n0 _ T2.heap _
    rw [e2]
    exact ⟨b1, k1, rfl, N2, K2, sz_b1, V2'⟩
theorem own_ef_rm_sBB (m : MethodId) (x0 : Addr) (x1 : Addr) (x2 : Int32) : entryFrame m #[(.ref x0), (.ref x1), (.int x2)] 3 = mkF m 0 #[.val (.ref x0), .val (.ref x1), .val (.int x2)] [] := by first | (simp [entryFrame, mkF, argsToLocals, Value.category]; done) | rfl
theorem od4_0 : decode jdk_42_method_151_code 0 = .ok (.aload_n 0, 1) := by decide +kernel
theorem od4_1 : decode jdk_42_method_151_code 1 = .ok (.invokespecial 1, 3) := by decide +kernel
theorem od4_4 : decode jdk_42_method_151_code 4 = .ok (.aload_n 0, 1) := by decide +kernel
theorem od4_5 : decode jdk_42_method_151_code 5 = .ok (.aload_n 1, 1) := by decide +kernel
theorem od4_6 : decode jdk_42_method_151_code 6 = .ok (.putfield 9, 3) := by decide +kernel
theorem od4_9 : decode jdk_42_method_151_code 9 = .ok (.aload_n 0, 1) := by decide +kernel
theorem od4_10 : decode jdk_42_method_151_code 10 = .ok (.iload_n 2, 1) := by decide +kernel
theorem od4_11 : decode jdk_42_method_151_code 11 = .ok (.putfield 15, 3) := by decide +kernel
theorem od4_14 : decode jdk_42_method_151_code 14 = .ok (.return_, 1) := by decide +kernel
def Q_rm_sBB (Z : State) (g_CS : Int32) (p0 : Addr) (p1 : Addr) (p2 : Int32) (h0 : Heap) (n0 : Nat) (v : Option Value) (h : Heap) (L : List Loc) : Prop := v = none ∧ Fr n0 L ∧ Keep h0 h [p0] ∧ Exa Z h p0 "java/lang/String" ∧ Fld Z h p0 "java/lang/String" "value" "[B" (.ref p1) ∧ Fld Z h p0 "java/lang/String" "coder" "B" (.int p2)
set_option maxRecDepth 65536 in
set_option maxHeartbeats 40000000 in
theorem rm_sBB (l : Launch) (Z : State) (a0 : Array Value) (hw : ∀ d ∈ tables_1, d.before a0 Z = true) (ws : List Jvm.Cond) (g_CS : Int32) (S_CS : Sta Z Z.heap "java/lang/String" "COMPACT_STRINGS" "Z" (.int g_CS)) (nz_CS : ¬ (g_CS = (0 : Int32))) (p0 : Addr) (p1 : Addr) (p2 : Int32) (h0 : Heap) (n0 : Nat) (X00 : Old Z n0 h0) (hp0 : Exa Z h0 p0 "java/lang/String") (hp1 : Fld Z h0 p0 "java/lang/String" "value" "[B" .null) (hp2 : Fld Z h0 p0 "java/lang/String" "coder" "B" (.int (0 : Int32))) (hp3 : n0 ≤ p0) (hn2 : narrow .byte (.int p2) = .int p2) (hf2 : fits .byte (.int p2) = true) :
    MetFree l (⟨"java/lang/String", "<init>", "([BB)V"⟩ : MethodName) (head1 (Jvm.Cond.code (⟨"java/lang/String", "<init>", "([BB)V"⟩ : MethodName) jdk_42_method_151_code 3 none :: ws) ({ frames := 1, cells := 0, slots := 0, locals := 12 } : Room)) (fun a U => a = #[(.ref p0), (.ref p1), (.int p2)] ∧ Z.Warmed39 U.vm ∧ U.heap = h0) (fun _ _ _ _ _ => True) (fun _ U o U' => ∃ v L, o = .returned v ∧ Q_rm_sBB Z g_CS p0 p1 p2 h0 n0 v U'.heap L ∧ FrameEnd U o U' L ({ frames := 1, cells := 0, slots := 0, locals := 12 } : Room).cells ({ frames := 1, cells := 0, slots := 0, locals := 12 } : Room).slots) := by
  refine MetFree.of_bodySF (plainFor_of_name own_pn0) hisR ?_
  intro p e s m args below meth c s₁ Bd hml0 hP hK
  obtain ⟨rfl, hZ, hh⟩ := hP
  have hx := Bd.exec
  have hby := Bd.bytes
  have hml : c.maxLocals = 3 := hml0
  have hown : s.vm.findClass "java/lang/String" = some m.cls := findClass_of_methodNamed Bd.named
  have hnm := (name_of_methodNamed Bd.named Bd.method).1
  have X0 : Stand p l e ({ frames := 1, cells := 0, slots := 0, locals := 12 } : Room) s m #[(.ref p0), (.ref p1), (.int p2)] below meth c s₁ [] 0 0 := Stand.of_body Bd
  have e0 : s₁.heap = h0 := by rw [← hh, Bd.state]; rfl
  have N0 := Fr.nil n0
  refine Go.start fun P hPend => ?_
  refine Go.st (fun _ k => castTop (own_ef_rm_sBB m p0 p1 p2) k) ?_
  show Go _ _ _ _ (s₁.setTop (mkF m 0 #[lR p0, lR p1, lI p2] []))
  refine Go.st (fun _ => XS.aloadN X0.here hx rfl (hb hby od4_0) rfl rfl) ?_
  show Go _ _ _ _ (s₁.setTop (mkF m 1 #[lR p0, lR p1, lI p2] [(.ref p0)]))
  obtain ⟨T1, X1, e1, st1⟩ := initO X0 hx hZ hown (ow hw 15 rfl) (ow hw 16 rfl) (ow hw 17 rfl) e0 (g := (mkF m 1 #[.val (.ref p0), .val (.ref p1), .val (.int p2)] [(.ref p0)])) rfl (by rw [hml]; rfl) rfl (hb hby od4_1) (by decide) (W := 0) (by show 2 * 0 + _ ≤ _; exact Nat.le_of_eq rfl) (by decide)
  refine Go.st st1 ?_
  show Go _ _ _ _ (T1.setTop (mkF m 4 #[lR p0, lR p1, lI p2] []))
  refine Go.st (fun _ => XS.aloadN X1.here hx rfl (hb hby od4_4) rfl rfl) ?_
  show Go _ _ _ _ (T1.setTop (mkF m 5 #[lR p0, lR p1, lI p2] [(.ref p0)]))
  refine Go.st (fun _ => XS.aloadN X1.here hx rfl (hb hby od4_5) rfl rfl) ?_
  show Go _ _ _ _ (T1.setTop (mkF m 6 #[lR p0, lR p1, lI p2] [(.ref p1), (.ref p0)]))
  obtain ⟨T2, h2, X2, e2, W2, st2⟩ := putF X1 hx hZ hown (host := "") (Or.inl (ow hw 24 rfl)) Via.refl e1 hp1 hp0 (Or.inr ⟨(ow hw 20 rfl), rfl, hnm⟩) (ow hw 5 rfl) (ty := (.array .byte)) (by decide) rfl rfl (g := (mkF m 6 #[.val (.ref p0), .val (.ref p1), .val (.int p2)] [(.ref p1), (.ref p0)])) rfl rfl (hb hby od4_6)
  refine Go.st st2 ?_
  have K2 : Keep h0 h2 [p0] := (Keep.refl h0 [p0]).wr W2 (Or.inl (List.mem_of_getElem? (i := 0) rfl))
  have O2 := X00.wr W2 hp3
  have N2 := Fr.snoc X2 N0 hp3
  have F2 := hp1.same W2
  show Go _ _ _ _ (T2.setTop (mkF m 9 #[lR p0, lR p1, lI p2] []))
  refine Go.st (fun _ => XS.aloadN X2.here hx rfl (hb hby od4_9) rfl rfl) ?_
  show Go _ _ _ _ (T2.setTop (mkF m 10 #[lR p0, lR p1, lI p2] [(.ref p0)]))
  refine Go.st (fun _ => XS.iloadN X2.here hx rfl (hb hby od4_10) rfl) ?_
  show Go _ _ _ _ (T2.setTop (mkF m 11 #[lR p0, lR p1, lI p2] [(.int p2), (.ref p0)]))
  have c3 := (hp2.other W2 (Or.inr (slot_ne (Or.inr (ow hw 21 rfl)) (Or.inr (ow hw 20 rfl)) (by decide) (t := .byte) (t' := (.array .byte)) (by decide) (by decide))))
  have c4 := (hp0.wr W2)
  obtain ⟨T5, h5, X5, e5, W5, st5⟩ := putF X2 hx hZ hown (host := "") (Or.inl (ow hw 25 rfl)) Via.refl e2 c3 c4 (Or.inr ⟨(ow hw 21 rfl), rfl, hnm⟩) (ow hw 5 rfl) (ty := .byte) (by decide) hn2 hf2 (g := (mkF m 11 #[.val (.ref p0), .val (.ref p1), .val (.int p2)] [(.int p2), (.ref p0)])) rfl rfl (hb hby od4_11)
  refine Go.st st5 ?_
  have K5 : Keep h0 h5 [p0] := K2.wr W5 (Or.inl (List.mem_of_getElem? (i := 0) rfl))
  have O5 := O2.wr W5 hp3
  have N5 := Fr.snoc X5 N2 hp3
  have F5 := c3.same W5
  show Go _ _ _ _ (T5.setTop (mkF m 14 #[lR p0, lR p1, lI p2] []))
  obtain ⟨fs, hr, hrun, hended, hW, hsame⟩ := X5.leave (v := none) (fun _ => rfl)
  refine ⟨_, ?_, hPend _ _ hrun hended ⟨_, _, rfl, ?_, ⟨_, rfl⟩, hW, hsame.mono (by decide) (by decide)⟩⟩
  · exact X5.returnOut hx Bd.returns (hb hby od4_14) hr
  · show Q_rm_sBB Z _ _ _ _ h0 n0 _ T5.heap _
    rw [e5]
    have c6 := (c4.wr W5)
    have c7 := (F2.other W5 (Or.inr (slot_ne (Or.inr (ow hw 20 rfl)) (Or.inr (ow hw 21 rfl)) (by decide) (t := (.array .byte)) (t' := .byte) (by decide) (by decide))))
    exact ⟨rfl, N5, K5, c6, c7, F5⟩
theorem own_ef_rm_valOf (m : MethodId) (x0 : Int32) : entryFrame m #[(.int x0)] 1 = mkF m 0 #[.val (.int x0)] [] := by first | (simp [entryFrame, mkF, argsToLocals, Value.category]; done) | rfl
theorem od5_0 : decode jdk_42_method_139_code 0 = .ok (.getstatic 38, 3) := by decide +kernel
theorem od5_3 : decode jdk_42_method_139_code 3 = .ok (.ifCond .eq 23, 3) := by decide +kernel
theorem od5_6 : decode jdk_42_method_139_code 6 = .ok (.iload_n 0, 1) := by decide +kernel
theorem od5_7 : decode jdk_42_method_139_code 7 = .ok (.invokestatic 1015, 3) := by decide +kernel
theorem own_pd1 : parseMethodDescriptor "(C)Z" = some ⟨[.char], some .boolean⟩ := by decide +kernel
theorem od5_10 : decode jdk_42_method_139_code 10 = .ok (.ifCond .eq 16, 3) := by decide +kernel
theorem od5_13 : decode jdk_42_method_139_code 13 = .ok (.new 10, 3) := by decide +kernel
theorem od5_16 : decode jdk_42_method_139_code 16 = .ok (.dup, 1) := by decide +kernel
theorem od5_17 : decode jdk_42_method_139_code 17 = .ok (.iload_n 0, 1) := by decide +kernel
theorem od5_18 : decode jdk_42_method_139_code 18 = .ok (.invokestatic 1018, 3) := by decide +kernel
theorem own_pd2 : parseMethodDescriptor "(C)[B" = some ⟨[.char], some (.array .byte)⟩ := by decide +kernel
theorem od5_21 : decode jdk_42_method_139_code 21 = .ok (.iconst 0, 1) := by decide +kernel
theorem od5_22 : decode jdk_42_method_139_code 22 = .ok (.invokespecial 209, 3) := by decide +kernel
theorem own_pd3 : parseMethodDescriptor "([BB)V" = some ⟨[(.array .byte), .byte], none⟩ := by decide +kernel
theorem od5_25 : decode jdk_42_method_139_code 25 = .ok (.areturn, 1) := by decide +kernel
def Q_rm_valOf (Z : State) (g_CS : Int32) (p0 : Int32) (h0 : Heap) (n0 : Nat) (v : Option Value) (h : Heap) (L : List Loc) : Prop := ∃ (ob : Addr) (vb : Addr) (kb : ClassId), v = some (.ref ob) ∧ Fr n0 L ∧ Keep h0 h [] ∧ h0.size ≤ ob ∧ h0.size ≤ vb ∧ Exa Z h ob "java/lang/String" ∧ Fld Z h ob "java/lang/String" "coder" "B" (.int (0 : Int32)) ∧ Fld Z h ob "java/lang/String" "value" "[B" (.ref vb) ∧ Arv Z h vb kb .byte (1 : Int32) [(.int p0.toInt8.toInt32)] (.int (0 : Int32))
set_option maxRecDepth 65536 in
set_option maxHeartbeats 40000000 in
theorem rm_valOf (l : Launch) (Z : State) (a0 : Array Value) (hw : ∀ d ∈ tables_1, d.before a0 Z = true) (ws : List Jvm.Cond) (g_CS : Int32) (S_CS : Sta Z Z.heap "java/lang/String" "COMPACT_STRINGS" "Z" (.int g_CS)) (nz_CS : ¬ (g_CS = (0 : Int32))) (p0 : Int32) (h0 : Heap) (n0 : Nat) (X00 : Old Z n0 h0) (hsm : ¬ p0 < 0 ∧ ¬ (255 : Int32) < p0) :
    MetFree l (⟨"java/lang/String", "valueOf", "(C)Ljava/lang/String;"⟩ : MethodName) (head1 (Jvm.Cond.code (⟨"java/lang/String", "valueOf", "(C)Ljava/lang/String;"⟩ : MethodName) jdk_42_method_139_code 1 (some (.object "java/lang/String")) :: ws) ({ frames := 2, cells := 2, slots := 5, locals := 27 } : Room)) (fun a U => a = #[(.int p0)] ∧ Z.Warmed39 U.vm ∧ U.heap = h0) (fun _ _ _ _ _ => True) (fun _ U o U' => ∃ v L, o = .returned v ∧ Q_rm_valOf Z g_CS p0 h0 n0 v U'.heap L ∧ FrameEnd U o U' L ({ frames := 2, cells := 2, slots := 5, locals := 27 } : Room).cells ({ frames := 2, cells := 2, slots := 5, locals := 27 } : Room).slots) := by
  refine MetFree.of_bodySF (plainFor_of_name own_pn0) hisR ?_
  intro p e s m args below meth c s₁ Bd hml0 hP hK
  obtain ⟨rfl, hZ, hh⟩ := hP
  have hx := Bd.exec
  have hby := Bd.bytes
  have hml : c.maxLocals = 1 := hml0
  have hown : s.vm.findClass "java/lang/String" = some m.cls := findClass_of_methodNamed Bd.named
  have hnm := (name_of_methodNamed Bd.named Bd.method).1
  have X0 : Stand p l e ({ frames := 2, cells := 2, slots := 5, locals := 27 } : Room) s m #[(.int p0)] below meth c s₁ [] 0 0 := Stand.of_body Bd
  have e0 : s₁.heap = h0 := by rw [← hh, Bd.state]; rfl
  have N0 := Fr.nil n0
  refine Go.start fun P hPend => ?_
  refine Go.st (fun _ k => castTop (own_ef_rm_valOf m p0) k) ?_
  show Go _ _ _ _ (s₁.setTop (mkF m 0 #[lI p0] []))
  obtain ⟨T1, X1, e1, st1⟩ := getS2 X0 hx hZ hown (host := "") (Or.inl (ow hw 26 rfl)) Via.refl e0 (S_CS.ext X00.2) (g := (mkF m 0 #[.val (.int p0)] [])) rfl (hb hby od5_0)
  refine Go.st st1 ?_
  show Go _ _ _ _ (T1.setTop (mkF m 3 #[lI p0] [(.int g_CS)]))
  have hb2 : ¬ (g_CS = (0 : Int32)) := nz_CS
  refine Go.st (fun _ => XS.ifNo X1.here hx rfl (hb hby od5_3) rfl ((if0 _ _).trans (feq hb2).1)) ?_
  show Go _ _ _ _ (T1.setTop (mkF m 6 #[lI p0] []))
  refine Go.st (fun _ => XS.iloadN X1.here hx rfl (hb hby od5_6) rfl) ?_
  show Go _ _ _ _ (T1.setTop (mkF m 7 #[lI p0] [(.int p0)]))
  obtain ⟨_, _, ⟨T3, L3, k3, n3⟩, -, X3, ⟨Lc3, hQ3, l3, y3, z3⟩, st3⟩ := Jvm.LawKit.callS X1 hx (y := (⟨"java/lang/StringLatin1", "canEncode", "(C)Z"⟩ : MethodName)) hown (mvT hZ (ow hw 229 rfl)) (mvT hZ (ow hw 230 rfl)) (mvT hZ (ow hw 214 rfl)) (mvT hZ (ow hw 231 rfl)) (by decide) (backOf (W := 0) (rm_canEnc l Z a0 hw [] g_CS S_CS nz_CS p0 h0 n0 X00 hsm) hZ (ow hw 231 rfl) (ow hw 214 rfl) (by decide) (by decide)) (g := (mkF m 7 #[.val (.int p0)] [(.int p0)])) rfl (by rw [hml]; rfl) (argsL := [(.int p0)]) (rest := []) (lenOf own_pd1 rfl) rfl (by show 2 * 0 + _ ≤ _; exact Nat.le_of_eq rfl) (hb hby od5_7) (fun _ _ => ⟨rfl, e1, (by decide : 0 + 0 ≤ _), (by decide : 0 + 0 ≤ _)⟩)
  dsimp only [Pt.U, Pt.locs, Pt.cells, Pt.slots] at X3 l3 y3 z3 st3 hQ3
  subst y3 z3
  refine Go.st st3 ?_
  obtain ⟨rfl, N3q, e3⟩ := hQ3
  have N3 : Fr n0 L3 := by rw [l3]; exact Fr.app N0 N3q
  show Go _ _ _ _ (T3.setTop (mkF m 10 #[lI p0] [(.int (1 : Int32))]))
  refine Go.st (fun _ => XS.ifNo X3.here hx rfl (hb hby od5_10) rfl ((if0 _ _).trans (feq (by decide)).1)) ?_
  show Go _ _ _ _ (T3.setTop (mkF m 13 #[lI p0] []))
  obtain ⟨T4, h4, X4, e4, E4, A4, D4, -, st4⟩ := newO X3 hx hZ hown (ow hw 232 rfl) (ow hw 5 rfl) (ow hw 6 rfl) e3 (g := (mkF m 13 #[.val (.int p0)] [])) rfl (hb hby od5_13) (by decide) (by decide)
  obtain ⟨b4, g4⟩ : ∃ z, z = h0.size := ⟨_, rfl⟩
  rw [← g4] at A4 D4 st4
  refine Go.st st4 ?_
  have g_b4 : n0 ≤ b4 := Nat.le_trans (own_oldsz X00) (Nat.le_of_eq g4.symm)
  have sz_b4 : h0.size ≤ b4 := Nat.le_trans (Keep.refl h0 []).1 (Nat.le_of_eq g4.symm)
  have K4 : Keep h0 h4 [] := (Keep.refl h0 []).ext E4
  have O4 := X00.ext E4
  have F5 : Fld Z h4 b4 "java/lang/String" "value" "[B" .null := D4 (Or.inr (ow hw 20 rfl)) (ty := (.array .byte)) (by decide)
  have F6 : Fld Z h4 b4 "java/lang/String" "coder" "B" (.int (0 : Int32)) := D4 (Or.inr (ow hw 21 rfl)) (ty := .byte) (by decide)
  show Go _ _ _ _ (T4.setTop (mkF m 16 #[lI p0] [(.ref b4)]))
  refine Go.st (fun _ => XS.dup X4.here hx rfl (hb hby od5_16) rfl rfl) ?_
  show Go _ _ _ _ (T4.setTop (mkF m 17 #[lI p0] [(.ref b4), (.ref b4)]))
  refine Go.st (fun _ => XS.iloadN X4.here hx rfl (hb hby od5_17) rfl) ?_
  show Go _ _ _ _ (T4.setTop (mkF m 18 #[lI p0] [(.int p0), (.ref b4), (.ref b4)]))
  obtain ⟨_, _, ⟨T7, L7, k7, n7⟩, -, X7, ⟨Lc7, hQ7, l7, y7, z7⟩, st7⟩ := Jvm.LawKit.callS X4 hx (y := (⟨"java/lang/StringLatin1", "toBytes", "(C)[B"⟩ : MethodName)) hown (mvT hZ (ow hw 233 rfl)) (mvT hZ (ow hw 234 rfl)) (mvT hZ (ow hw 214 rfl)) (mvT hZ (ow hw 235 rfl)) (by decide) (backOf (W := 2) (rm_toB l Z a0 hw [] g_CS S_CS nz_CS p0 h4 n0 O4 ) hZ (ow hw 235 rfl) (ow hw 214 rfl) (by decide) (by decide)) (g := (mkF m 18 #[.val (.int p0)] [(.int p0), (.ref b4), (.ref b4)])) rfl (by rw [hml]; rfl) (argsL := [(.int p0)]) (rest := [(.ref b4), (.ref b4)]) (lenOf own_pd2 rfl) rfl (by show 2 * 0 + _ ≤ _; exact Nat.le_of_eq rfl) (hb hby od5_18) (fun _ _ => ⟨rfl, e4, (by decide : 1 + 1 ≤ _), (by decide : 4 + 1 ≤ _)⟩)
  dsimp only [Pt.U, Pt.locs, Pt.cells, Pt.slots] at X7 l7 y7 z7 st7 hQ7
  subst y7 z7
  refine Go.st st7 ?_
  obtain ⟨ob_8, kb_9, rfl, N7q, K7q, q7_0, q7_1⟩ := hQ7
  have N7 : Fr n0 L7 := by rw [l7]; exact Fr.app N3 N7q
  have O7 := O4.keep K7q all0
  have K7 : Keep h0 T7.heap [] := K4.trans K7q all0
  have sz_ob_8 : h0.size ≤ ob_8 := Nat.le_trans K4.1 q7_0
  have g_ob_8 : n0 ≤ ob_8 := Nat.le_trans (own_oldsz X00) sz_ob_8
  show Go _ _ _ _ (T7.setTop (mkF m 21 #[lI p0] [(.ref ob_8), (.ref b4), (.ref b4)]))
  refine Go.st (fun _ => XS.iconst X7.here hx rfl (hb hby od5_21)) ?_
  show Go _ _ _ _ (T7.setTop (mkF m 22 #[lI p0] [(.int (0 : Int32)), (.ref ob_8), (.ref b4), (.ref b4)]))
  have c11 := (A4.keep K7q)
  have c12 := (F5.keep K7q nin0)
  have c13 := (F6.keep K7q nin0)
  obtain ⟨_, _, ⟨T10, L10, k10, n10⟩, -, X10, ⟨Lc10, hQ10, l10, y10, z10⟩, st10⟩ := X7.specialBack hx (y := (⟨"java/lang/String", "<init>", "([BB)V"⟩ : MethodName)) rfl hown (mvT hZ (ow hw 236 rfl)) (mvT hZ (ow hw 237 rfl)) (mvT hZ (ow hw 238 rfl)) (by decide) (backOf (W := 1) (rm_sBB l Z a0 hw [] g_CS S_CS nz_CS b4 ob_8 (0 : Int32) T7.heap n0 O7 c11 c12 c13 g_b4 rfl rfl) hZ (ow hw 238 rfl) (ow hw 6 rfl) (by decide) (by decide)) (g := (mkF m 22 #[.val (.int p0)] [(.int (0 : Int32)), (.ref ob_8), (.ref b4), (.ref b4)])) rfl (by rw [hml]; rfl) (Steps.refl _) (a := b4) (argsL := [(.ref ob_8), (.int (0 : Int32))]) (rest := [(.ref b4)]) (lenOf own_pd3 rfl) rfl (by show 2 * 0 + _ ≤ _; exact Nat.le_of_eq rfl) (hb hby od5_22) (fun _ _ => ⟨rfl, rfl, (by decide : 2 + 0 ≤ _), (by decide : 5 + 0 ≤ _)⟩)
  dsimp only [Pt.U, Pt.locs, Pt.cells, Pt.slots] at X10 l10 y10 z10 st10 hQ10
  subst y10 z10
  refine Go.tr st10 ?_
  obtain ⟨rfl, N10q, K10q, q10_0, q10_1, q10_2⟩ := hQ10
  have N10 : Fr n0 L10 := by rw [l10]; exact Fr.app N7 N10q
  have O10 := O7.keep K10q (allS g_b4 all0)
  have K10 : Keep h0 T10.heap [] := K7.trans K10q (allS (Or.inr sz_b4) all0)
  show Go _ _ _ _ (T10.setTop (mkF m 25 #[lI p0] [(.ref b4)]))
  obtain ⟨fs, hr, hrun, hended, hW, hsame⟩ := X10.leave (v := some (.ref b4)) (fun h => by rw [Bd.returns] at h; cases h)
  refine ⟨_, ?_, hPend _ _ hrun hended ⟨_, _, rfl, ?_, ⟨_, rfl⟩, hW, hsame.mono (by decide) (by decide)⟩⟩
  · exact retOut X10 hx (t := (.object "java/lang/String")) Bd.returns rfl (Or.inr (Or.inr (Or.inr (Or.inr ⟨rfl, rfl, rfl⟩)))) (hb hby od5_25) hr
  · show Q_rm_valOf Z _ _ h0 n0 _ T10.heap _
    have c14 := (q7_1.keep K10q (ninS (Ne.symm (Nat.ne_of_lt (Nat.lt_of_lt_of_le A4.lt q7_0))) nin0))
    exact ⟨b4, ob_8, kb_9, rfl, N10, K10, sz_b4, sz_ob_8, q10_0, q10_2, q10_1, c14⟩
theorem own_ef_rm_rec (m : MethodId) (x0 : Addr) : entryFrame m #[(.ref x0)] 1 = mkF m 0 #[.val (.ref x0)] [] := by first | (simp [entryFrame, mkF, argsToLocals, Value.category]; done) | rfl
theorem own_pn2 : plainName "java/lang/Record" = true := by first | (simp [plainName, overriddenIn]; done) | decide +kernel
theorem od6_0 : decode jdk_30_method_1_code 0 = .ok (.aload_n 0, 1) := by decide +kernel
theorem od6_1 : decode jdk_30_method_1_code 1 = .ok (.invokespecial 1, 3) := by decide +kernel
theorem od6_4 : decode jdk_30_method_1_code 4 = .ok (.return_, 1) := by decide +kernel
def Q_rm_rec (Z : State) (p0 : Addr) (h0 : Heap) (n0 : Nat) (v : Option Value) (h : Heap) (L : List Loc) : Prop := v = none ∧ Fr n0 L ∧ h = h0
set_option maxRecDepth 65536 in
set_option maxHeartbeats 40000000 in
theorem rm_rec (l : Launch) (Z : State) (a0 : Array Value) (hw : ∀ d ∈ tables_1, d.before a0 Z = true) (ws : List Jvm.Cond) (p0 : Addr) (h0 : Heap) (n0 : Nat) (X00 : Old Z n0 h0)  :
    MetFree l (⟨"java/lang/Record", "<init>", "()V"⟩ : MethodName) (head1 (Jvm.Cond.code (⟨"java/lang/Record", "<init>", "()V"⟩ : MethodName) jdk_30_method_1_code 1 none :: ws) ({ frames := 1, cells := 0, slots := 0, locals := 12 } : Room)) (fun a U => a = #[(.ref p0)] ∧ Z.Warmed39 U.vm ∧ U.heap = h0) (fun _ _ _ _ _ => True) (fun _ U o U' => ∃ v L, o = .returned v ∧ Q_rm_rec Z p0 h0 n0 v U'.heap L ∧ FrameEnd U o U' L ({ frames := 1, cells := 0, slots := 0, locals := 12 } : Room).cells ({ frames := 1, cells := 0, slots := 0, locals := 12 } : Room).slots) := by
  refine MetFree.of_bodySF (plainFor_of_name own_pn2) hisR ?_
  intro p e s m args below meth c s₁ Bd hml0 hP hK
  obtain ⟨rfl, hZ, hh⟩ := hP
  have hx := Bd.exec
  have hby := Bd.bytes
  have hml : c.maxLocals = 1 := hml0
  have hown : s.vm.findClass "java/lang/Record" = some m.cls := findClass_of_methodNamed Bd.named
  have hnm := (name_of_methodNamed Bd.named Bd.method).1
  have X0 : Stand p l e ({ frames := 1, cells := 0, slots := 0, locals := 12 } : Room) s m #[(.ref p0)] below meth c s₁ [] 0 0 := Stand.of_body Bd
  have e0 : s₁.heap = h0 := by rw [← hh, Bd.state]; rfl
  have N0 := Fr.nil n0
  refine Go.start fun P hPend => ?_
  refine Go.st (fun _ k => castTop (own_ef_rm_rec m p0) k) ?_
  show Go _ _ _ _ (s₁.setTop (mkF m 0 #[lR p0] []))
  refine Go.st (fun _ => XS.aloadN X0.here hx rfl (hb hby od6_0) rfl rfl) ?_
  show Go _ _ _ _ (s₁.setTop (mkF m 1 #[lR p0] [(.ref p0)]))
  obtain ⟨T1, X1, e1, st1⟩ := initO X0 hx hZ hown (ow hw 48 rfl) (ow hw 16 rfl) (ow hw 17 rfl) e0 (g := (mkF m 1 #[.val (.ref p0)] [(.ref p0)])) rfl (by rw [hml]; rfl) rfl (hb hby od6_1) (by decide) (W := 0) (by show 2 * 0 + _ ≤ _; exact Nat.le_of_eq rfl) (by decide)
  refine Go.st st1 ?_
  show Go _ _ _ _ (T1.setTop (mkF m 4 #[lR p0] []))
  obtain ⟨fs, hr, hrun, hended, hW, hsame⟩ := X1.leave (v := none) (fun _ => rfl)
  refine ⟨_, ?_, hPend _ _ hrun hended ⟨_, _, rfl, ?_, ⟨_, rfl⟩, hW, hsame.mono (by decide) (by decide)⟩⟩
  · exact X1.returnOut hx Bd.returns (hb hby od6_4) hr
  · show Q_rm_rec Z _ h0 n0 _ T1.heap _
    rw [e1]
    exact ⟨rfl, N0, rfl⟩
theorem own_ef_rm_rnn (m : MethodId) (x0 : Addr) (x1 : Addr) : entryFrame m #[(.ref x0), (.ref x1)] 2 = mkF m 0 #[.val (.ref x0), .val (.ref x1)] [] := by first | (simp [entryFrame, mkF, argsToLocals, Value.category]; done) | rfl
theorem own_pn3 : plainName "java/util/Objects" = true := by first | (simp [plainName, overriddenIn]; done) | decide +kernel
theorem od7_0 : decode jdk_31_method_11_code 0 = .ok (.aload_n 0, 1) := by decide +kernel
theorem od7_1 : decode jdk_31_method_11_code 1 = .ok (.ifnonnull 12, 3) := by decide +kernel
theorem od7_13 : decode jdk_31_method_11_code 13 = .ok (.aload_n 0, 1) := by decide +kernel
theorem od7_14 : decode jdk_31_method_11_code 14 = .ok (.areturn, 1) := by decide +kernel
def Q_rm_rnn (Z : State) (p0 : Addr) (p1 : Addr) (h0 : Heap) (n0 : Nat) (v : Option Value) (h : Heap) (L : List Loc) : Prop := v = some (.ref p0) ∧ Fr n0 L ∧ h = h0
set_option maxRecDepth 65536 in
set_option maxHeartbeats 40000000 in
theorem rm_rnn (l : Launch) (Z : State) (a0 : Array Value) (hw : ∀ d ∈ tables_1, d.before a0 Z = true) (ws : List Jvm.Cond) (p0 : Addr) (p1 : Addr) (h0 : Heap) (n0 : Nat) (X00 : Old Z n0 h0)  :
    MetFree l (⟨"java/util/Objects", "requireNonNull", "(Ljava/lang/Object;Ljava/lang/String;)Ljava/lang/Object;"⟩ : MethodName) (head1 (Jvm.Cond.code (⟨"java/util/Objects", "requireNonNull", "(Ljava/lang/Object;Ljava/lang/String;)Ljava/lang/Object;"⟩ : MethodName) jdk_31_method_11_code 2 (some (.object "java/lang/Object")) :: ws) ({ frames := 0, cells := 0, slots := 0, locals := 0 } : Room)) (fun a U => a = #[(.ref p0), (.ref p1)] ∧ Z.Warmed39 U.vm ∧ U.heap = h0) (fun _ _ _ _ _ => True) (fun _ U o U' => ∃ v L, o = .returned v ∧ Q_rm_rnn Z p0 p1 h0 n0 v U'.heap L ∧ FrameEnd U o U' L ({ frames := 0, cells := 0, slots := 0, locals := 0 } : Room).cells ({ frames := 0, cells := 0, slots := 0, locals := 0 } : Room).slots) := by
  refine MetFree.of_bodySF (plainFor_of_name own_pn3) hisR ?_
  intro p e s m args below meth c s₁ Bd hml0 hP hK
  obtain ⟨rfl, hZ, hh⟩ := hP
  have hx := Bd.exec
  have hby := Bd.bytes
  have hml : c.maxLocals = 2 := hml0
  have hown : s.vm.findClass "java/util/Objects" = some m.cls := findClass_of_methodNamed Bd.named
  have hnm := (name_of_methodNamed Bd.named Bd.method).1
  have X0 : Stand p l e ({ frames := 0, cells := 0, slots := 0, locals := 0 } : Room) s m #[(.ref p0), (.ref p1)] below meth c s₁ [] 0 0 := Stand.of_body Bd
  have e0 : s₁.heap = h0 := by rw [← hh, Bd.state]; rfl
  have N0 := Fr.nil n0
  refine Go.start fun P hPend => ?_
  refine Go.st (fun _ k => castTop (own_ef_rm_rnn m p0 p1) k) ?_
  show Go _ _ _ _ (s₁.setTop (mkF m 0 #[lR p0, lR p1] []))
  refine Go.st (fun _ => XS.aloadN X0.here hx rfl (hb hby od7_0) rfl rfl) ?_
  show Go _ _ _ _ (s₁.setTop (mkF m 1 #[lR p0, lR p1] [(.ref p0)]))
  refine Go.st (fun _ => XS.ifnonnullYes X0.here hx rfl (pc0 := 1) (pc' := 13) rfl (hb hby od7_1) rfl (by decide) (by decide)) ?_
  show Go _ _ _ _ (s₁.setTop (mkF m 13 #[lR p0, lR p1] []))
  refine Go.st (fun _ => XS.aloadN X0.here hx rfl (hb hby od7_13) rfl rfl) ?_
  show Go _ _ _ _ (s₁.setTop (mkF m 14 #[lR p0, lR p1] [(.ref p0)]))
  obtain ⟨fs, hr, hrun, hended, hW, hsame⟩ := X0.leave (v := some (.ref p0)) (fun h => by rw [Bd.returns] at h; cases h)
  refine ⟨_, ?_, hPend _ _ hrun hended ⟨_, _, rfl, ?_, ⟨_, rfl⟩, hW, hsame.mono (by decide) (by decide)⟩⟩
  · exact retOut X0 hx (t := (.object "java/lang/Object")) Bd.returns rfl (Or.inr (Or.inr (Or.inr (Or.inr ⟨rfl, rfl, rfl⟩)))) (hb hby od7_14) hr
  · show Q_rm_rnn Z _ _ h0 n0 _ s₁.heap _
    rw [e0]
    exact ⟨rfl, N0, rfl⟩
theorem own_ef_rm_ainit (m : MethodId) (x0 : Addr) (x1 : Int32) : entryFrame m #[(.ref x0), (.int x1)] 2 = mkF m 0 #[.val (.ref x0), .val (.int x1)] [] := by first | (simp [entryFrame, mkF, argsToLocals, Value.category]; done) | rfl
theorem own_pn4 : plainName "java/lang/AbstractStringBuilder" = true := by first | (simp [plainName, overriddenIn]; done) | decide +kernel
theorem od8_0 : decode jdk_68_method_2_code 0 = .ok (.aload_n 0, 1) := by decide +kernel
theorem od8_1 : decode jdk_68_method_2_code 1 = .ok (.invokespecial 3, 3) := by decide +kernel
theorem od8_4 : decode jdk_68_method_2_code 4 = .ok (.getstatic 18, 3) := by decide +kernel
theorem od8_7 : decode jdk_68_method_2_code 7 = .ok (.ifCond .eq 18, 3) := by decide +kernel
theorem od8_10 : decode jdk_68_method_2_code 10 = .ok (.aload_n 0, 1) := by decide +kernel
theorem od8_11 : decode jdk_68_method_2_code 11 = .ok (.iload_n 1, 1) := by decide +kernel
theorem od8_12 : decode jdk_68_method_2_code 12 = .ok (.newarray .byte, 2) := by decide +kernel
theorem od8_14 : decode jdk_68_method_2_code 14 = .ok (.putfield 15, 3) := by decide +kernel
theorem od8_17 : decode jdk_68_method_2_code 17 = .ok (.aload_n 0, 1) := by decide +kernel
theorem od8_18 : decode jdk_68_method_2_code 18 = .ok (.iconst 0, 1) := by decide +kernel
theorem od8_19 : decode jdk_68_method_2_code 19 = .ok (.putfield 22, 3) := by decide +kernel
theorem od8_22 : decode jdk_68_method_2_code 22 = .ok (.goto 16, 3) := by decide +kernel
theorem od8_38 : decode jdk_68_method_2_code 38 = .ok (.return_, 1) := by decide +kernel
def Q_rm_ainit (Z : State) (g_CS : Int32) (p0 : Addr) (h0 : Heap) (n0 : Nat) (v : Option Value) (h : Heap) (L : List Loc) : Prop := ∃ (ob : Addr) (kb : ClassId), v = none ∧ Fr n0 L ∧ Keep h0 h [p0] ∧ h0.size ≤ ob ∧ Exa Z h p0 "java/lang/StringBuilder" ∧ Fld Z h p0 "java/lang/AbstractStringBuilder" "value" "[B" (.ref ob) ∧ Fld Z h p0 "java/lang/AbstractStringBuilder" "coder" "B" (.int (0 : Int32)) ∧ Fld Z h p0 "java/lang/AbstractStringBuilder" "count" "I" (.int (0 : Int32)) ∧ Exa Z h ob "[B" ∧ Arv Z h ob kb .byte (16 : Int32) [] (.int (0 : Int32))
set_option maxRecDepth 65536 in
set_option maxHeartbeats 40000000 in
theorem rm_ainit (l : Launch) (Z : State) (a0 : Array Value) (hw : ∀ d ∈ tables_1, d.before a0 Z = true) (ws : List Jvm.Cond) (g_CS : Int32) (S_CS : Sta Z Z.heap "java/lang/String" "COMPACT_STRINGS" "Z" (.int g_CS)) (nz_CS : ¬ (g_CS = (0 : Int32))) (p0 : Addr) (h0 : Heap) (n0 : Nat) (X00 : Old Z n0 h0) (hp0 : Exa Z h0 p0 "java/lang/StringBuilder") (hp1 : Fld Z h0 p0 "java/lang/AbstractStringBuilder" "value" "[B" .null) (hp2 : Fld Z h0 p0 "java/lang/AbstractStringBuilder" "coder" "B" (.int (0 : Int32))) (hp3 : Fld Z h0 p0 "java/lang/AbstractStringBuilder" "count" "I" (.int (0 : Int32))) (hp4 : n0 ≤ p0) :
    MetFree l (⟨"java/lang/AbstractStringBuilder", "<init>", "(I)V"⟩ : MethodName) (head1 (Jvm.Cond.code (⟨"java/lang/AbstractStringBuilder", "<init>", "(I)V"⟩ : MethodName) jdk_68_method_2_code 2 none :: ws) ({ frames := 1, cells := 1, slots := 16, locals := 12 } : Room)) (fun a U => a = #[(.ref p0), (.int (16 : Int32))] ∧ Z.Warmed39 U.vm ∧ U.heap = h0) (fun _ _ _ _ _ => True) (fun _ U o U' => ∃ v L, o = .returned v ∧ Q_rm_ainit Z g_CS p0 h0 n0 v U'.heap L ∧ FrameEnd U o U' L ({ frames := 1, cells := 1, slots := 16, locals := 12 } : Room).cells ({ frames := 1, cells := 1, slots := 16, locals := 12 } : Room).slots) := by
  refine MetFree.of_bodySF (plainFor_of_name own_pn4) hisR ?_
  intro p e s m args below meth c s₁ Bd hml0 hP hK
  obtain ⟨rfl, hZ, hh⟩ := hP
  have hx := Bd.exec
  have hby := Bd.bytes
  have hml : c.maxLocals = 2 := hml0
  have hown : s.vm.findClass "java/lang/AbstractStringBuilder" = some m.cls := findClass_of_methodNamed Bd.named
  have hnm := (name_of_methodNamed Bd.named Bd.method).1
  have X0 : Stand p l e ({ frames := 1, cells := 1, slots := 16, locals := 12 } : Room) s m #[(.ref p0), (.int (16 : Int32))] below meth c s₁ [] 0 0 := Stand.of_body Bd
  have e0 : s₁.heap = h0 := by rw [← hh, Bd.state]; rfl
  have N0 := Fr.nil n0
  refine Go.start fun P hPend => ?_
  refine Go.st (fun _ k => castTop (own_ef_rm_ainit m p0 ((16 : Int32))) k) ?_
  show Go _ _ _ _ (s₁.setTop (mkF m 0 #[lR p0, lI (16 : Int32)] []))
  refine Go.st (fun _ => XS.aloadN X0.here hx rfl (hb hby od8_0) rfl rfl) ?_
  show Go _ _ _ _ (s₁.setTop (mkF m 1 #[lR p0, lI (16 : Int32)] [(.ref p0)]))
  obtain ⟨T1, X1, e1, st1⟩ := initO X0 hx hZ hown (ow hw 79 rfl) (ow hw 16 rfl) (ow hw 17 rfl) e0 (g := (mkF m 1 #[.val (.ref p0), .val (.int (16 : Int32))] [(.ref p0)])) rfl (by rw [hml]; rfl) rfl (hb hby od8_1) (by decide) (W := 0) (by show 2 * 0 + _ ≤ _; exact Nat.le_of_eq rfl) (by decide)
  refine Go.st st1 ?_
  show Go _ _ _ _ (T1.setTop (mkF m 4 #[lR p0, lI (16 : Int32)] []))
  obtain ⟨T2, X2, e2, st2⟩ := getS2 X1 hx hZ hown (host := "") (Or.inl (ow hw 80 rfl)) Via.refl e1 (S_CS.ext X00.2) (g := (mkF m 4 #[.val (.ref p0), .val (.int (16 : Int32))] [])) rfl (hb hby od8_4)
  refine Go.st st2 ?_
  show Go _ _ _ _ (T2.setTop (mkF m 7 #[lR p0, lI (16 : Int32)] [(.int g_CS)]))
  have hb3 : ¬ (g_CS = (0 : Int32)) := nz_CS
  refine Go.st (fun _ => XS.ifNo X2.here hx rfl (hb hby od8_7) rfl ((if0 _ _).trans (feq hb3).1)) ?_
  show Go _ _ _ _ (T2.setTop (mkF m 10 #[lR p0, lI (16 : Int32)] []))
  refine Go.st (fun _ => XS.aloadN X2.here hx rfl (hb hby od8_10) rfl rfl) ?_
  show Go _ _ _ _ (T2.setTop (mkF m 11 #[lR p0, lI (16 : Int32)] [(.ref p0)]))
  refine Go.st (fun _ => XS.iloadN X2.here hx rfl (hb hby od8_11) rfl) ?_
  show Go _ _ _ _ (T2.setTop (mkF m 12 #[lR p0, lI (16 : Int32)] [(.int (16 : Int32)), (.ref p0)]))
  obtain ⟨T4, h4, k4, X4, e4, E4, A4, B4, st4⟩ := newPE X2 hx hZ (ow hw 19 rfl) e2 (g := (mkF m 12 #[.val (.ref p0), .val (.int (16 : Int32))] [(.int (16 : Int32)), (.ref p0)])) rfl (hb hby od8_12) rfl (by decide) (cap := 16) (by decide) (by decide) (by decide) (by decide) (ad := "[B") (by decide +kernel)
  obtain ⟨b4, g4⟩ : ∃ z, z = h0.size := ⟨_, rfl⟩
  rw [← g4] at A4 B4 st4
  refine Go.st st4 ?_
  have g_b4 : n0 ≤ b4 := Nat.le_trans (own_oldsz X00) (Nat.le_of_eq g4.symm)
  have sz_b4 : h0.size ≤ b4 := Nat.le_trans (Keep.refl h0 [p0]).1 (Nat.le_of_eq g4.symm)
  have K4 : Keep h0 h4 [p0] := (Keep.refl h0 [p0]).ext E4
  have O4 := X00.ext E4
  have V4 : Arv Z h4 b4 k4 .byte (16 : Int32) [] (.int (0 : Int32)) := Arv.new A4 (by decide)
  show Go _ _ _ _ (T4.setTop (mkF m 14 #[lR p0, lI (16 : Int32)] [(.ref b4), (.ref p0)]))
  have c5 := (hp1.ext E4)
  have c6 := (hp0.ext E4)
  obtain ⟨T7, h7, X7, e7, W7, st7⟩ := putF X4 hx hZ hown (host := "") (Or.inl (ow hw 81 rfl)) Via.refl e4 c5 c6 (Or.inl (ow hw 82 rfl)) (ow hw 68 rfl) (ty := (.array .byte)) (by decide) rfl rfl (g := (mkF m 14 #[.val (.ref p0), .val (.int (16 : Int32))] [(.ref b4), (.ref p0)])) rfl rfl (hb hby od8_14)
  refine Go.st st7 ?_
  have K7 : Keep h0 h7 [p0] := K4.wr W7 (Or.inl (List.mem_of_getElem? (i := 0) rfl))
  have O7 := O4.wr W7 hp4
  have N7 := Fr.snoc X7 N0 hp4
  have F7 := c5.same W7
  show Go _ _ _ _ (T7.setTop (mkF m 17 #[lR p0, lI (16 : Int32)] []))
  refine Go.st (fun _ => XS.aloadN X7.here hx rfl (hb hby od8_17) rfl rfl) ?_
  show Go _ _ _ _ (T7.setTop (mkF m 18 #[lR p0, lI (16 : Int32)] [(.ref p0)]))
  refine Go.st (fun _ => XS.iconst X7.here hx rfl (hb hby od8_18)) ?_
  show Go _ _ _ _ (T7.setTop (mkF m 19 #[lR p0, lI (16 : Int32)] [(.int (0 : Int32)), (.ref p0)]))
  have c8 := ((hp2.ext E4).other W7 (Or.inr (slot_ne (Or.inl (ow hw 84 rfl)) (Or.inl (ow hw 82 rfl)) (by decide) (t := .byte) (t' := (.array .byte)) (by decide) (by decide))))
  have c9 := (c6.wr W7)
  obtain ⟨T10, h10, X10, e10, W10, st10⟩ := putF X7 hx hZ hown (host := "") (Or.inl (ow hw 83 rfl)) Via.refl e7 c8 c9 (Or.inl (ow hw 84 rfl)) (ow hw 68 rfl) (ty := .byte) (by decide) rfl rfl (g := (mkF m 19 #[.val (.ref p0), .val (.int (16 : Int32))] [(.int (0 : Int32)), (.ref p0)])) rfl rfl (hb hby od8_19)
  refine Go.st st10 ?_
  have K10 : Keep h0 h10 [p0] := K7.wr W10 (Or.inl (List.mem_of_getElem? (i := 0) rfl))
  have O10 := O7.wr W10 hp4
  have N10 := Fr.snoc X10 N7 hp4
  have F10 := c8.same W10
  show Go _ _ _ _ (T10.setTop (mkF m 22 #[lR p0, lI (16 : Int32)] []))
  refine Go.st (fun _ => XS.goto X10.here hx rfl (pc0 := 22) (pc' := 38) rfl (hb hby od8_22) (by decide) (by decide)) ?_
  show Go _ _ _ _ (T10.setTop (mkF m 38 #[lR p0, lI (16 : Int32)] []))
  obtain ⟨fs, hr, hrun, hended, hW, hsame⟩ := X10.leave (v := none) (fun _ => rfl)
  refine ⟨_, ?_, hPend _ _ hrun hended ⟨_, _, rfl, ?_, ⟨_, rfl⟩, hW, hsame.mono (by decide) (by decide)⟩⟩
  · exact X10.returnOut hx Bd.returns (hb hby od8_38) hr
  · show Q_rm_ainit Z _ _ h0 n0 _ T10.heap _
    rw [e10]
    have c11 := (c9.wr W10)
    have c12 := (F7.other W10 (Or.inr (slot_ne (Or.inl (ow hw 82 rfl)) (Or.inl (ow hw 84 rfl)) (by decide) (t := (.array .byte)) (t' := .byte) (by decide) (by decide))))
    have c13 := (((hp3.ext E4).other W7 (Or.inr (slot_ne (Or.inl (ow hw 107 rfl)) (Or.inl (ow hw 82 rfl)) (by decide) (t := .int) (t' := (.array .byte)) (by decide) (by decide)))).other W10 (Or.inr (slot_ne (Or.inl (ow hw 107 rfl)) (Or.inl (ow hw 84 rfl)) (by decide) (t := .int) (t' := .byte) (by decide) (by decide))))
    have c14 := ((B4.wr W7).wr W10)
    have c15 := ((V4.other W7 (Ne.symm (Nat.ne_of_lt (Nat.lt_of_lt_of_le hp0.lt (Nat.le_of_eq g4.symm))))).other W10 (Ne.symm (Nat.ne_of_lt (Nat.lt_of_lt_of_le hp0.lt (Nat.le_of_eq g4.symm)))))
    exact ⟨b4, k4, rfl, N10, K10, sz_b4, c11, c12, F10, c13, c14, c15⟩
theorem own_ef_rm_sbinit (m : MethodId) (x0 : Addr) : entryFrame m #[(.ref x0)] 1 = mkF m 0 #[.val (.ref x0)] [] := by first | (simp [entryFrame, mkF, argsToLocals, Value.category]; done) | rfl
theorem own_pn5 : plainName "java/lang/StringBuilder" = true := by first | (simp [plainName, overriddenIn]; done) | decide +kernel
theorem od9_0 : decode jdk_67_method_1_code 0 = .ok (.aload_n 0, 1) := by decide +kernel
theorem od9_1 : decode jdk_67_method_1_code 1 = .ok (.bipush 16, 2) := by decide +kernel
theorem od9_3 : decode jdk_67_method_1_code 3 = .ok (.invokespecial 1, 3) := by decide +kernel
theorem own_pd4 : parseMethodDescriptor "(I)V" = some ⟨[.int], none⟩ := by decide +kernel
theorem od9_6 : decode jdk_67_method_1_code 6 = .ok (.return_, 1) := by decide +kernel
def Q_rm_sbinit (Z : State) (g_CS : Int32) (p0 : Addr) (h0 : Heap) (n0 : Nat) (v : Option Value) (h : Heap) (L : List Loc) : Prop := ∃ (ob : Addr) (kb : ClassId), v = none ∧ Fr n0 L ∧ Keep h0 h [p0] ∧ h0.size ≤ ob ∧ Exa Z h p0 "java/lang/StringBuilder" ∧ Fld Z h p0 "java/lang/AbstractStringBuilder" "value" "[B" (.ref ob) ∧ Fld Z h p0 "java/lang/AbstractStringBuilder" "coder" "B" (.int (0 : Int32)) ∧ Fld Z h p0 "java/lang/AbstractStringBuilder" "count" "I" (.int (0 : Int32)) ∧ Exa Z h ob "[B" ∧ Arv Z h ob kb .byte (16 : Int32) [] (.int (0 : Int32))
set_option maxRecDepth 65536 in
set_option maxHeartbeats 40000000 in
theorem rm_sbinit (l : Launch) (Z : State) (a0 : Array Value) (hw : ∀ d ∈ tables_1, d.before a0 Z = true) (ws : List Jvm.Cond) (g_CS : Int32) (S_CS : Sta Z Z.heap "java/lang/String" "COMPACT_STRINGS" "Z" (.int g_CS)) (nz_CS : ¬ (g_CS = (0 : Int32))) (p0 : Addr) (h0 : Heap) (n0 : Nat) (X00 : Old Z n0 h0) (hp0 : Exa Z h0 p0 "java/lang/StringBuilder") (hp1 : Fld Z h0 p0 "java/lang/AbstractStringBuilder" "value" "[B" .null) (hp2 : Fld Z h0 p0 "java/lang/AbstractStringBuilder" "coder" "B" (.int (0 : Int32))) (hp3 : Fld Z h0 p0 "java/lang/AbstractStringBuilder" "count" "I" (.int (0 : Int32))) (hp4 : n0 ≤ p0) :
    MetFree l (⟨"java/lang/StringBuilder", "<init>", "()V"⟩ : MethodName) (head1 (Jvm.Cond.code (⟨"java/lang/StringBuilder", "<init>", "()V"⟩ : MethodName) jdk_67_method_1_code 1 none :: ws) ({ frames := 2, cells := 1, slots := 16, locals := 25 } : Room)) (fun a U => a = #[(.ref p0)] ∧ Z.Warmed39 U.vm ∧ U.heap = h0) (fun _ _ _ _ _ => True) (fun _ U o U' => ∃ v L, o = .returned v ∧ Q_rm_sbinit Z g_CS p0 h0 n0 v U'.heap L ∧ FrameEnd U o U' L ({ frames := 2, cells := 1, slots := 16, locals := 25 } : Room).cells ({ frames := 2, cells := 1, slots := 16, locals := 25 } : Room).slots) := by
  refine MetFree.of_bodySF (plainFor_of_name own_pn5) hisR ?_
  intro p e s m args below meth c s₁ Bd hml0 hP hK
  obtain ⟨rfl, hZ, hh⟩ := hP
  have hx := Bd.exec
  have hby := Bd.bytes
  have hml : c.maxLocals = 1 := hml0
  have hown : s.vm.findClass "java/lang/StringBuilder" = some m.cls := findClass_of_methodNamed Bd.named
  have hnm := (name_of_methodNamed Bd.named Bd.method).1
  have X0 : Stand p l e ({ frames := 2, cells := 1, slots := 16, locals := 25 } : Room) s m #[(.ref p0)] below meth c s₁ [] 0 0 := Stand.of_body Bd
  have e0 : s₁.heap = h0 := by rw [← hh, Bd.state]; rfl
  have N0 := Fr.nil n0
  refine Go.start fun P hPend => ?_
  refine Go.st (fun _ k => castTop (own_ef_rm_sbinit m p0) k) ?_
  show Go _ _ _ _ (s₁.setTop (mkF m 0 #[lR p0] []))
  refine Go.st (fun _ => XS.aloadN X0.here hx rfl (hb hby od9_0) rfl rfl) ?_
  show Go _ _ _ _ (s₁.setTop (mkF m 1 #[lR p0] [(.ref p0)]))
  refine Go.st (fun _ => XS.bipush X0.here hx rfl (hb hby od9_1)) ?_
  show Go _ _ _ _ (s₁.setTop (mkF m 3 #[lR p0] [(.int (16 : Int32)), (.ref p0)]))
  obtain ⟨_, _, ⟨T1, L1, k1, n1⟩, -, X1, ⟨Lc1, hQ1, l1, y1, z1⟩, st1⟩ := X0.specialBack hx (y := (⟨"java/lang/AbstractStringBuilder", "<init>", "(I)V"⟩ : MethodName)) rfl hown (mvT hZ (ow hw 73 rfl)) (mvT hZ (ow hw 74 rfl)) (mvT hZ (ow hw 78 rfl)) (by decide) (backOf (W := 0) (rm_ainit l Z a0 hw [] g_CS S_CS nz_CS p0 h0 n0 X00 hp0 hp1 hp2 hp3 hp4) hZ (ow hw 78 rfl) (ow hw 77 rfl) (by decide) (by decide)) (g := (mkF m 3 #[.val (.ref p0)] [(.int (16 : Int32)), (.ref p0)])) rfl (by rw [hml]; rfl) (Steps.refl _) (a := p0) (argsL := [(.int (16 : Int32))]) (rest := []) (lenOf own_pd4 rfl) rfl (by show 2 * 0 + _ ≤ _; exact Nat.le_of_eq rfl) (hb hby od9_3) (fun _ _ => ⟨rfl, e0, (by decide : 0 + 1 ≤ _), (by decide : 0 + 16 ≤ _)⟩)
  dsimp only [Pt.U, Pt.locs, Pt.cells, Pt.slots] at X1 l1 y1 z1 st1 hQ1
  subst y1 z1
  refine Go.tr st1 ?_
  obtain ⟨ob_2, kb_3, rfl, N1q, K1q, q1_0, q1_1, q1_2, q1_3, q1_4, q1_5, q1_6⟩ := hQ1
  have N1 : Fr n0 L1 := by rw [l1]; exact Fr.app N0 N1q
  have O1 := X00.keep K1q (allS hp4 all0)
  have K1 : Keep h0 T1.heap [p0] := (Keep.refl h0 [p0]).trans K1q (allS (Or.inl (List.mem_of_getElem? (i := 0) rfl)) all0)
  have sz_ob_2 : h0.size ≤ ob_2 := Nat.le_trans (Keep.refl h0 [p0]).1 q1_0
  have g_ob_2 : n0 ≤ ob_2 := Nat.le_trans (own_oldsz X00) sz_ob_2
  show Go _ _ _ _ (T1.setTop (mkF m 6 #[lR p0] []))
  obtain ⟨fs, hr, hrun, hended, hW, hsame⟩ := X1.leave (v := none) (fun _ => rfl)
  refine ⟨_, ?_, hPend _ _ hrun hended ⟨_, _, rfl, ?_, ⟨_, rfl⟩, hW, hsame.mono (by decide) (by decide)⟩⟩
  · exact X1.returnOut hx Bd.returns (hb hby od9_6) hr
  · show Q_rm_sbinit Z _ _ h0 n0 _ T1.heap _
    exact ⟨ob_2, kb_3, rfl, N1, K1, sz_ob_2, q1_1, q1_2, q1_3, q1_4, q1_5, q1_6⟩
theorem own_ef_rm_coder (m : MethodId) (x0 : Addr) : entryFrame m #[(.ref x0)] 1 = mkF m 0 #[.val (.ref x0)] [] := by first | (simp [entryFrame, mkF, argsToLocals, Value.category]; done) | rfl
theorem od10_0 : decode jdk_42_method_152_code 0 = .ok (.getstatic 38, 3) := by decide +kernel
theorem od10_3 : decode jdk_42_method_152_code 3 = .ok (.ifCond .eq 10, 3) := by decide +kernel
theorem od10_6 : decode jdk_42_method_152_code 6 = .ok (.aload_n 0, 1) := by decide +kernel
theorem od10_7 : decode jdk_42_method_152_code 7 = .ok (.getfield 15, 3) := by decide +kernel
theorem od10_10 : decode jdk_42_method_152_code 10 = .ok (.goto 4, 3) := by decide +kernel
theorem od10_14 : decode jdk_42_method_152_code 14 = .ok (.ireturn, 1) := by decide +kernel
def Q_rm_coder (Z : State) (g_CS : Int32) (p0 : Addr) (h0 : Heap) (n0 : Nat) (v : Option Value) (h : Heap) (L : List Loc) : Prop := v = some (.int (0 : Int32)) ∧ Fr n0 L ∧ h = h0
set_option maxRecDepth 65536 in
set_option maxHeartbeats 40000000 in
theorem rm_coder (l : Launch) (Z : State) (a0 : Array Value) (hw : ∀ d ∈ tables_1, d.before a0 Z = true) (ws : List Jvm.Cond) (g_CS : Int32) (S_CS : Sta Z Z.heap "java/lang/String" "COMPACT_STRINGS" "Z" (.int g_CS)) (nz_CS : ¬ (g_CS = (0 : Int32))) (p0 : Addr) (h0 : Heap) (n0 : Nat) (X00 : Old Z n0 h0) (hp0 : Fld Z h0 p0 "java/lang/String" "coder" "B" (.int (0 : Int32))) :
    MetFree l (⟨"java/lang/String", "coder", "()B"⟩ : MethodName) (head1 (Jvm.Cond.code (⟨"java/lang/String", "coder", "()B"⟩ : MethodName) jdk_42_method_152_code 1 (some .byte) :: ws) ({ frames := 0, cells := 0, slots := 0, locals := 0 } : Room)) (fun a U => a = #[(.ref p0)] ∧ Z.Warmed39 U.vm ∧ U.heap = h0) (fun _ _ _ _ _ => True) (fun _ U o U' => ∃ v L, o = .returned v ∧ Q_rm_coder Z g_CS p0 h0 n0 v U'.heap L ∧ FrameEnd U o U' L ({ frames := 0, cells := 0, slots := 0, locals := 0 } : Room).cells ({ frames := 0, cells := 0, slots := 0, locals := 0 } : Room).slots) := by
  refine MetFree.of_bodySF (plainFor_of_name own_pn0) hisR ?_
  intro p e s m args below meth c s₁ Bd hml0 hP hK
  obtain ⟨rfl, hZ, hh⟩ := hP
  have hx := Bd.exec
  have hby := Bd.bytes
  have hml : c.maxLocals = 1 := hml0
  have hown : s.vm.findClass "java/lang/String" = some m.cls := findClass_of_methodNamed Bd.named
  have hnm := (name_of_methodNamed Bd.named Bd.method).1
  have X0 : Stand p l e ({ frames := 0, cells := 0, slots := 0, locals := 0 } : Room) s m #[(.ref p0)] below meth c s₁ [] 0 0 := Stand.of_body Bd
  have e0 : s₁.heap = h0 := by rw [← hh, Bd.state]; rfl
  have N0 := Fr.nil n0
  refine Go.start fun P hPend => ?_
  refine Go.st (fun _ k => castTop (own_ef_rm_coder m p0) k) ?_
  show Go _ _ _ _ (s₁.setTop (mkF m 0 #[lR p0] []))
  obtain ⟨T1, X1, e1, st1⟩ := getS2 X0 hx hZ hown (host := "") (Or.inl (ow hw 26 rfl)) Via.refl e0 (S_CS.ext X00.2) (g := (mkF m 0 #[.val (.ref p0)] [])) rfl (hb hby od10_0)
  refine Go.st st1 ?_
  show Go _ _ _ _ (T1.setTop (mkF m 3 #[lR p0] [(.int g_CS)]))
  have hb2 : ¬ (g_CS = (0 : Int32)) := nz_CS
  refine Go.st (fun _ => XS.ifNo X1.here hx rfl (hb hby od10_3) rfl ((if0 _ _).trans (feq hb2).1)) ?_
  show Go _ _ _ _ (T1.setTop (mkF m 6 #[lR p0] []))
  refine Go.st (fun _ => XS.aloadN X1.here hx rfl (hb hby od10_6) rfl rfl) ?_
  show Go _ _ _ _ (T1.setTop (mkF m 7 #[lR p0] [(.ref p0)]))
  obtain ⟨T3, X3, e3, st3⟩ := getF X1 hx hZ hown (host := "") (Or.inl (ow hw 25 rfl)) Via.refl e1 hp0 (g := (mkF m 7 #[.val (.ref p0)] [(.ref p0)])) rfl rfl (hb hby od10_7)
  refine Go.st st3 ?_
  show Go _ _ _ _ (T3.setTop (mkF m 10 #[lR p0] [(.int (0 : Int32))]))
  refine Go.st (fun _ => XS.goto X3.here hx rfl (pc0 := 10) (pc' := 14) rfl (hb hby od10_10) (by decide) (by decide)) ?_
  show Go _ _ _ _ (T3.setTop (mkF m 14 #[lR p0] [(.int (0 : Int32))]))
  obtain ⟨fs, hr, hrun, hended, hW, hsame⟩ := X3.leave (v := some (.int (0 : Int32))) (fun h => by rw [Bd.returns] at h; cases h)
  refine ⟨_, ?_, hPend _ _ hrun hended ⟨_, _, rfl, ?_, ⟨_, rfl⟩, hW, hsame.mono (by decide) (by decide)⟩⟩
  · exact retN X3 hx (t := .byte) Bd.returns (by simp) (hb hby od10_14) hr
  · show Q_rm_coder Z _ _ h0 n0 _ T3.heap _
    rw [e3]
    exact ⟨rfl, N0, rfl⟩
theorem own_ef_rm_ensr (m : MethodId) (x0 : Addr) (x1 : Int32) : entryFrame m #[(.ref x0), (.int x1)] 3 = mkF m 0 #[.val (.ref x0), .val (.int x1), .unset] [] := by first | (simp [entryFrame, mkF, argsToLocals, Value.category]; done) | rfl
theorem od11_0 : decode jdk_68_method_9_code 0 = .ok (.aload_n 0, 1) := by decide +kernel
theorem od11_1 : decode jdk_68_method_9_code 1 = .ok (.getfield 15, 3) := by decide +kernel
theorem od11_4 : decode jdk_68_method_9_code 4 = .ok (.arraylength, 1) := by decide +kernel
theorem od11_5 : decode jdk_68_method_9_code 5 = .ok (.aload_n 0, 1) := by decide +kernel
theorem od11_6 : decode jdk_68_method_9_code 6 = .ok (.getfield 22, 3) := by decide +kernel
theorem od11_9 : decode jdk_68_method_9_code 9 = .ok (.ishr, 1) := by decide +kernel
theorem od11_10 : decode jdk_68_method_9_code 10 = .ok (.istore_n 2, 1) := by decide +kernel
theorem od11_11 : decode jdk_68_method_9_code 11 = .ok (.iload_n 1, 1) := by decide +kernel
theorem od11_12 : decode jdk_68_method_9_code 12 = .ok (.iload_n 2, 1) := by decide +kernel
theorem od11_13 : decode jdk_68_method_9_code 13 = .ok (.isub, 1) := by decide +kernel
theorem od11_14 : decode jdk_68_method_9_code 14 = .ok (.ifCond .le 24, 3) := by decide +kernel
theorem od11_38 : decode jdk_68_method_9_code 38 = .ok (.return_, 1) := by decide +kernel
def Q_rm_ensr (Z : State) (g_CS : Int32) (p0 : Addr) (p1 : Int32) (arr : Addr) (ka : ClassId) (za : Int32) (va : List Value) (h0 : Heap) (n0 : Nat) (v : Option Value) (h : Heap) (L : List Loc) : Prop := v = none ∧ Fr n0 L ∧ h = h0
set_option maxRecDepth 65536 in
set_option maxHeartbeats 40000000 in
theorem rm_ensr (l : Launch) (Z : State) (a0 : Array Value) (hw : ∀ d ∈ tables_1, d.before a0 Z = true) (ws : List Jvm.Cond) (g_CS : Int32) (S_CS : Sta Z Z.heap "java/lang/String" "COMPACT_STRINGS" "Z" (.int g_CS)) (nz_CS : ¬ (g_CS = (0 : Int32))) (p0 : Addr) (p1 : Int32) (arr : Addr) (ka : ClassId) (za : Int32) (va : List Value) (h0 : Heap) (n0 : Nat) (X00 : Old Z n0 h0) (hp0 : Fld Z h0 p0 "java/lang/AbstractStringBuilder" "value" "[B" (.ref arr)) (hp1 : Fld Z h0 p0 "java/lang/AbstractStringBuilder" "coder" "B" (.int (0 : Int32))) (hp2 : Arv Z h0 arr ka .byte za va (.int (0 : Int32))) (hroom : ¬ ((0 : Int32) < (p1 - za))) :
    MetFree l (⟨"java/lang/AbstractStringBuilder", "ensureCapacityInternal", "(I)V"⟩ : MethodName) (head1 (Jvm.Cond.code (⟨"java/lang/AbstractStringBuilder", "ensureCapacityInternal", "(I)V"⟩ : MethodName) jdk_68_method_9_code 3 none :: ws) ({ frames := 0, cells := 0, slots := 0, locals := 0 } : Room)) (fun a U => a = #[(.ref p0), (.int p1)] ∧ Z.Warmed39 U.vm ∧ U.heap = h0) (fun _ _ _ _ _ => True) (fun _ U o U' => ∃ v L, o = .returned v ∧ Q_rm_ensr Z g_CS p0 p1 arr ka za va h0 n0 v U'.heap L ∧ FrameEnd U o U' L ({ frames := 0, cells := 0, slots := 0, locals := 0 } : Room).cells ({ frames := 0, cells := 0, slots := 0, locals := 0 } : Room).slots) := by
  refine MetFree.of_bodySF (plainFor_of_name own_pn4) hisR ?_
  intro p e s m args below meth c s₁ Bd hml0 hP hK
  obtain ⟨rfl, hZ, hh⟩ := hP
  have hx := Bd.exec
  have hby := Bd.bytes
  have hml : c.maxLocals = 3 := hml0
  have hown : s.vm.findClass "java/lang/AbstractStringBuilder" = some m.cls := findClass_of_methodNamed Bd.named
  have hnm := (name_of_methodNamed Bd.named Bd.method).1
  have X0 : Stand p l e ({ frames := 0, cells := 0, slots := 0, locals := 0 } : Room) s m #[(.ref p0), (.int p1)] below meth c s₁ [] 0 0 := Stand.of_body Bd
  have e0 : s₁.heap = h0 := by rw [← hh, Bd.state]; rfl
  have N0 := Fr.nil n0
  refine Go.start fun P hPend => ?_
  refine Go.st (fun _ k => castTop (own_ef_rm_ensr m p0 p1) k) ?_
  show Go _ _ _ _ (s₁.setTop (mkF m 0 #[lR p0, lI p1, lU] []))
  refine Go.st (fun _ => XS.aloadN X0.here hx rfl (hb hby od11_0) rfl rfl) ?_
  show Go _ _ _ _ (s₁.setTop (mkF m 1 #[lR p0, lI p1, lU] [(.ref p0)]))
  obtain ⟨T1, X1, e1, st1⟩ := getF X0 hx hZ hown (host := "") (Or.inl (ow hw 81 rfl)) Via.refl e0 hp0 (g := (mkF m 1 #[.val (.ref p0), .val (.int p1), .unset] [(.ref p0)])) rfl rfl (hb hby od11_1)
  refine Go.st st1 ?_
  show Go _ _ _ _ (T1.setTop (mkF m 4 #[lR p0, lI p1, lU] [(.ref arr)]))
  refine Go.st (fun _ => own_len X1 hx hZ e1 hp2 (g := (mkF m 4 #[.val (.ref p0), .val (.int p1), .unset] [(.ref arr)])) rfl rfl (hb hby od11_4) _) ?_
  show Go _ _ _ _ (T1.setTop (mkF m 5 #[lR p0, lI p1, lU] [(.int za)]))
  refine Go.st (fun _ => XS.aloadN X1.here hx rfl (hb hby od11_5) rfl rfl) ?_
  show Go _ _ _ _ (T1.setTop (mkF m 6 #[lR p0, lI p1, lU] [(.ref p0), (.int za)]))
  obtain ⟨T2, X2, e2, st2⟩ := getF X1 hx hZ hown (host := "") (Or.inl (ow hw 83 rfl)) Via.refl e1 hp1 (g := (mkF m 6 #[.val (.ref p0), .val (.int p1), .unset] [(.ref p0), (.int za)])) rfl rfl (hb hby od11_6)
  refine Go.st st2 ?_
  show Go _ _ _ _ (T2.setTop (mkF m 9 #[lR p0, lI p1, lU] [(.int (0 : Int32)), (.int za)]))
  refine Go.st (fun _ => XS.ishr X2.here hx rfl (hb hby od11_9) rfl) ?_
  show Go _ _ _ _ (T2.setTop (mkF m 10 #[lR p0, lI p1, lU] [(.int (za >>> ((0 : Int32) &&& 31)))]))
  rw [show (za >>> ((0 : Int32) &&& 31)) = za from own_ishr0 _]
  show Go _ _ _ _ (T2.setTop (mkF m 10 #[lR p0, lI p1, lU] [(.int za)]))
  refine Go.st (fun _ => XS.istoreN X2.here hx rfl (hb hby od11_10) rfl (l' := #[.val (.ref p0), .val (.int p1), .val (.int za)]) rfl) ?_
  show Go _ _ _ _ (T2.setTop (mkF m 11 #[lR p0, lI p1, lI za] []))
  refine Go.st (fun _ => XS.iloadN X2.here hx rfl (hb hby od11_11) rfl) ?_
  show Go _ _ _ _ (T2.setTop (mkF m 12 #[lR p0, lI p1, lI za] [(.int p1)]))
  refine Go.st (fun _ => XS.iloadN X2.here hx rfl (hb hby od11_12) rfl) ?_
  show Go _ _ _ _ (T2.setTop (mkF m 13 #[lR p0, lI p1, lI za] [(.int za), (.int p1)]))
  refine Go.st (fun _ => XS.isub X2.here hx rfl (hb hby od11_13) rfl) ?_
  show Go _ _ _ _ (T2.setTop (mkF m 14 #[lR p0, lI p1, lI za] [(.int (p1 - za))]))
  have hb3 : ¬ ((0 : Int32) < (p1 - za)) := hroom
  refine Go.st (fun _ => XS.ifYes X2.here hx rfl (pc0 := 14) (pc' := 38) rfl (hb hby od11_14) rfl ((if0 _ _).trans (flt hb3).2.2.2) (by decide) (by decide)) ?_
  show Go _ _ _ _ (T2.setTop (mkF m 38 #[lR p0, lI p1, lI za] []))
  obtain ⟨fs, hr, hrun, hended, hW, hsame⟩ := X2.leave (v := none) (fun _ => rfl)
  refine ⟨_, ?_, hPend _ _ hrun hended ⟨_, _, rfl, ?_, ⟨_, rfl⟩, hW, hsame.mono (by decide) (by decide)⟩⟩
  · exact X2.returnOut hx Bd.returns (hb hby od11_38) hr
  · show Q_rm_ensr Z _ _ _ _ _ _ _ h0 n0 _ T2.heap _
    rw [e2]
    exact ⟨rfl, N0, rfl⟩
theorem own_ef_rm_infl (m : MethodId) (x0 : Addr) (x1 : Addr) : entryFrame m #[(.ref x0), (.ref x1)] 2 = mkF m 0 #[.val (.ref x0), .val (.ref x1)] [] := by first | (simp [entryFrame, mkF, argsToLocals, Value.category]; done) | rfl
theorem od12_0 : decode jdk_68_method_71_code 0 = .ok (.getstatic 18, 3) := by decide +kernel
theorem od12_3 : decode jdk_68_method_71_code 3 = .ok (.ifCond .eq 18, 3) := by decide +kernel
theorem od12_6 : decode jdk_68_method_71_code 6 = .ok (.aload_n 0, 1) := by decide +kernel
theorem od12_7 : decode jdk_68_method_71_code 7 = .ok (.getfield 22, 3) := by decide +kernel
theorem od12_10 : decode jdk_68_method_71_code 10 = .ok (.aload_n 1, 1) := by decide +kernel
theorem od12_11 : decode jdk_68_method_71_code 11 = .ok (.invokevirtual 40, 3) := by decide +kernel
theorem own_pd5 : parseMethodDescriptor "()B" = some ⟨[], some .byte⟩ := by decide +kernel
theorem od12_14 : decode jdk_68_method_71_code 14 = .ok (.if_icmp .eq 7, 3) := by decide +kernel
theorem od12_21 : decode jdk_68_method_71_code 21 = .ok (.return_, 1) := by decide +kernel
def Q_rm_infl (Z : State) (g_CS : Int32) (p0 : Addr) (p1 : Addr) (h0 : Heap) (n0 : Nat) (v : Option Value) (h : Heap) (L : List Loc) : Prop := v = none ∧ Fr n0 L ∧ h = h0
set_option maxRecDepth 65536 in
set_option maxHeartbeats 40000000 in
theorem rm_infl (l : Launch) (Z : State) (a0 : Array Value) (hw : ∀ d ∈ tables_1, d.before a0 Z = true) (ws : List Jvm.Cond) (g_CS : Int32) (S_CS : Sta Z Z.heap "java/lang/String" "COMPACT_STRINGS" "Z" (.int g_CS)) (nz_CS : ¬ (g_CS = (0 : Int32))) (p0 : Addr) (p1 : Addr) (h0 : Heap) (n0 : Nat) (X00 : Old Z n0 h0) (hp0 : Fld Z h0 p0 "java/lang/AbstractStringBuilder" "coder" "B" (.int (0 : Int32))) (hp1 : Exa Z h0 p1 "java/lang/String") (hp2 : Fld Z h0 p1 "java/lang/String" "coder" "B" (.int (0 : Int32))) :
    MetFree l (⟨"java/lang/AbstractStringBuilder", "inflateIfNeededFor", "(Ljava/lang/String;)V"⟩ : MethodName) (head1 (Jvm.Cond.code (⟨"java/lang/AbstractStringBuilder", "inflateIfNeededFor", "(Ljava/lang/String;)V"⟩ : MethodName) jdk_68_method_71_code 2 none :: ws) ({ frames := 1, cells := 0, slots := 0, locals := 13 } : Room)) (fun a U => a = #[(.ref p0), (.ref p1)] ∧ Z.Warmed39 U.vm ∧ U.heap = h0) (fun _ _ _ _ _ => True) (fun _ U o U' => ∃ v L, o = .returned v ∧ Q_rm_infl Z g_CS p0 p1 h0 n0 v U'.heap L ∧ FrameEnd U o U' L ({ frames := 1, cells := 0, slots := 0, locals := 13 } : Room).cells ({ frames := 1, cells := 0, slots := 0, locals := 13 } : Room).slots) := by
  refine MetFree.of_bodySF (plainFor_of_name own_pn4) hisR ?_
  intro p e s m args below meth c s₁ Bd hml0 hP hK
  obtain ⟨rfl, hZ, hh⟩ := hP
  have hx := Bd.exec
  have hby := Bd.bytes
  have hml : c.maxLocals = 2 := hml0
  have hown : s.vm.findClass "java/lang/AbstractStringBuilder" = some m.cls := findClass_of_methodNamed Bd.named
  have hnm := (name_of_methodNamed Bd.named Bd.method).1
  have X0 : Stand p l e ({ frames := 1, cells := 0, slots := 0, locals := 13 } : Room) s m #[(.ref p0), (.ref p1)] below meth c s₁ [] 0 0 := Stand.of_body Bd
  have e0 : s₁.heap = h0 := by rw [← hh, Bd.state]; rfl
  have N0 := Fr.nil n0
  refine Go.start fun P hPend => ?_
  refine Go.st (fun _ k => castTop (own_ef_rm_infl m p0 p1) k) ?_
  show Go _ _ _ _ (s₁.setTop (mkF m 0 #[lR p0, lR p1] []))
  obtain ⟨T1, X1, e1, st1⟩ := getS2 X0 hx hZ hown (host := "") (Or.inl (ow hw 80 rfl)) Via.refl e0 (S_CS.ext X00.2) (g := (mkF m 0 #[.val (.ref p0), .val (.ref p1)] [])) rfl (hb hby od12_0)
  refine Go.st st1 ?_
  show Go _ _ _ _ (T1.setTop (mkF m 3 #[lR p0, lR p1] [(.int g_CS)]))
  have hb2 : ¬ (g_CS = (0 : Int32)) := nz_CS
  refine Go.st (fun _ => XS.ifNo X1.here hx rfl (hb hby od12_3) rfl ((if0 _ _).trans (feq hb2).1)) ?_
  show Go _ _ _ _ (T1.setTop (mkF m 6 #[lR p0, lR p1] []))
  refine Go.st (fun _ => XS.aloadN X1.here hx rfl (hb hby od12_6) rfl rfl) ?_
  show Go _ _ _ _ (T1.setTop (mkF m 7 #[lR p0, lR p1] [(.ref p0)]))
  obtain ⟨T3, X3, e3, st3⟩ := getF X1 hx hZ hown (host := "") (Or.inl (ow hw 83 rfl)) Via.refl e1 hp0 (g := (mkF m 7 #[.val (.ref p0), .val (.ref p1)] [(.ref p0)])) rfl rfl (hb hby od12_7)
  refine Go.st st3 ?_
  show Go _ _ _ _ (T3.setTop (mkF m 10 #[lR p0, lR p1] [(.int (0 : Int32))]))
  refine Go.st (fun _ => XS.aloadN X3.here hx rfl (hb hby od12_10) rfl rfl) ?_
  show Go _ _ _ _ (T3.setTop (mkF m 11 #[lR p0, lR p1] [(.ref p1), (.int (0 : Int32))]))
  obtain ⟨cq4, kq4, q4a, q4b, q4c⟩ := isOf hZ e3 hp1
  obtain ⟨_, _, ⟨T4, L4, k4, n4⟩, -, X4, ⟨Lc4, hQ4, l4, y4, z4⟩, st4⟩ := X3.virtualBack hx (y := (⟨"java/lang/String", "coder", "()B"⟩ : MethodName)) (z := (⟨"java/lang/String", "coder", "()B"⟩ : MethodName)) hown (mvT hZ (ow hw 123 rfl)) (mvT hZ (ow hw 102 rfl)) (notFace_of_selects (args := #[]) (mvT hZ (ow hw 104 rfl))) (mvT hZ (ow hw 104 rfl)) (mvT hZ (ow hw 103 rfl)) (by decide) (backOf (W := 1) (rm_coder l Z a0 hw [] g_CS S_CS nz_CS p1 h0 n0 X00 hp2) hZ (ow hw 105 rfl) (ow hw 6 rfl) (by decide) (by decide)) q4a q4c (g := (mkF m 11 #[.val (.ref p0), .val (.ref p1)] [(.ref p1), (.int (0 : Int32))])) rfl (by rw [hml]; rfl) (Steps.refl _) (argsL := []) (rest := [(.int (0 : Int32))]) (lenOf own_pd5 rfl) rfl (by show 2 * 0 + _ ≤ _; exact Nat.le_of_eq rfl) (hb hby od12_11) (fun _ _ => ⟨rfl, e3, (by decide : 0 + 0 ≤ _), (by decide : 0 + 0 ≤ _)⟩)
  dsimp only [Pt.U, Pt.locs, Pt.cells, Pt.slots] at X4 l4 y4 z4 st4 hQ4
  subst y4 z4
  refine Go.tr st4 ?_
  obtain ⟨rfl, N4q, e4⟩ := hQ4
  have N4 : Fr n0 L4 := by rw [l4]; exact Fr.app N0 N4q
  show Go _ _ _ _ (T4.setTop (mkF m 14 #[lR p0, lR p1] [(.int (0 : Int32)), (.int (0 : Int32))]))
  refine Go.st (fun _ => XS.icmpYes X4.here hx rfl (pc0 := 14) (pc' := 21) rfl (hb hby od12_14) rfl (teq (by decide)).1 (by decide) (by decide)) ?_
  show Go _ _ _ _ (T4.setTop (mkF m 21 #[lR p0, lR p1] []))
  obtain ⟨fs, hr, hrun, hended, hW, hsame⟩ := X4.leave (v := none) (fun _ => rfl)
  refine ⟨_, ?_, hPend _ _ hrun hended ⟨_, _, rfl, ?_, ⟨_, rfl⟩, hW, hsame.mono (by decide) (by decide)⟩⟩
  · exact X4.returnOut hx Bd.returns (hb hby od12_21) hr
  · show Q_rm_infl Z _ _ _ h0 n0 _ T4.heap _
    rw [e4]
    exact ⟨rfl, N4, rfl⟩
theorem own_ef_rm_getb (m : MethodId) (x0 : Addr) (x1 : Addr) (x2 : Int32) (x3 : Int32) : entryFrame m #[(.ref x0), (.ref x1), (.int x2), (.int x3)] 4 = mkF m 0 #[.val (.ref x0), .val (.ref x1), .val (.int x2), .val (.int x3)] [] := by first | (simp [entryFrame, mkF, argsToLocals, Value.category]; done) | rfl
theorem od13_0 : decode jdk_42_method_147_code 0 = .ok (.aload_n 0, 1) := by decide +kernel
theorem od13_1 : decode jdk_42_method_147_code 1 = .ok (.invokevirtual 335, 3) := by decide +kernel
theorem od13_4 : decode jdk_42_method_147_code 4 = .ok (.iload_n 3, 1) := by decide +kernel
theorem od13_5 : decode jdk_42_method_147_code 5 = .ok (.if_icmp .ne 23, 3) := by decide +kernel
theorem od13_8 : decode jdk_42_method_147_code 8 = .ok (.aload_n 0, 1) := by decide +kernel
theorem od13_9 : decode jdk_42_method_147_code 9 = .ok (.getfield 9, 3) := by decide +kernel
theorem od13_12 : decode jdk_42_method_147_code 12 = .ok (.iconst 0, 1) := by decide +kernel
theorem od13_13 : decode jdk_42_method_147_code 13 = .ok (.aload_n 1, 1) := by decide +kernel
theorem od13_14 : decode jdk_42_method_147_code 14 = .ok (.iload_n 2, 1) := by decide +kernel
theorem od13_15 : decode jdk_42_method_147_code 15 = .ok (.iload_n 3, 1) := by decide +kernel
theorem od13_16 : decode jdk_42_method_147_code 16 = .ok (.ishl, 1) := by decide +kernel
theorem od13_17 : decode jdk_42_method_147_code 17 = .ok (.aload_n 0, 1) := by decide +kernel
theorem od13_18 : decode jdk_42_method_147_code 18 = .ok (.getfield 9, 3) := by decide +kernel
theorem od13_21 : decode jdk_42_method_147_code 21 = .ok (.arraylength, 1) := by decide +kernel
theorem od13_22 : decode jdk_42_method_147_code 22 = .ok (.invokestatic 212, 3) := by decide +kernel
theorem od13_25 : decode jdk_42_method_147_code 25 = .ok (.goto 18, 3) := by decide +kernel
theorem od13_43 : decode jdk_42_method_147_code 43 = .ok (.return_, 1) := by decide +kernel
def Q_rm_getb (Z : State) (g_CS : Int32) (p0 : Addr) (p1 : Addr) (p2 : Int32) (pcs : List Int32) (qcs : List Int32) (qv : Addr) (qk : ClassId) (ka : ClassId) (za : Int32) (h0 : Heap) (n0 : Nat) (v : Option Value) (h : Heap) (L : List Loc) : Prop := v = none ∧ Fr n0 L ∧ Keep h0 h [p1] ∧ Arv Z h p1 ka .byte za (((pcs ++ qcs).map StrChars.lo8).map Value.int) (.int (0 : Int32))
set_option maxRecDepth 65536 in
set_option maxHeartbeats 40000000 in
theorem rm_getb (l : Launch) (Z : State) (a0 : Array Value) (hw : ∀ d ∈ tables_1, d.before a0 Z = true) (ws : List Jvm.Cond) (g_CS : Int32) (S_CS : Sta Z Z.heap "java/lang/String" "COMPACT_STRINGS" "Z" (.int g_CS)) (nz_CS : ¬ (g_CS = (0 : Int32))) (p0 : Addr) (p1 : Addr) (p2 : Int32) (pcs : List Int32) (qcs : List Int32) (qv : Addr) (qk : ClassId) (ka : ClassId) (za : Int32) (h0 : Heap) (n0 : Nat) (X00 : Old Z n0 h0) (hp0 : Exa Z h0 p0 "java/lang/String") (hp1 : Fld Z h0 p0 "java/lang/String" "coder" "B" (.int (0 : Int32))) (hp2 : Fld Z h0 p0 "java/lang/String" "value" "[B" (.ref qv)) (hp3 : Arv Z h0 qv qk .byte (Int32.ofNat qcs.length) ((qcs.map StrChars.lo8).map Value.int) (.int (0 : Int32))) (hpcq : ∀ c ∈ qcs, ¬ c < 0 ∧ ¬ (255 : Int32) < c) (hleq : qcs.length ≤ 4000) (hp6 : Exa Z h0 p1 "[B") (hp7 : Arv Z h0 p1 ka .byte za ((pcs.map StrChars.lo8).map Value.int) (.int (0 : Int32))) (hp8 : n0 ≤ p1) (hidx : p2 = Int32.ofNat pcs.length) (hcap : (pcs ++ qcs).length ≤ za.toNatClampNeg) :
    MetFree l (⟨"java/lang/String", "getBytes", "([BIB)V"⟩ : MethodName) (head1 (Jvm.Cond.code (⟨"java/lang/String", "getBytes", "([BIB)V"⟩ : MethodName) jdk_42_method_147_code 4 none :: ws) ({ frames := 1, cells := 0, slots := 0, locals := 18 } : Room)) (fun a U => a = #[(.ref p0), (.ref p1), (.int p2), (.int (0 : Int32))] ∧ Z.Warmed39 U.vm ∧ U.heap = h0) (fun _ _ _ _ _ => True) (fun _ U o U' => ∃ v L, o = .returned v ∧ Q_rm_getb Z g_CS p0 p1 p2 pcs qcs qv qk ka za h0 n0 v U'.heap L ∧ FrameEnd U o U' L ({ frames := 1, cells := 0, slots := 0, locals := 18 } : Room).cells ({ frames := 1, cells := 0, slots := 0, locals := 18 } : Room).slots) := by
  refine MetFree.of_bodySF (plainFor_of_name own_pn0) hisR ?_
  intro p e s m args below meth c s₁ Bd hml0 hP hK
  obtain ⟨rfl, hZ, hh⟩ := hP
  have hx := Bd.exec
  have hby := Bd.bytes
  have hml : c.maxLocals = 4 := hml0
  have hown : s.vm.findClass "java/lang/String" = some m.cls := findClass_of_methodNamed Bd.named
  have hnm := (name_of_methodNamed Bd.named Bd.method).1
  have X0 : Stand p l e ({ frames := 1, cells := 0, slots := 0, locals := 18 } : Room) s m #[(.ref p0), (.ref p1), (.int p2), (.int (0 : Int32))] below meth c s₁ [] 0 0 := Stand.of_body Bd
  have e0 : s₁.heap = h0 := by rw [← hh, Bd.state]; rfl
  have N0 := Fr.nil n0
  refine Go.start fun P hPend => ?_
  refine Go.st (fun _ k => castTop (own_ef_rm_getb m p0 p1 p2 ((0 : Int32))) k) ?_
  show Go _ _ _ _ (s₁.setTop (mkF m 0 #[lR p0, lR p1, lI p2, lI (0 : Int32)] []))
  refine Go.st (fun _ => XS.aloadN X0.here hx rfl (hb hby od13_0) rfl rfl) ?_
  show Go _ _ _ _ (s₁.setTop (mkF m 1 #[lR p0, lR p1, lI p2, lI (0 : Int32)] [(.ref p0)]))
  obtain ⟨cq1, kq1, q1a, q1b, q1c⟩ := isOf hZ e0 hp0
  obtain ⟨_, _, ⟨T1, L1, k1, n1⟩, -, X1, ⟨Lc1, hQ1, l1, y1, z1⟩, st1⟩ := X0.virtualBack hx (y := (⟨"java/lang/String", "coder", "()B"⟩ : MethodName)) (z := (⟨"java/lang/String", "coder", "()B"⟩ : MethodName)) hown (mvT hZ (ow hw 101 rfl)) (mvT hZ (ow hw 102 rfl)) (notFace_of_selects (args := #[]) (mvT hZ (ow hw 104 rfl))) (mvT hZ (ow hw 104 rfl)) (mvT hZ (ow hw 103 rfl)) (by decide) (backOf (W := 0) (rm_coder l Z a0 hw [] g_CS S_CS nz_CS p0 h0 n0 X00 hp1) hZ (ow hw 105 rfl) (ow hw 6 rfl) (by decide) (by decide)) q1a q1c (g := (mkF m 1 #[.val (.ref p0), .val (.ref p1), .val (.int p2), .val (.int (0 : Int32))] [(.ref p0)])) rfl (by rw [hml]; rfl) (Steps.refl _) (argsL := []) (rest := []) (lenOf own_pd5 rfl) rfl (by show 2 * 0 + _ ≤ _; exact Nat.le_of_eq rfl) (hb hby od13_1) (fun _ _ => ⟨rfl, e0, (by decide : 0 + 0 ≤ _), (by decide : 0 + 0 ≤ _)⟩)
  dsimp only [Pt.U, Pt.locs, Pt.cells, Pt.slots] at X1 l1 y1 z1 st1 hQ1
  subst y1 z1
  refine Go.tr st1 ?_
  obtain ⟨rfl, N1q, e1⟩ := hQ1
  have N1 : Fr n0 L1 := by rw [l1]; exact Fr.app N0 N1q
  show Go _ _ _ _ (T1.setTop (mkF m 4 #[lR p0, lR p1, lI p2, lI (0 : Int32)] [(.int (0 : Int32))]))
  refine Go.st (fun _ => XS.iloadN X1.here hx rfl (hb hby od13_4) rfl) ?_
  show Go _ _ _ _ (T1.setTop (mkF m 5 #[lR p0, lR p1, lI p2, lI (0 : Int32)] [(.int (0 : Int32)), (.int (0 : Int32))]))
  refine Go.st (fun _ => XS.icmpNo X1.here hx rfl (hb hby od13_5) rfl (teq (by decide)).2) ?_
  show Go _ _ _ _ (T1.setTop (mkF m 8 #[lR p0, lR p1, lI p2, lI (0 : Int32)] []))
  refine Go.st (fun _ => XS.aloadN X1.here hx rfl (hb hby od13_8) rfl rfl) ?_
  show Go _ _ _ _ (T1.setTop (mkF m 9 #[lR p0, lR p1, lI p2, lI (0 : Int32)] [(.ref p0)]))
  obtain ⟨T2, X2, e2, st2⟩ := getF X1 hx hZ hown (host := "") (Or.inl (ow hw 24 rfl)) Via.refl e1 hp2 (g := (mkF m 9 #[.val (.ref p0), .val (.ref p1), .val (.int p2), .val (.int (0 : Int32))] [(.ref p0)])) rfl rfl (hb hby od13_9)
  refine Go.st st2 ?_
  show Go _ _ _ _ (T2.setTop (mkF m 12 #[lR p0, lR p1, lI p2, lI (0 : Int32)] [(.ref qv)]))
  refine Go.st (fun _ => XS.iconst X2.here hx rfl (hb hby od13_12)) ?_
  show Go _ _ _ _ (T2.setTop (mkF m 13 #[lR p0, lR p1, lI p2, lI (0 : Int32)] [(.int (0 : Int32)), (.ref qv)]))
  refine Go.st (fun _ => XS.aloadN X2.here hx rfl (hb hby od13_13) rfl rfl) ?_
  show Go _ _ _ _ (T2.setTop (mkF m 14 #[lR p0, lR p1, lI p2, lI (0 : Int32)] [(.ref p1), (.int (0 : Int32)), (.ref qv)]))
  refine Go.st (fun _ => XS.iloadN X2.here hx rfl (hb hby od13_14) rfl) ?_
  show Go _ _ _ _ (T2.setTop (mkF m 15 #[lR p0, lR p1, lI p2, lI (0 : Int32)] [(.int p2), (.ref p1), (.int (0 : Int32)), (.ref qv)]))
  refine Go.st (fun _ => XS.iloadN X2.here hx rfl (hb hby od13_15) rfl) ?_
  show Go _ _ _ _ (T2.setTop (mkF m 16 #[lR p0, lR p1, lI p2, lI (0 : Int32)] [(.int (0 : Int32)), (.int p2), (.ref p1), (.int (0 : Int32)), (.ref qv)]))
  refine Go.st (fun _ => XS.ishl X2.here hx rfl (hb hby od13_16) rfl) ?_
  show Go _ _ _ _ (T2.setTop (mkF m 17 #[lR p0, lR p1, lI p2, lI (0 : Int32)] [(.int (p2 <<< ((0 : Int32) &&& 31))), (.ref p1), (.int (0 : Int32)), (.ref qv)]))
  rw [show (p2 <<< ((0 : Int32) &&& 31)) = p2 from own_ishl0 _]
  show Go _ _ _ _ (T2.setTop (mkF m 17 #[lR p0, lR p1, lI p2, lI (0 : Int32)] [(.int p2), (.ref p1), (.int (0 : Int32)), (.ref qv)]))
  refine Go.st (fun _ => XS.aloadN X2.here hx rfl (hb hby od13_17) rfl rfl) ?_
  show Go _ _ _ _ (T2.setTop (mkF m 18 #[lR p0, lR p1, lI p2, lI (0 : Int32)] [(.ref p0), (.int p2), (.ref p1), (.int (0 : Int32)), (.ref qv)]))
  obtain ⟨T3, X3, e3, st3⟩ := getF X2 hx hZ hown (host := "") (Or.inl (ow hw 24 rfl)) Via.refl e2 hp2 (g := (mkF m 18 #[.val (.ref p0), .val (.ref p1), .val (.int p2), .val (.int (0 : Int32))] [(.ref p0), (.int p2), (.ref p1), (.int (0 : Int32)), (.ref qv)])) rfl rfl (hb hby od13_18)
  refine Go.st st3 ?_
  show Go _ _ _ _ (T3.setTop (mkF m 21 #[lR p0, lR p1, lI p2, lI (0 : Int32)] [(.ref qv), (.int p2), (.ref p1), (.int (0 : Int32)), (.ref qv)]))
  refine Go.st (fun _ => own_len X3 hx hZ e3 hp3 (g := (mkF m 21 #[.val (.ref p0), .val (.ref p1), .val (.int p2), .val (.int (0 : Int32))] [(.ref qv), (.int p2), (.ref p1), (.int (0 : Int32)), (.ref qv)])) rfl rfl (hb hby od13_21) _) ?_
  show Go _ _ _ _ (T3.setTop (mkF m 22 #[lR p0, lR p1, lI p2, lI (0 : Int32)] [(.int (Int32.ofNat qcs.length)), (.int p2), (.ref p1), (.int (0 : Int32)), (.ref qv)]))
  obtain ⟨T4, L4, X4, N4d, K4q, A4, st4⟩ := own_acopy X3 hx hZ e3 hown (mvT hZ (ow hw 129 rfl)) (mvT hZ (ow hw 132 rfl)) (mvT hZ (ow hw 130 rfl)) (mvT hZ (ow hw 131 rfl)) hp3 hp7 (o := 0) (q := pcs.length) (n := qcs.length) (ws := (((pcs ++ qcs).map StrChars.lo8).map Value.int)) (by rw [own_clamp (by omega)]; omega) (by rw [← List.length_append]; exact hcap) (fun i _ => own_appws pcs qcs i) (g := (mkF m 22 #[.val (.ref p0), .val (.ref p1), .val (.int p2), .val (.int (0 : Int32))] [(.int (Int32.ofNat qcs.length)), (.int p2), (.ref p1), (.int (0 : Int32)), (.ref qv)])) rfl (by rw [hml]; rfl) rfl hidx rfl rfl (hb hby od13_22) (by decide) (by show 2 * 0 + 0 + (nativeFrameWords "java/lang/System" "arraycopy" 5 + 11) ≤ _; decide)
  refine Go.st st4 ?_
  have N4 := Fr.app N1 (N4d _ hp8)
  have O4 := X00.keep K4q (allS hp8 all0)
  have K4 : Keep h0 T4.heap [p1] := (Keep.refl h0 [p1]).trans K4q (allS (Or.inl (List.mem_of_getElem? (i := 0) rfl)) all0)
  show Go _ _ _ _ (T4.setTop (mkF m 25 #[lR p0, lR p1, lI p2, lI (0 : Int32)] []))
  refine Go.st (fun _ => XS.goto X4.here hx rfl (pc0 := 25) (pc' := 43) rfl (hb hby od13_25) (by decide) (by decide)) ?_
  show Go _ _ _ _ (T4.setTop (mkF m 43 #[lR p0, lR p1, lI p2, lI (0 : Int32)] []))
  obtain ⟨fs, hr, hrun, hended, hW, hsame⟩ := X4.leave (v := none) (fun _ => rfl)
  refine ⟨_, ?_, hPend _ _ hrun hended ⟨_, _, rfl, ?_, ⟨_, rfl⟩, hW, hsame.mono (by decide) (by decide)⟩⟩
  · exact X4.returnOut hx Bd.returns (hb hby od13_43) hr
  · show Q_rm_getb Z _ _ _ _ _ _ _ _ _ _ h0 n0 _ T4.heap _
    exact ⟨rfl, N4, K4, A4⟩
theorem own_ef_rm_puts (m : MethodId) (x0 : Addr) (x1 : Int32) (x2 : Addr) : entryFrame m #[(.ref x0), (.int x1), (.ref x2)] 3 = mkF m 0 #[.val (.ref x0), .val (.int x1), .val (.ref x2)] [] := by first | (simp [entryFrame, mkF, argsToLocals, Value.category]; done) | rfl
theorem od14_0 : decode jdk_68_method_73_code 0 = .ok (.aload_n 0, 1) := by decide +kernel
theorem od14_1 : decode jdk_68_method_73_code 1 = .ok (.aload_n 2, 1) := by decide +kernel
theorem od14_2 : decode jdk_68_method_73_code 2 = .ok (.invokevirtual 397, 3) := by decide +kernel
theorem own_pd6 : parseMethodDescriptor "(Ljava/lang/String;)V" = some ⟨[(.object "java/lang/String")], none⟩ := by decide +kernel
theorem od14_5 : decode jdk_68_method_73_code 5 = .ok (.aload_n 2, 1) := by decide +kernel
theorem od14_6 : decode jdk_68_method_73_code 6 = .ok (.aload_n 0, 1) := by decide +kernel
theorem od14_7 : decode jdk_68_method_73_code 7 = .ok (.getfield 15, 3) := by decide +kernel
theorem od14_10 : decode jdk_68_method_73_code 10 = .ok (.iload_n 1, 1) := by decide +kernel
theorem od14_11 : decode jdk_68_method_73_code 11 = .ok (.aload_n 0, 1) := by decide +kernel
theorem od14_12 : decode jdk_68_method_73_code 12 = .ok (.getfield 22, 3) := by decide +kernel
theorem od14_15 : decode jdk_68_method_73_code 15 = .ok (.invokevirtual 399, 3) := by decide +kernel
theorem own_pd7 : parseMethodDescriptor "([BIB)V" = some ⟨[(.array .byte), .int, .byte], none⟩ := by decide +kernel
theorem od14_18 : decode jdk_68_method_73_code 18 = .ok (.return_, 1) := by decide +kernel
def Q_rm_puts (Z : State) (g_CS : Int32) (p0 : Addr) (p1 : Int32) (p2 : Addr) (pcs : List Int32) (arr : Addr) (ka : ClassId) (za : Int32) (qcs : List Int32) (qv : Addr) (qk : ClassId) (h0 : Heap) (n0 : Nat) (v : Option Value) (h : Heap) (L : List Loc) : Prop := v = none ∧ Fr n0 L ∧ Keep h0 h [arr] ∧ Arv Z h arr ka .byte za (((pcs ++ qcs).map StrChars.lo8).map Value.int) (.int (0 : Int32))
set_option maxRecDepth 65536 in
set_option maxHeartbeats 40000000 in
theorem rm_puts (l : Launch) (Z : State) (a0 : Array Value) (hw : ∀ d ∈ tables_1, d.before a0 Z = true) (ws : List Jvm.Cond) (g_CS : Int32) (S_CS : Sta Z Z.heap "java/lang/String" "COMPACT_STRINGS" "Z" (.int g_CS)) (nz_CS : ¬ (g_CS = (0 : Int32))) (p0 : Addr) (p1 : Int32) (p2 : Addr) (pcs : List Int32) (arr : Addr) (ka : ClassId) (za : Int32) (qcs : List Int32) (qv : Addr) (qk : ClassId) (h0 : Heap) (n0 : Nat) (X00 : Old Z n0 h0) (hp0 : Exa Z h0 p0 "java/lang/StringBuilder") (hp1 : Fld Z h0 p0 "java/lang/AbstractStringBuilder" "value" "[B" (.ref arr)) (hp2 : Fld Z h0 p0 "java/lang/AbstractStringBuilder" "coder" "B" (.int (0 : Int32))) (hp3 : Exa Z h0 arr "[B") (hp4 : Arv Z h0 arr ka .byte za ((pcs.map StrChars.lo8).map Value.int) (.int (0 : Int32))) (hp5 : n0 ≤ arr) (hp6 : Exa Z h0 p2 "java/lang/String") (hp7 : Fld Z h0 p2 "java/lang/String" "coder" "B" (.int (0 : Int32))) (hp8 : Fld Z h0 p2 "java/lang/String" "value" "[B" (.ref qv)) (hp9 : Arv Z h0 qv qk .byte (Int32.ofNat qcs.length) ((qcs.map StrChars.lo8).map Value.int) (.int (0 : Int32))) (hpcq : ∀ c ∈ qcs, ¬ c < 0 ∧ ¬ (255 : Int32) < c) (hleq : qcs.length ≤ 4000) (hidx : p1 = Int32.ofNat pcs.length) (hcap : (pcs ++ qcs).length ≤ za.toNatClampNeg) :
    MetFree l (⟨"java/lang/AbstractStringBuilder", "putStringAt", "(ILjava/lang/String;)V"⟩ : MethodName) (head1 (Jvm.Cond.code (⟨"java/lang/AbstractStringBuilder", "putStringAt", "(ILjava/lang/String;)V"⟩ : MethodName) jdk_68_method_73_code 3 none :: ws) ({ frames := 2, cells := 0, slots := 0, locals := 33 } : Room)) (fun a U => a = #[(.ref p0), (.int p1), (.ref p2)] ∧ Z.Warmed39 U.vm ∧ U.heap = h0) (fun _ _ _ _ _ => True) (fun _ U o U' => ∃ v L, o = .returned v ∧ Q_rm_puts Z g_CS p0 p1 p2 pcs arr ka za qcs qv qk h0 n0 v U'.heap L ∧ FrameEnd U o U' L ({ frames := 2, cells := 0, slots := 0, locals := 33 } : Room).cells ({ frames := 2, cells := 0, slots := 0, locals := 33 } : Room).slots) := by
  refine MetFree.of_bodySF (plainFor_of_name own_pn4) hisR ?_
  intro p e s m args below meth c s₁ Bd hml0 hP hK
  obtain ⟨rfl, hZ, hh⟩ := hP
  have hx := Bd.exec
  have hby := Bd.bytes
  have hml : c.maxLocals = 3 := hml0
  have hown : s.vm.findClass "java/lang/AbstractStringBuilder" = some m.cls := findClass_of_methodNamed Bd.named
  have hnm := (name_of_methodNamed Bd.named Bd.method).1
  have X0 : Stand p l e ({ frames := 2, cells := 0, slots := 0, locals := 33 } : Room) s m #[(.ref p0), (.int p1), (.ref p2)] below meth c s₁ [] 0 0 := Stand.of_body Bd
  have e0 : s₁.heap = h0 := by rw [← hh, Bd.state]; rfl
  have N0 := Fr.nil n0
  refine Go.start fun P hPend => ?_
  refine Go.st (fun _ k => castTop (own_ef_rm_puts m p0 p1 p2) k) ?_
  show Go _ _ _ _ (s₁.setTop (mkF m 0 #[lR p0, lI p1, lR p2] []))
  refine Go.st (fun _ => XS.aloadN X0.here hx rfl (hb hby od14_0) rfl rfl) ?_
  show Go _ _ _ _ (s₁.setTop (mkF m 1 #[lR p0, lI p1, lR p2] [(.ref p0)]))
  refine Go.st (fun _ => XS.aloadN X0.here hx rfl (hb hby od14_1) rfl rfl) ?_
  show Go _ _ _ _ (s₁.setTop (mkF m 2 #[lR p0, lI p1, lR p2] [(.ref p2), (.ref p0)]))
  obtain ⟨cq1, kq1, q1a, q1b, q1c⟩ := isOf hZ e0 hp0
  obtain ⟨_, _, ⟨T1, L1, k1, n1⟩, -, X1, ⟨Lc1, hQ1, l1, y1, z1⟩, st1⟩ := X0.virtualBack hx (y := (⟨"java/lang/AbstractStringBuilder", "inflateIfNeededFor", "(Ljava/lang/String;)V"⟩ : MethodName)) (z := (⟨"java/lang/AbstractStringBuilder", "inflateIfNeededFor", "(Ljava/lang/String;)V"⟩ : MethodName)) hown (mvT hZ (ow hw 118 rfl)) (mvT hZ (own_declares (ow hw 119 rfl) (ow hw 122 rfl))) (notFace_of_selects (args := #[]) (mvT hZ (ow hw 121 rfl))) (mvT hZ (ow hw 121 rfl)) (mvT hZ (ow hw 119 rfl)) (by decide) (backOf (W := 0) (rm_infl l Z a0 hw [] g_CS S_CS nz_CS p0 p2 h0 n0 X00 hp2 hp6 hp7) hZ (ow hw 122 rfl) (ow hw 77 rfl) (by decide) (by decide)) q1a q1c (g := (mkF m 2 #[.val (.ref p0), .val (.int p1), .val (.ref p2)] [(.ref p2), (.ref p0)])) rfl (by rw [hml]; rfl) (Steps.refl _) (argsL := [(.ref p2)]) (rest := []) (lenOf own_pd6 rfl) rfl (by show 2 * 0 + _ ≤ _; exact Nat.le_of_eq rfl) (hb hby od14_2) (fun _ _ => ⟨rfl, e0, (by decide : 0 + 0 ≤ _), (by decide : 0 + 0 ≤ _)⟩)
  dsimp only [Pt.U, Pt.locs, Pt.cells, Pt.slots] at X1 l1 y1 z1 st1 hQ1
  subst y1 z1
  refine Go.tr st1 ?_
  obtain ⟨rfl, N1q, e1⟩ := hQ1
  have N1 : Fr n0 L1 := by rw [l1]; exact Fr.app N0 N1q
  show Go _ _ _ _ (T1.setTop (mkF m 5 #[lR p0, lI p1, lR p2] []))
  refine Go.st (fun _ => XS.aloadN X1.here hx rfl (hb hby od14_5) rfl rfl) ?_
  show Go _ _ _ _ (T1.setTop (mkF m 6 #[lR p0, lI p1, lR p2] [(.ref p2)]))
  refine Go.st (fun _ => XS.aloadN X1.here hx rfl (hb hby od14_6) rfl rfl) ?_
  show Go _ _ _ _ (T1.setTop (mkF m 7 #[lR p0, lI p1, lR p2] [(.ref p0), (.ref p2)]))
  obtain ⟨T2, X2, e2, st2⟩ := getF X1 hx hZ hown (host := "") (Or.inl (ow hw 81 rfl)) Via.refl e1 hp1 (g := (mkF m 7 #[.val (.ref p0), .val (.int p1), .val (.ref p2)] [(.ref p0), (.ref p2)])) rfl rfl (hb hby od14_7)
  refine Go.st st2 ?_
  show Go _ _ _ _ (T2.setTop (mkF m 10 #[lR p0, lI p1, lR p2] [(.ref arr), (.ref p2)]))
  refine Go.st (fun _ => XS.iloadN X2.here hx rfl (hb hby od14_10) rfl) ?_
  show Go _ _ _ _ (T2.setTop (mkF m 11 #[lR p0, lI p1, lR p2] [(.int p1), (.ref arr), (.ref p2)]))
  refine Go.st (fun _ => XS.aloadN X2.here hx rfl (hb hby od14_11) rfl rfl) ?_
  show Go _ _ _ _ (T2.setTop (mkF m 12 #[lR p0, lI p1, lR p2] [(.ref p0), (.int p1), (.ref arr), (.ref p2)]))
  obtain ⟨T3, X3, e3, st3⟩ := getF X2 hx hZ hown (host := "") (Or.inl (ow hw 83 rfl)) Via.refl e2 hp2 (g := (mkF m 12 #[.val (.ref p0), .val (.int p1), .val (.ref p2)] [(.ref p0), (.int p1), (.ref arr), (.ref p2)])) rfl rfl (hb hby od14_12)
  refine Go.st st3 ?_
  show Go _ _ _ _ (T3.setTop (mkF m 15 #[lR p0, lI p1, lR p2] [(.int (0 : Int32)), (.int p1), (.ref arr), (.ref p2)]))
  obtain ⟨cq4, kq4, q4a, q4b, q4c⟩ := isOf hZ e3 hp6
  obtain ⟨_, _, ⟨T4, L4, k4, n4⟩, -, X4, ⟨Lc4, hQ4, l4, y4, z4⟩, st4⟩ := X3.virtualBack hx (y := (⟨"java/lang/String", "getBytes", "([BIB)V"⟩ : MethodName)) (z := (⟨"java/lang/String", "getBytes", "([BIB)V"⟩ : MethodName)) hown (mvT hZ (ow hw 124 rfl)) (mvT hZ (ow hw 125 rfl)) (notFace_of_selects (args := #[]) (mvT hZ (ow hw 127 rfl))) (mvT hZ (ow hw 127 rfl)) (mvT hZ (ow hw 126 rfl)) (by decide) (backOf (W := 0) (rm_getb l Z a0 hw [] g_CS S_CS nz_CS p2 arr p1 pcs qcs qv qk ka za h0 n0 X00 hp6 hp7 hp8 hp9 hpcq hleq hp3 hp4 hp5 hidx hcap) hZ (ow hw 128 rfl) (ow hw 6 rfl) (by decide) (by decide)) q4a q4c (g := (mkF m 15 #[.val (.ref p0), .val (.int p1), .val (.ref p2)] [(.int (0 : Int32)), (.int p1), (.ref arr), (.ref p2)])) rfl (by rw [hml]; rfl) (Steps.refl _) (argsL := [(.ref arr), (.int p1), (.int (0 : Int32))]) (rest := []) (lenOf own_pd7 rfl) rfl (by show 2 * 0 + _ ≤ _; exact Nat.le_of_eq rfl) (hb hby od14_15) (fun _ _ => ⟨rfl, e3, (by decide : 0 + 0 ≤ _), (by decide : 0 + 0 ≤ _)⟩)
  dsimp only [Pt.U, Pt.locs, Pt.cells, Pt.slots] at X4 l4 y4 z4 st4 hQ4
  subst y4 z4
  refine Go.tr st4 ?_
  obtain ⟨rfl, N4q, K4q, q4_0⟩ := hQ4
  have N4 : Fr n0 L4 := by rw [l4]; exact Fr.app N1 N4q
  have O4 := X00.keep K4q (allS hp5 all0)
  have K4 : Keep h0 T4.heap [arr] := (Keep.refl h0 [arr]).trans K4q (allS (Or.inl (List.mem_of_getElem? (i := 0) rfl)) all0)
  show Go _ _ _ _ (T4.setTop (mkF m 18 #[lR p0, lI p1, lR p2] []))
  obtain ⟨fs, hr, hrun, hended, hW, hsame⟩ := X4.leave (v := none) (fun _ => rfl)
  refine ⟨_, ?_, hPend _ _ hrun hended ⟨_, _, rfl, ?_, ⟨_, rfl⟩, hW, hsame.mono (by decide) (by decide)⟩⟩
  · exact X4.returnOut hx Bd.returns (hb hby od14_18) hr
  · show Q_rm_puts Z _ _ _ _ _ _ _ _ _ _ _ h0 n0 _ T4.heap _
    exact ⟨rfl, N4, K4, q4_0⟩
theorem own_ef_rm_appr (m : MethodId) (x0 : Addr) (x1 : Addr) : entryFrame m #[(.ref x0), (.ref x1)] 3 = mkF m 0 #[.val (.ref x0), .val (.ref x1), .unset] [] := by first | (simp [entryFrame, mkF, argsToLocals, Value.category]; done) | rfl
theorem od15_0 : decode jdk_68_method_22_code 0 = .ok (.aload_n 1, 1) := by decide +kernel
theorem od15_1 : decode jdk_68_method_22_code 1 = .ok (.ifnonnull 8, 3) := by decide +kernel
theorem od15_9 : decode jdk_68_method_22_code 9 = .ok (.aload_n 1, 1) := by decide +kernel
theorem od15_10 : decode jdk_68_method_22_code 10 = .ok (.invokevirtual 32, 3) := by decide +kernel
theorem own_pd8 : parseMethodDescriptor "()I" = some ⟨[], some .int⟩ := by decide +kernel
theorem od15_13 : decode jdk_68_method_22_code 13 = .ok (.istore_n 2, 1) := by decide +kernel
theorem od15_14 : decode jdk_68_method_22_code 14 = .ok (.aload_n 0, 1) := by decide +kernel
theorem od15_15 : decode jdk_68_method_22_code 15 = .ok (.aload_n 0, 1) := by decide +kernel
theorem od15_16 : decode jdk_68_method_22_code 16 = .ok (.getfield 79, 3) := by decide +kernel
theorem od15_19 : decode jdk_68_method_22_code 19 = .ok (.iload_n 2, 1) := by decide +kernel
theorem od15_20 : decode jdk_68_method_22_code 20 = .ok (.iadd, 1) := by decide +kernel
theorem od15_21 : decode jdk_68_method_22_code 21 = .ok (.invokevirtual 100, 3) := by decide +kernel
theorem od15_24 : decode jdk_68_method_22_code 24 = .ok (.aload_n 0, 1) := by decide +kernel
theorem od15_25 : decode jdk_68_method_22_code 25 = .ok (.aload_n 0, 1) := by decide +kernel
theorem od15_26 : decode jdk_68_method_22_code 26 = .ok (.getfield 79, 3) := by decide +kernel
theorem od15_29 : decode jdk_68_method_22_code 29 = .ok (.aload_n 1, 1) := by decide +kernel
theorem od15_30 : decode jdk_68_method_22_code 30 = .ok (.invokevirtual 208, 3) := by decide +kernel
theorem own_pd9 : parseMethodDescriptor "(ILjava/lang/String;)V" = some ⟨[.int, (.object "java/lang/String")], none⟩ := by decide +kernel
theorem od15_33 : decode jdk_68_method_22_code 33 = .ok (.aload_n 0, 1) := by decide +kernel
theorem od15_34 : decode jdk_68_method_22_code 34 = .ok (.dup, 1) := by decide +kernel
theorem od15_35 : decode jdk_68_method_22_code 35 = .ok (.getfield 79, 3) := by decide +kernel
theorem od15_38 : decode jdk_68_method_22_code 38 = .ok (.iload_n 2, 1) := by decide +kernel
theorem od15_39 : decode jdk_68_method_22_code 39 = .ok (.iadd, 1) := by decide +kernel
theorem od15_40 : decode jdk_68_method_22_code 40 = .ok (.putfield 79, 3) := by decide +kernel
theorem od15_43 : decode jdk_68_method_22_code 43 = .ok (.aload_n 0, 1) := by decide +kernel
theorem od15_44 : decode jdk_68_method_22_code 44 = .ok (.areturn, 1) := by decide +kernel
def Q_rm_appr (Z : State) (g_CS : Int32) (p0 : Addr) (p1 : Addr) (pcs : List Int32) (arr : Addr) (ka : ClassId) (za : Int32) (qcs : List Int32) (qv : Addr) (qk : ClassId) (h0 : Heap) (n0 : Nat) (v : Option Value) (h : Heap) (L : List Loc) : Prop := v = some (.ref p0) ∧ Fr n0 L ∧ Keep h0 h [p0, arr] ∧ Exa Z h p0 "java/lang/StringBuilder" ∧ Fld Z h p0 "java/lang/AbstractStringBuilder" "value" "[B" (.ref arr) ∧ Fld Z h p0 "java/lang/AbstractStringBuilder" "coder" "B" (.int (0 : Int32)) ∧ Fld Z h p0 "java/lang/AbstractStringBuilder" "count" "I" (.int (Int32.ofNat (pcs ++ qcs).length)) ∧ Exa Z h arr "[B" ∧ Arv Z h arr ka .byte za (((pcs ++ qcs).map StrChars.lo8).map Value.int) (.int (0 : Int32))
set_option maxRecDepth 65536 in
set_option maxHeartbeats 40000000 in
theorem rm_appr (l : Launch) (Z : State) (a0 : Array Value) (hw : ∀ d ∈ tables_1, d.before a0 Z = true) (ws : List Jvm.Cond) (g_CS : Int32) (S_CS : Sta Z Z.heap "java/lang/String" "COMPACT_STRINGS" "Z" (.int g_CS)) (nz_CS : ¬ (g_CS = (0 : Int32))) (p0 : Addr) (p1 : Addr) (pcs : List Int32) (arr : Addr) (ka : ClassId) (za : Int32) (qcs : List Int32) (qv : Addr) (qk : ClassId) (h0 : Heap) (n0 : Nat) (X00 : Old Z n0 h0) (hp0 : Exa Z h0 p0 "java/lang/StringBuilder") (hp1 : Fld Z h0 p0 "java/lang/AbstractStringBuilder" "value" "[B" (.ref arr)) (hp2 : Fld Z h0 p0 "java/lang/AbstractStringBuilder" "coder" "B" (.int (0 : Int32))) (hp3 : Fld Z h0 p0 "java/lang/AbstractStringBuilder" "count" "I" (.int (Int32.ofNat pcs.length))) (hp4 : Exa Z h0 arr "[B") (hp5 : Arv Z h0 arr ka .byte za ((pcs.map StrChars.lo8).map Value.int) (.int (0 : Int32))) (hp6 : n0 ≤ p0) (hp7 : n0 ≤ arr) (hp8 : Exa Z h0 p1 "java/lang/String") (hp9 : Fld Z h0 p1 "java/lang/String" "coder" "B" (.int (0 : Int32))) (hp10 : Fld Z h0 p1 "java/lang/String" "value" "[B" (.ref qv)) (hp11 : Arv Z h0 qv qk .byte (Int32.ofNat qcs.length) ((qcs.map StrChars.lo8).map Value.int) (.int (0 : Int32))) (hpcq : ∀ c ∈ qcs, ¬ c < 0 ∧ ¬ (255 : Int32) < c) (hleq : qcs.length ≤ 4000) (hcap : (pcs ++ qcs).length ≤ za.toNatClampNeg) :
    MetFree l (⟨"java/lang/AbstractStringBuilder", "append", "(Ljava/lang/String;)Ljava/lang/AbstractStringBuilder;"⟩ : MethodName) (head1 (Jvm.Cond.code (⟨"java/lang/AbstractStringBuilder", "append", "(Ljava/lang/String;)Ljava/lang/AbstractStringBuilder;"⟩ : MethodName) jdk_68_method_22_code 3 (some (.object "java/lang/AbstractStringBuilder")) :: ws) ({ frames := 3, cells := 0, slots := 0, locals := 47 } : Room)) (fun a U => a = #[(.ref p0), (.ref p1)] ∧ Z.Warmed39 U.vm ∧ U.heap = h0) (fun _ _ _ _ _ => True) (fun _ U o U' => ∃ v L, o = .returned v ∧ Q_rm_appr Z g_CS p0 p1 pcs arr ka za qcs qv qk h0 n0 v U'.heap L ∧ FrameEnd U o U' L ({ frames := 3, cells := 0, slots := 0, locals := 47 } : Room).cells ({ frames := 3, cells := 0, slots := 0, locals := 47 } : Room).slots) := by
  refine MetFree.of_bodySF (plainFor_of_name own_pn4) hisR ?_
  intro p e s m args below meth c s₁ Bd hml0 hP hK
  obtain ⟨rfl, hZ, hh⟩ := hP
  have hx := Bd.exec
  have hby := Bd.bytes
  have hml : c.maxLocals = 3 := hml0
  have hown : s.vm.findClass "java/lang/AbstractStringBuilder" = some m.cls := findClass_of_methodNamed Bd.named
  have hnm := (name_of_methodNamed Bd.named Bd.method).1
  have X0 : Stand p l e ({ frames := 3, cells := 0, slots := 0, locals := 47 } : Room) s m #[(.ref p0), (.ref p1)] below meth c s₁ [] 0 0 := Stand.of_body Bd
  have e0 : s₁.heap = h0 := by rw [← hh, Bd.state]; rfl
  have N0 := Fr.nil n0
  refine Go.start fun P hPend => ?_
  refine Go.st (fun _ k => castTop (own_ef_rm_appr m p0 p1) k) ?_
  show Go _ _ _ _ (s₁.setTop (mkF m 0 #[lR p0, lR p1, lU] []))
  refine Go.st (fun _ => XS.aloadN X0.here hx rfl (hb hby od15_0) rfl rfl) ?_
  show Go _ _ _ _ (s₁.setTop (mkF m 1 #[lR p0, lR p1, lU] [(.ref p1)]))
  refine Go.st (fun _ => XS.ifnonnullYes X0.here hx rfl (pc0 := 1) (pc' := 9) rfl (hb hby od15_1) rfl (by decide) (by decide)) ?_
  show Go _ _ _ _ (s₁.setTop (mkF m 9 #[lR p0, lR p1, lU] []))
  refine Go.st (fun _ => XS.aloadN X0.here hx rfl (hb hby od15_9) rfl rfl) ?_
  show Go _ _ _ _ (s₁.setTop (mkF m 10 #[lR p0, lR p1, lU] [(.ref p1)]))
  have hcd1 : StrChars.Road.CodA qcs 0 (Int32.ofNat qcs.length) ((qcs.map StrChars.lo8).map Value.int) := StrChars.Road.codOf (n := qcs.length) rfl (fun c hc => (hpcq c hc).2)
  obtain ⟨cq1, kq1, q1a, q1b, q1c⟩ := isOf hZ e0 hp8
  obtain ⟨_, _, ⟨T1, L1, k1, n1⟩, -, X1, ⟨Lc1, hQ1, l1, y1, z1⟩, st1⟩ := X0.virtualBack hx (y := (⟨"java/lang/String", "length", "()I"⟩ : MethodName)) (z := (⟨"java/lang/String", "length", "()I"⟩ : MethodName)) hown (mvT hZ (ow hw 96 rfl)) (mvT hZ (ow hw 97 rfl)) (notFace_of_selects (args := #[]) (mvT hZ (ow hw 99 rfl))) (mvT hZ (ow hw 99 rfl)) (mvT hZ (ow hw 98 rfl)) (by decide) (StrChars.Road.lenW (W := 0) hZ (fun d hd => hw d (own_wLen d hd)) (kI := 4) (ow hw 5 rfl) hp8 hp10 hp9 hp11 hcd1 (own_up _ hpcq) (S_CS.ext X00.2) nz_CS hleq (by decide) (by decide)) q1a q1c (g := (mkF m 10 #[.val (.ref p0), .val (.ref p1), .unset] [(.ref p1)])) rfl (by rw [hml]; rfl) (Steps.refl _) (argsL := []) (rest := []) (lenOf own_pd8 rfl) rfl (by show 2 * 0 + _ ≤ _; exact Nat.le_of_eq rfl) (hb hby od15_10) (fun _ _ => ⟨rfl, e0, (by decide : 0 + 0 ≤ _), (by decide : 0 + 0 ≤ _)⟩)
  dsimp only [Pt.U, Pt.locs, Pt.cells, Pt.slots] at X1 l1 y1 z1 st1 hQ1
  subst y1 z1
  refine Go.tr st1 ?_
  obtain ⟨rfl, rfl, e1⟩ := hQ1
  have N1 : Fr n0 L1 := by rw [l1]; exact Fr.app N0 (Fr.nil n0)
  show Go _ _ _ _ (T1.setTop (mkF m 13 #[lR p0, lR p1, lU] [(.int (Int32.ofNat qcs.length))]))
  refine Go.st (fun _ => XS.istoreN X1.here hx rfl (hb hby od15_13) rfl (l' := #[.val (.ref p0), .val (.ref p1), .val (.int (Int32.ofNat qcs.length))]) rfl) ?_
  show Go _ _ _ _ (T1.setTop (mkF m 14 #[lR p0, lR p1, lI (Int32.ofNat qcs.length)] []))
  refine Go.st (fun _ => XS.aloadN X1.here hx rfl (hb hby od15_14) rfl rfl) ?_
  show Go _ _ _ _ (T1.setTop (mkF m 15 #[lR p0, lR p1, lI (Int32.ofNat qcs.length)] [(.ref p0)]))
  refine Go.st (fun _ => XS.aloadN X1.here hx rfl (hb hby od15_15) rfl rfl) ?_
  show Go _ _ _ _ (T1.setTop (mkF m 16 #[lR p0, lR p1, lI (Int32.ofNat qcs.length)] [(.ref p0), (.ref p0)]))
  obtain ⟨T2, X2, e2, st2⟩ := getF X1 hx hZ hown (host := "") (Or.inl (ow hw 106 rfl)) Via.refl e1 hp3 (g := (mkF m 16 #[.val (.ref p0), .val (.ref p1), .val (.int (Int32.ofNat qcs.length))] [(.ref p0), (.ref p0)])) rfl rfl (hb hby od15_16)
  refine Go.st st2 ?_
  show Go _ _ _ _ (T2.setTop (mkF m 19 #[lR p0, lR p1, lI (Int32.ofNat qcs.length)] [(.int (Int32.ofNat pcs.length)), (.ref p0)]))
  refine Go.st (fun _ => XS.iloadN X2.here hx rfl (hb hby od15_19) rfl) ?_
  show Go _ _ _ _ (T2.setTop (mkF m 20 #[lR p0, lR p1, lI (Int32.ofNat qcs.length)] [(.int (Int32.ofNat qcs.length)), (.int (Int32.ofNat pcs.length)), (.ref p0)]))
  refine Go.st (fun _ => XS.iadd X2.here hx rfl (hb hby od15_20) rfl) ?_
  show Go _ _ _ _ (T2.setTop (mkF m 21 #[lR p0, lR p1, lI (Int32.ofNat qcs.length)] [(.int ((Int32.ofNat pcs.length) + (Int32.ofNat qcs.length))), (.ref p0)]))
  rw [own_lenapp pcs qcs]
  show Go _ _ _ _ (T2.setTop (mkF m 21 #[lR p0, lR p1, lI (Int32.ofNat qcs.length)] [(.int (Int32.ofNat (pcs ++ qcs).length)), (.ref p0)]))
  obtain ⟨cq3, kq3, q3a, q3b, q3c⟩ := isOf hZ e2 hp0
  obtain ⟨_, _, ⟨T3, L3, k3, n3⟩, -, X3, ⟨Lc3, hQ3, l3, y3, z3⟩, st3⟩ := X2.virtualBack hx (y := (⟨"java/lang/AbstractStringBuilder", "ensureCapacityInternal", "(I)V"⟩ : MethodName)) (z := (⟨"java/lang/AbstractStringBuilder", "ensureCapacityInternal", "(I)V"⟩ : MethodName)) hown (mvT hZ (ow hw 108 rfl)) (mvT hZ (own_declares (ow hw 109 rfl) (ow hw 112 rfl))) (notFace_of_selects (args := #[]) (mvT hZ (ow hw 111 rfl))) (mvT hZ (ow hw 111 rfl)) (mvT hZ (ow hw 109 rfl)) (by decide) (backOf (W := 0) (rm_ensr l Z a0 hw [] g_CS S_CS nz_CS p0 (Int32.ofNat (pcs ++ qcs).length) arr ka za ((pcs.map StrChars.lo8).map Value.int) h0 n0 X00 hp1 hp2 hp5 (own_room (own_arvnn hp5) hcap)) hZ (ow hw 112 rfl) (ow hw 77 rfl) (by decide) (by decide)) q3a q3c (g := (mkF m 21 #[.val (.ref p0), .val (.ref p1), .val (.int (Int32.ofNat qcs.length))] [(.int (Int32.ofNat (pcs ++ qcs).length)), (.ref p0)])) rfl (by rw [hml]; rfl) (Steps.refl _) (argsL := [(.int (Int32.ofNat (pcs ++ qcs).length))]) (rest := []) (lenOf own_pd4 rfl) rfl (by show 2 * 0 + _ ≤ _; exact Nat.le_of_eq rfl) (hb hby od15_21) (fun _ _ => ⟨rfl, e2, (by decide : 0 + 0 ≤ _), (by decide : 0 + 0 ≤ _)⟩)
  dsimp only [Pt.U, Pt.locs, Pt.cells, Pt.slots] at X3 l3 y3 z3 st3 hQ3
  subst y3 z3
  refine Go.tr st3 ?_
  obtain ⟨rfl, N3q, e3⟩ := hQ3
  have N3 : Fr n0 L3 := by rw [l3]; exact Fr.app N1 N3q
  show Go _ _ _ _ (T3.setTop (mkF m 24 #[lR p0, lR p1, lI (Int32.ofNat qcs.length)] []))
  refine Go.st (fun _ => XS.aloadN X3.here hx rfl (hb hby od15_24) rfl rfl) ?_
  show Go _ _ _ _ (T3.setTop (mkF m 25 #[lR p0, lR p1, lI (Int32.ofNat qcs.length)] [(.ref p0)]))
  refine Go.st (fun _ => XS.aloadN X3.here hx rfl (hb hby od15_25) rfl rfl) ?_
  show Go _ _ _ _ (T3.setTop (mkF m 26 #[lR p0, lR p1, lI (Int32.ofNat qcs.length)] [(.ref p0), (.ref p0)]))
  obtain ⟨T4, X4, e4, st4⟩ := getF X3 hx hZ hown (host := "") (Or.inl (ow hw 106 rfl)) Via.refl e3 hp3 (g := (mkF m 26 #[.val (.ref p0), .val (.ref p1), .val (.int (Int32.ofNat qcs.length))] [(.ref p0), (.ref p0)])) rfl rfl (hb hby od15_26)
  refine Go.st st4 ?_
  show Go _ _ _ _ (T4.setTop (mkF m 29 #[lR p0, lR p1, lI (Int32.ofNat qcs.length)] [(.int (Int32.ofNat pcs.length)), (.ref p0)]))
  refine Go.st (fun _ => XS.aloadN X4.here hx rfl (hb hby od15_29) rfl rfl) ?_
  show Go _ _ _ _ (T4.setTop (mkF m 30 #[lR p0, lR p1, lI (Int32.ofNat qcs.length)] [(.ref p1), (.int (Int32.ofNat pcs.length)), (.ref p0)]))
  obtain ⟨cq5, kq5, q5a, q5b, q5c⟩ := isOf hZ e4 hp0
  obtain ⟨_, _, ⟨T5, L5, k5, n5⟩, -, X5, ⟨Lc5, hQ5, l5, y5, z5⟩, st5⟩ := X4.virtualBack hx (y := (⟨"java/lang/AbstractStringBuilder", "putStringAt", "(ILjava/lang/String;)V"⟩ : MethodName)) (z := (⟨"java/lang/AbstractStringBuilder", "putStringAt", "(ILjava/lang/String;)V"⟩ : MethodName)) hown (mvT hZ (ow hw 113 rfl)) (mvT hZ (own_declares (ow hw 114 rfl) (ow hw 117 rfl))) (notFace_of_selects (args := #[]) (mvT hZ (ow hw 116 rfl))) (mvT hZ (ow hw 116 rfl)) (mvT hZ (ow hw 114 rfl)) (by decide) (backOf (W := 0) (rm_puts l Z a0 hw [] g_CS S_CS nz_CS p0 (Int32.ofNat pcs.length) p1 pcs arr ka za qcs qv qk h0 n0 X00 hp0 hp1 hp2 hp4 hp5 hp7 hp8 hp9 hp10 hp11 hpcq hleq rfl hcap) hZ (ow hw 117 rfl) (ow hw 77 rfl) (by decide) (by decide)) q5a q5c (g := (mkF m 30 #[.val (.ref p0), .val (.ref p1), .val (.int (Int32.ofNat qcs.length))] [(.ref p1), (.int (Int32.ofNat pcs.length)), (.ref p0)])) rfl (by rw [hml]; rfl) (Steps.refl _) (argsL := [(.int (Int32.ofNat pcs.length)), (.ref p1)]) (rest := []) (lenOf own_pd9 rfl) rfl (by show 2 * 0 + _ ≤ _; exact Nat.le_of_eq rfl) (hb hby od15_30) (fun _ _ => ⟨rfl, e4, (by decide : 0 + 0 ≤ _), (by decide : 0 + 0 ≤ _)⟩)
  dsimp only [Pt.U, Pt.locs, Pt.cells, Pt.slots] at X5 l5 y5 z5 st5 hQ5
  subst y5 z5
  refine Go.tr st5 ?_
  obtain ⟨rfl, N5q, K5q, q5_0⟩ := hQ5
  have N5 : Fr n0 L5 := by rw [l5]; exact Fr.app N3 N5q
  have O5 := X00.keep K5q (allS hp7 all0)
  have K5 : Keep h0 T5.heap [p0, arr] := (Keep.refl h0 [p0, arr]).trans K5q (allS (Or.inl (List.mem_of_getElem? (i := 1) rfl)) all0)
  show Go _ _ _ _ (T5.setTop (mkF m 33 #[lR p0, lR p1, lI (Int32.ofNat qcs.length)] []))
  refine Go.st (fun _ => XS.aloadN X5.here hx rfl (hb hby od15_33) rfl rfl) ?_
  show Go _ _ _ _ (T5.setTop (mkF m 34 #[lR p0, lR p1, lI (Int32.ofNat qcs.length)] [(.ref p0)]))
  refine Go.st (fun _ => XS.dup X5.here hx rfl (hb hby od15_34) rfl rfl) ?_
  show Go _ _ _ _ (T5.setTop (mkF m 35 #[lR p0, lR p1, lI (Int32.ofNat qcs.length)] [(.ref p0), (.ref p0)]))
  have c6 := (hp3.keep K5q (ninS (Exa.neArv hp0 hp5 (ow hw 68 rfl)) nin0))
  obtain ⟨T7, X7, e7, st7⟩ := getF X5 hx hZ hown (host := "") (Or.inl (ow hw 106 rfl)) Via.refl rfl c6 (g := (mkF m 35 #[.val (.ref p0), .val (.ref p1), .val (.int (Int32.ofNat qcs.length))] [(.ref p0), (.ref p0)])) rfl rfl (hb hby od15_35)
  refine Go.st st7 ?_
  show Go _ _ _ _ (T7.setTop (mkF m 38 #[lR p0, lR p1, lI (Int32.ofNat qcs.length)] [(.int (Int32.ofNat pcs.length)), (.ref p0)]))
  refine Go.st (fun _ => XS.iloadN X7.here hx rfl (hb hby od15_38) rfl) ?_
  show Go _ _ _ _ (T7.setTop (mkF m 39 #[lR p0, lR p1, lI (Int32.ofNat qcs.length)] [(.int (Int32.ofNat qcs.length)), (.int (Int32.ofNat pcs.length)), (.ref p0)]))
  refine Go.st (fun _ => XS.iadd X7.here hx rfl (hb hby od15_39) rfl) ?_
  show Go _ _ _ _ (T7.setTop (mkF m 40 #[lR p0, lR p1, lI (Int32.ofNat qcs.length)] [(.int ((Int32.ofNat pcs.length) + (Int32.ofNat qcs.length))), (.ref p0)]))
  rw [own_lenapp pcs qcs]
  show Go _ _ _ _ (T7.setTop (mkF m 40 #[lR p0, lR p1, lI (Int32.ofNat qcs.length)] [(.int (Int32.ofNat (pcs ++ qcs).length)), (.ref p0)]))
  have c8 := (hp0.keep K5q)
  obtain ⟨T9, h9, X9, e9, W9, st9⟩ := putF X7 hx hZ hown (host := "") (Or.inl (ow hw 106 rfl)) Via.refl e7 c6 c8 (Or.inl (ow hw 107 rfl)) (ow hw 68 rfl) (ty := .int) (by decide) rfl rfl (g := (mkF m 40 #[.val (.ref p0), .val (.ref p1), .val (.int (Int32.ofNat qcs.length))] [(.int (Int32.ofNat (pcs ++ qcs).length)), (.ref p0)])) rfl rfl (hb hby od15_40)
  refine Go.st st9 ?_
  have K9 : Keep h0 h9 [p0, arr] := K5.wr W9 (Or.inl (List.mem_of_getElem? (i := 0) rfl))
  have O9 := O5.wr W9 hp6
  have N9 := Fr.snoc X9 N5 hp6
  have F9 := c6.same W9
  show Go _ _ _ _ (T9.setTop (mkF m 43 #[lR p0, lR p1, lI (Int32.ofNat qcs.length)] []))
  refine Go.st (fun _ => XS.aloadN X9.here hx rfl (hb hby od15_43) rfl rfl) ?_
  show Go _ _ _ _ (T9.setTop (mkF m 44 #[lR p0, lR p1, lI (Int32.ofNat qcs.length)] [(.ref p0)]))
  obtain ⟨fs, hr, hrun, hended, hW, hsame⟩ := X9.leave (v := some (.ref p0)) (fun h => by rw [Bd.returns] at h; cases h)
  refine ⟨_, ?_, hPend _ _ hrun hended ⟨_, _, rfl, ?_, ⟨_, rfl⟩, hW, hsame.mono (by decide) (by decide)⟩⟩
  · exact retOut X9 hx (t := (.object "java/lang/AbstractStringBuilder")) Bd.returns rfl (Or.inr (Or.inr (Or.inr (Or.inr ⟨rfl, rfl, rfl⟩)))) (hb hby od15_44) hr
  · show Q_rm_appr Z _ _ _ _ _ _ _ _ _ _ h0 n0 _ T9.heap _
    rw [e9]
    have c10 := (c8.wr W9)
    have c11 := ((hp1.keep K5q (ninS (Exa.neArv hp0 hp5 (ow hw 68 rfl)) nin0)).other W9 (Or.inr (slot_ne (Or.inl (ow hw 82 rfl)) (Or.inl (ow hw 107 rfl)) (by decide) (t := (.array .byte)) (t' := .int) (by decide) (by decide))))
    have c12 := ((hp2.keep K5q (ninS (Exa.neArv hp0 hp5 (ow hw 68 rfl)) nin0)).other W9 (Or.inr (slot_ne (Or.inl (ow hw 84 rfl)) (Or.inl (ow hw 107 rfl)) (by decide) (t := .byte) (t' := .int) (by decide) (by decide))))
    have c13 := ((hp4.keep K5q).wr W9)
    have c14 := (q5_0.other W9 (Ne.symm (Exa.neArv hp0 hp5 (ow hw 68 rfl))))
    exact ⟨rfl, N9, K9, c10, c11, c12, F9, c13, c14⟩
theorem own_ef_rm_sapr (m : MethodId) (x0 : Addr) (x1 : Addr) : entryFrame m #[(.ref x0), (.ref x1)] 2 = mkF m 0 #[.val (.ref x0), .val (.ref x1)] [] := by first | (simp [entryFrame, mkF, argsToLocals, Value.category]; done) | rfl
theorem od16_0 : decode jdk_67_method_7_code 0 = .ok (.aload_n 0, 1) := by decide +kernel
theorem od16_1 : decode jdk_67_method_7_code 1 = .ok (.aload_n 1, 1) := by decide +kernel
theorem od16_2 : decode jdk_67_method_7_code 2 = .ok (.invokespecial 29, 3) := by decide +kernel
theorem own_pd10 : parseMethodDescriptor "(Ljava/lang/String;)Ljava/lang/AbstractStringBuilder;" = some ⟨[(.object "java/lang/String")], some (.object "java/lang/AbstractStringBuilder")⟩ := by decide +kernel
theorem od16_5 : decode jdk_67_method_7_code 5 = .ok (.pop, 1) := by decide +kernel
theorem od16_6 : decode jdk_67_method_7_code 6 = .ok (.aload_n 0, 1) := by decide +kernel
theorem od16_7 : decode jdk_67_method_7_code 7 = .ok (.areturn, 1) := by decide +kernel
def Q_rm_sapr (Z : State) (g_CS : Int32) (p0 : Addr) (p1 : Addr) (pcs : List Int32) (arr : Addr) (ka : ClassId) (za : Int32) (qcs : List Int32) (qv : Addr) (qk : ClassId) (h0 : Heap) (n0 : Nat) (v : Option Value) (h : Heap) (L : List Loc) : Prop := v = some (.ref p0) ∧ Fr n0 L ∧ Keep h0 h [p0, arr] ∧ Exa Z h p0 "java/lang/StringBuilder" ∧ Fld Z h p0 "java/lang/AbstractStringBuilder" "value" "[B" (.ref arr) ∧ Fld Z h p0 "java/lang/AbstractStringBuilder" "coder" "B" (.int (0 : Int32)) ∧ Fld Z h p0 "java/lang/AbstractStringBuilder" "count" "I" (.int (Int32.ofNat (pcs ++ qcs).length)) ∧ Exa Z h arr "[B" ∧ Arv Z h arr ka .byte za (((pcs ++ qcs).map StrChars.lo8).map Value.int) (.int (0 : Int32))
set_option maxRecDepth 65536 in
set_option maxHeartbeats 40000000 in
theorem rm_sapr (l : Launch) (Z : State) (a0 : Array Value) (hw : ∀ d ∈ tables_1, d.before a0 Z = true) (ws : List Jvm.Cond) (g_CS : Int32) (S_CS : Sta Z Z.heap "java/lang/String" "COMPACT_STRINGS" "Z" (.int g_CS)) (nz_CS : ¬ (g_CS = (0 : Int32))) (p0 : Addr) (p1 : Addr) (pcs : List Int32) (arr : Addr) (ka : ClassId) (za : Int32) (qcs : List Int32) (qv : Addr) (qk : ClassId) (h0 : Heap) (n0 : Nat) (X00 : Old Z n0 h0) (hp0 : Exa Z h0 p0 "java/lang/StringBuilder") (hp1 : Fld Z h0 p0 "java/lang/AbstractStringBuilder" "value" "[B" (.ref arr)) (hp2 : Fld Z h0 p0 "java/lang/AbstractStringBuilder" "coder" "B" (.int (0 : Int32))) (hp3 : Fld Z h0 p0 "java/lang/AbstractStringBuilder" "count" "I" (.int (Int32.ofNat pcs.length))) (hp4 : Exa Z h0 arr "[B") (hp5 : Arv Z h0 arr ka .byte za ((pcs.map StrChars.lo8).map Value.int) (.int (0 : Int32))) (hp6 : n0 ≤ p0) (hp7 : n0 ≤ arr) (hp8 : Exa Z h0 p1 "java/lang/String") (hp9 : Fld Z h0 p1 "java/lang/String" "coder" "B" (.int (0 : Int32))) (hp10 : Fld Z h0 p1 "java/lang/String" "value" "[B" (.ref qv)) (hp11 : Arv Z h0 qv qk .byte (Int32.ofNat qcs.length) ((qcs.map StrChars.lo8).map Value.int) (.int (0 : Int32))) (hpcq : ∀ c ∈ qcs, ¬ c < 0 ∧ ¬ (255 : Int32) < c) (hleq : qcs.length ≤ 4000) (hcap : (pcs ++ qcs).length ≤ za.toNatClampNeg) :
    MetFree l (⟨"java/lang/StringBuilder", "append", "(Ljava/lang/String;)Ljava/lang/StringBuilder;"⟩ : MethodName) (head1 (Jvm.Cond.code (⟨"java/lang/StringBuilder", "append", "(Ljava/lang/String;)Ljava/lang/StringBuilder;"⟩ : MethodName) jdk_67_method_7_code 2 (some (.object "java/lang/StringBuilder")) :: ws) ({ frames := 4, cells := 0, slots := 0, locals := 61 } : Room)) (fun a U => a = #[(.ref p0), (.ref p1)] ∧ Z.Warmed39 U.vm ∧ U.heap = h0) (fun _ _ _ _ _ => True) (fun _ U o U' => ∃ v L, o = .returned v ∧ Q_rm_sapr Z g_CS p0 p1 pcs arr ka za qcs qv qk h0 n0 v U'.heap L ∧ FrameEnd U o U' L ({ frames := 4, cells := 0, slots := 0, locals := 61 } : Room).cells ({ frames := 4, cells := 0, slots := 0, locals := 61 } : Room).slots) := by
  refine MetFree.of_bodySF (plainFor_of_name own_pn5) hisR ?_
  intro p e s m args below meth c s₁ Bd hml0 hP hK
  obtain ⟨rfl, hZ, hh⟩ := hP
  have hx := Bd.exec
  have hby := Bd.bytes
  have hml : c.maxLocals = 2 := hml0
  have hown : s.vm.findClass "java/lang/StringBuilder" = some m.cls := findClass_of_methodNamed Bd.named
  have hnm := (name_of_methodNamed Bd.named Bd.method).1
  have X0 : Stand p l e ({ frames := 4, cells := 0, slots := 0, locals := 61 } : Room) s m #[(.ref p0), (.ref p1)] below meth c s₁ [] 0 0 := Stand.of_body Bd
  have e0 : s₁.heap = h0 := by rw [← hh, Bd.state]; rfl
  have N0 := Fr.nil n0
  refine Go.start fun P hPend => ?_
  refine Go.st (fun _ k => castTop (own_ef_rm_sapr m p0 p1) k) ?_
  show Go _ _ _ _ (s₁.setTop (mkF m 0 #[lR p0, lR p1] []))
  refine Go.st (fun _ => XS.aloadN X0.here hx rfl (hb hby od16_0) rfl rfl) ?_
  show Go _ _ _ _ (s₁.setTop (mkF m 1 #[lR p0, lR p1] [(.ref p0)]))
  refine Go.st (fun _ => XS.aloadN X0.here hx rfl (hb hby od16_1) rfl rfl) ?_
  show Go _ _ _ _ (s₁.setTop (mkF m 2 #[lR p0, lR p1] [(.ref p1), (.ref p0)]))
  obtain ⟨_, _, ⟨T1, L1, k1, n1⟩, -, X1, ⟨Lc1, hQ1, l1, y1, z1⟩, st1⟩ := superBack X0 hx hZ (y := (⟨"java/lang/AbstractStringBuilder", "append", "(Ljava/lang/String;)Ljava/lang/AbstractStringBuilder;"⟩ : MethodName)) hown (ow hw 91 rfl) (own_sameself (ow hw 92 rfl) (ow hw 111 rfl) rfl (by decide)) (ow hw 92 rfl) (ow hw 93 rfl) (by decide) (backOf (W := 0) (rm_appr l Z a0 hw [] g_CS S_CS nz_CS p0 p1 pcs arr ka za qcs qv qk h0 n0 X00 hp0 hp1 hp2 hp3 hp4 hp5 hp6 hp7 hp8 hp9 hp10 hp11 hpcq hleq hcap) hZ (ow hw 95 rfl) (ow hw 77 rfl) (by decide) (by decide)) e0 (Ins.self hp0) (g := (mkF m 2 #[.val (.ref p0), .val (.ref p1)] [(.ref p1), (.ref p0)])) rfl (by rw [hml]; rfl) (ow hw 95 rfl) (argsL := [(.ref p1)]) (rest := []) (lenOf own_pd10 rfl) rfl (by show 2 * 0 + _ ≤ _; exact Nat.le_of_eq rfl) (hb hby od16_2) (fun _ _ => ⟨rfl, e0, (by decide : 0 + 0 ≤ _), (by decide : 0 + 0 ≤ _)⟩)
  dsimp only [Pt.U, Pt.locs, Pt.cells, Pt.slots] at X1 l1 y1 z1 st1 hQ1
  subst y1 z1
  refine Go.tr st1 ?_
  obtain ⟨rfl, N1q, K1q, q1_0, q1_1, q1_2, q1_3, q1_4, q1_5⟩ := hQ1
  have N1 : Fr n0 L1 := by rw [l1]; exact Fr.app N0 N1q
  have O1 := X00.keep K1q (allS hp6 (allS hp7 all0))
  have K1 : Keep h0 T1.heap [p0, arr] := (Keep.refl h0 [p0, arr]).trans K1q (allS (Or.inl (List.mem_of_getElem? (i := 0) rfl)) (allS (Or.inl (List.mem_of_getElem? (i := 1) rfl)) all0))
  show Go _ _ _ _ (T1.setTop (mkF m 5 #[lR p0, lR p1] [(.ref p0)]))
  refine Go.st (fun _ => XS.pop X1.here hx rfl (hb hby od16_5) rfl rfl) ?_
  show Go _ _ _ _ (T1.setTop (mkF m 6 #[lR p0, lR p1] []))
  refine Go.st (fun _ => XS.aloadN X1.here hx rfl (hb hby od16_6) rfl rfl) ?_
  show Go _ _ _ _ (T1.setTop (mkF m 7 #[lR p0, lR p1] [(.ref p0)]))
  obtain ⟨fs, hr, hrun, hended, hW, hsame⟩ := X1.leave (v := some (.ref p0)) (fun h => by rw [Bd.returns] at h; cases h)
  refine ⟨_, ?_, hPend _ _ hrun hended ⟨_, _, rfl, ?_, ⟨_, rfl⟩, hW, hsame.mono (by decide) (by decide)⟩⟩
  · exact retOut X1 hx (t := (.object "java/lang/StringBuilder")) Bd.returns rfl (Or.inr (Or.inr (Or.inr (Or.inr ⟨rfl, rfl, rfl⟩)))) (hb hby od16_7) hr
  · show Q_rm_sapr Z _ _ _ _ _ _ _ _ _ _ h0 n0 _ T1.heap _
    exact ⟨rfl, N1, K1, q1_0, q1_1, q1_2, q1_3, q1_4, q1_5⟩
theorem own_ef_rm_max (m : MethodId) (x0 : Int32) (x1 : Int32) : entryFrame m #[(.int x0), (.int x1)] 2 = mkF m 0 #[.val (.int x0), .val (.int x1)] [] := by first | (simp [entryFrame, mkF, argsToLocals, Value.category]; done) | rfl
theorem od17_0 : decode jdk_29_method_65_code 0 = .ok (.iload_n 0, 1) := by decide +kernel
theorem od17_1 : decode jdk_29_method_65_code 1 = .ok (.iload_n 1, 1) := by decide +kernel
theorem od17_2 : decode jdk_29_method_65_code 2 = .ok (.if_icmp .lt 7, 3) := by decide +kernel
theorem od17_9 : decode jdk_29_method_65_code 9 = .ok (.iload_n 1, 1) := by decide +kernel
theorem od17_10 : decode jdk_29_method_65_code 10 = .ok (.ireturn, 1) := by decide +kernel
def Q_rm_max (Z : State) (g_CS : Int32) (p0 : Int32) (p1 : Int32) (h0 : Heap) (n0 : Nat) (v : Option Value) (h : Heap) (L : List Loc) : Prop := v = some (.int p1) ∧ Fr n0 L ∧ h = h0
set_option maxRecDepth 65536 in
set_option maxHeartbeats 40000000 in
theorem rm_max (l : Launch) (Z : State) (a0 : Array Value) (hw : ∀ d ∈ tables_1, d.before a0 Z = true) (ws : List Jvm.Cond) (g_CS : Int32) (S_CS : Sta Z Z.heap "java/lang/String" "COMPACT_STRINGS" "Z" (.int g_CS)) (nz_CS : ¬ (g_CS = (0 : Int32))) (p0 : Int32) (p1 : Int32) (h0 : Heap) (n0 : Nat) (X00 : Old Z n0 h0) (hmx : p0 < p1) :
    MetFree l (⟨"java/lang/Math", "max", "(II)I"⟩ : MethodName) (head1 (Jvm.Cond.code (⟨"java/lang/Math", "max", "(II)I"⟩ : MethodName) jdk_29_method_65_code 2 (some .int) :: ws) ({ frames := 0, cells := 0, slots := 0, locals := 0 } : Room)) (fun a U => a = #[(.int p0), (.int p1)] ∧ Z.Warmed39 U.vm ∧ U.heap = h0) (fun _ _ _ _ _ => True) (fun _ U o U' => ∃ v L, o = .returned v ∧ Q_rm_max Z g_CS p0 p1 h0 n0 v U'.heap L ∧ FrameEnd U o U' L ({ frames := 0, cells := 0, slots := 0, locals := 0 } : Room).cells ({ frames := 0, cells := 0, slots := 0, locals := 0 } : Room).slots) := by
  refine MetFree.of_bodySF (Jvm.Free.JP.mathPlain rfl (by decide +kernel)) hisR ?_
  intro p e s m args below meth c s₁ Bd hml0 hP hK
  obtain ⟨rfl, hZ, hh⟩ := hP
  have hx := Bd.exec
  have hby := Bd.bytes
  have hml : c.maxLocals = 2 := hml0
  have hown : s.vm.findClass "java/lang/Math" = some m.cls := findClass_of_methodNamed Bd.named
  have hnm := (name_of_methodNamed Bd.named Bd.method).1
  have X0 : Stand p l e ({ frames := 0, cells := 0, slots := 0, locals := 0 } : Room) s m #[(.int p0), (.int p1)] below meth c s₁ [] 0 0 := Stand.of_body Bd
  have e0 : s₁.heap = h0 := by rw [← hh, Bd.state]; rfl
  have N0 := Fr.nil n0
  refine Go.start fun P hPend => ?_
  refine Go.st (fun _ k => castTop (own_ef_rm_max m p0 p1) k) ?_
  show Go _ _ _ _ (s₁.setTop (mkF m 0 #[lI p0, lI p1] []))
  refine Go.st (fun _ => XS.iloadN X0.here hx rfl (hb hby od17_0) rfl) ?_
  show Go _ _ _ _ (s₁.setTop (mkF m 1 #[lI p0, lI p1] [(.int p0)]))
  refine Go.st (fun _ => XS.iloadN X0.here hx rfl (hb hby od17_1) rfl) ?_
  show Go _ _ _ _ (s₁.setTop (mkF m 2 #[lI p0, lI p1] [(.int p1), (.int p0)]))
  have hb1 : p0 < p1 := hmx
  refine Go.st (fun _ => XS.icmpYes X0.here hx rfl (pc0 := 2) (pc' := 9) rfl (hb hby od17_2) rfl (tlt hb1).1 (by decide) (by decide)) ?_
  show Go _ _ _ _ (s₁.setTop (mkF m 9 #[lI p0, lI p1] []))
  refine Go.st (fun _ => XS.iloadN X0.here hx rfl (hb hby od17_9) rfl) ?_
  show Go _ _ _ _ (s₁.setTop (mkF m 10 #[lI p0, lI p1] [(.int p1)]))
  obtain ⟨fs, hr, hrun, hended, hW, hsame⟩ := X0.leave (v := some (.int p1)) (fun h => by rw [Bd.returns] at h; cases h)
  refine ⟨_, ?_, hPend _ _ hrun hended ⟨_, _, rfl, ?_, ⟨_, rfl⟩, hW, hsame.mono (by decide) (by decide)⟩⟩
  · exact retOut X0 hx (t := .int) Bd.returns rfl (Or.inl ⟨rfl, Or.inl rfl, _, rfl⟩) (hb hby od17_10) hr
  · show Q_rm_max Z _ _ _ h0 n0 _ s₁.heap _
    rw [e0]
    exact ⟨rfl, N0, rfl⟩
theorem own_ef_rm_newl (m : MethodId) (x0 : Int32) (x1 : Int32) (x2 : Int32) : entryFrame m #[(.int x0), (.int x1), (.int x2)] 4 = mkF m 0 #[.val (.int x0), .val (.int x1), .val (.int x2), .unset] [] := by first | (simp [entryFrame, mkF, argsToLocals, Value.category]; done) | rfl
theorem own_pn6 : plainName "jdk/internal/util/ArraysSupport" = true := by first | (simp [plainName, overriddenIn]; done) | decide +kernel
theorem od18_0 : decode jdk_48_method_27_code 0 = .ok (.iload_n 0, 1) := by decide +kernel
theorem od18_1 : decode jdk_48_method_27_code 1 = .ok (.iload_n 1, 1) := by decide +kernel
theorem od18_2 : decode jdk_48_method_27_code 2 = .ok (.iload_n 2, 1) := by decide +kernel
theorem od18_3 : decode jdk_48_method_27_code 3 = .ok (.invokestatic 194, 3) := by decide +kernel
theorem own_pd11 : parseMethodDescriptor "(II)I" = some ⟨[.int, .int], some .int⟩ := by decide +kernel
theorem od18_6 : decode jdk_48_method_27_code 6 = .ok (.iadd, 1) := by decide +kernel
theorem od18_7 : decode jdk_48_method_27_code 7 = .ok (.istore_n 3, 1) := by decide +kernel
theorem od18_8 : decode jdk_48_method_27_code 8 = .ok (.iconst 0, 1) := by decide +kernel
theorem od18_9 : decode jdk_48_method_27_code 9 = .ok (.iload_n 3, 1) := by decide +kernel
theorem od18_10 : decode jdk_48_method_27_code 10 = .ok (.if_icmp .ge 11, 3) := by decide +kernel
theorem od18_13 : decode jdk_48_method_27_code 13 = .ok (.iload_n 3, 1) := by decide +kernel
theorem od18_14 : decode jdk_48_method_27_code 14 = .ok (.ldc 200, 2) := by decide +kernel
theorem od18_16 : decode jdk_48_method_27_code 16 = .ok (.if_icmp .gt 5, 3) := by decide +kernel
theorem od18_19 : decode jdk_48_method_27_code 19 = .ok (.iload_n 3, 1) := by decide +kernel
theorem od18_20 : decode jdk_48_method_27_code 20 = .ok (.ireturn, 1) := by decide +kernel
def Q_rm_newl (Z : State) (g_CS : Int32) (p1 : Int32) (h0 : Heap) (n0 : Nat) (v : Option Value) (h : Heap) (L : List Loc) : Prop := v = some (.int (34 : Int32)) ∧ Fr n0 L ∧ h = h0
set_option maxRecDepth 65536 in
set_option maxHeartbeats 40000000 in
theorem rm_newl (l : Launch) (Z : State) (a0 : Array Value) (hw : ∀ d ∈ tables_1, d.before a0 Z = true) (ws : List Jvm.Cond) (g_CS : Int32) (S_CS : Sta Z Z.heap "java/lang/String" "COMPACT_STRINGS" "Z" (.int g_CS)) (nz_CS : ¬ (g_CS = (0 : Int32))) (p1 : Int32) (h0 : Heap) (n0 : Nat) (X00 : Old Z n0 h0) (hmx : p1 < (18 : Int32)) :
    MetFree l (⟨"jdk/internal/util/ArraysSupport", "newLength", "(III)I"⟩ : MethodName) (head1 (Jvm.Cond.code (⟨"jdk/internal/util/ArraysSupport", "newLength", "(III)I"⟩ : MethodName) jdk_48_method_27_code 4 (some .int) :: ws) ({ frames := 1, cells := 0, slots := 0, locals := 14 } : Room)) (fun a U => a = #[(.int (16 : Int32)), (.int p1), (.int (18 : Int32))] ∧ Z.Warmed39 U.vm ∧ U.heap = h0) (fun _ _ _ _ _ => True) (fun _ U o U' => ∃ v L, o = .returned v ∧ Q_rm_newl Z g_CS p1 h0 n0 v U'.heap L ∧ FrameEnd U o U' L ({ frames := 1, cells := 0, slots := 0, locals := 14 } : Room).cells ({ frames := 1, cells := 0, slots := 0, locals := 14 } : Room).slots) := by
  refine MetFree.of_bodySF (plainFor_of_name own_pn6) hisR ?_
  intro p e s m args below meth c s₁ Bd hml0 hP hK
  obtain ⟨rfl, hZ, hh⟩ := hP
  have hx := Bd.exec
  have hby := Bd.bytes
  have hml : c.maxLocals = 4 := hml0
  have hown : s.vm.findClass "jdk/internal/util/ArraysSupport" = some m.cls := findClass_of_methodNamed Bd.named
  have hnm := (name_of_methodNamed Bd.named Bd.method).1
  have X0 : Stand p l e ({ frames := 1, cells := 0, slots := 0, locals := 14 } : Room) s m #[(.int (16 : Int32)), (.int p1), (.int (18 : Int32))] below meth c s₁ [] 0 0 := Stand.of_body Bd
  have e0 : s₁.heap = h0 := by rw [← hh, Bd.state]; rfl
  have N0 := Fr.nil n0
  refine Go.start fun P hPend => ?_
  refine Go.st (fun _ k => castTop (own_ef_rm_newl m ((16 : Int32)) p1 ((18 : Int32))) k) ?_
  show Go _ _ _ _ (s₁.setTop (mkF m 0 #[lI (16 : Int32), lI p1, lI (18 : Int32), lU] []))
  refine Go.st (fun _ => XS.iloadN X0.here hx rfl (hb hby od18_0) rfl) ?_
  show Go _ _ _ _ (s₁.setTop (mkF m 1 #[lI (16 : Int32), lI p1, lI (18 : Int32), lU] [(.int (16 : Int32))]))
  refine Go.st (fun _ => XS.iloadN X0.here hx rfl (hb hby od18_1) rfl) ?_
  show Go _ _ _ _ (s₁.setTop (mkF m 2 #[lI (16 : Int32), lI p1, lI (18 : Int32), lU] [(.int p1), (.int (16 : Int32))]))
  refine Go.st (fun _ => XS.iloadN X0.here hx rfl (hb hby od18_2) rfl) ?_
  show Go _ _ _ _ (s₁.setTop (mkF m 3 #[lI (16 : Int32), lI p1, lI (18 : Int32), lU] [(.int (18 : Int32)), (.int p1), (.int (16 : Int32))]))
  obtain ⟨_, _, ⟨T1, L1, k1, n1⟩, -, X1, ⟨Lc1, hQ1, l1, y1, z1⟩, st1⟩ := Jvm.LawKit.callS X0 hx (y := (⟨"java/lang/Math", "max", "(II)I"⟩ : MethodName)) hown (mvT hZ (ow hw 144 rfl)) (mvT hZ (ow hw 145 rfl)) (mvT hZ (ow hw 146 rfl)) (mvT hZ (ow hw 147 rfl)) (by decide) (backOf (W := 1) (rm_max l Z a0 hw [] g_CS S_CS nz_CS p1 (18 : Int32) h0 n0 X00 hmx) hZ (ow hw 147 rfl) (ow hw 146 rfl) (by decide) (by decide)) (g := (mkF m 3 #[.val (.int (16 : Int32)), .val (.int p1), .val (.int (18 : Int32)), .unset] [(.int (18 : Int32)), (.int p1), (.int (16 : Int32))])) rfl (by rw [hml]; rfl) (argsL := [(.int p1), (.int (18 : Int32))]) (rest := [(.int (16 : Int32))]) (lenOf own_pd11 rfl) rfl (by show 2 * 0 + _ ≤ _; exact Nat.le_of_eq rfl) (hb hby od18_3) (fun _ _ => ⟨rfl, e0, (by decide : 0 + 0 ≤ _), (by decide : 0 + 0 ≤ _)⟩)
  dsimp only [Pt.U, Pt.locs, Pt.cells, Pt.slots] at X1 l1 y1 z1 st1 hQ1
  subst y1 z1
  refine Go.st st1 ?_
  obtain ⟨rfl, N1q, e1⟩ := hQ1
  have N1 : Fr n0 L1 := by rw [l1]; exact Fr.app N0 N1q
  show Go _ _ _ _ (T1.setTop (mkF m 6 #[lI (16 : Int32), lI p1, lI (18 : Int32), lU] [(.int (18 : Int32)), (.int (16 : Int32))]))
  refine Go.st (fun _ => XS.iadd X1.here hx rfl (hb hby od18_6) rfl) ?_
  show Go _ _ _ _ (T1.setTop (mkF m 7 #[lI (16 : Int32), lI p1, lI (18 : Int32), lU] [(.int (34 : Int32))]))
  refine Go.st (fun _ => XS.istoreN X1.here hx rfl (hb hby od18_7) rfl (l' := #[.val (.int (16 : Int32)), .val (.int p1), .val (.int (18 : Int32)), .val (.int (34 : Int32))]) rfl) ?_
  show Go _ _ _ _ (T1.setTop (mkF m 8 #[lI (16 : Int32), lI p1, lI (18 : Int32), lI (34 : Int32)] []))
  refine Go.st (fun _ => XS.iconst X1.here hx rfl (hb hby od18_8)) ?_
  show Go _ _ _ _ (T1.setTop (mkF m 9 #[lI (16 : Int32), lI p1, lI (18 : Int32), lI (34 : Int32)] [(.int (0 : Int32))]))
  refine Go.st (fun _ => XS.iloadN X1.here hx rfl (hb hby od18_9) rfl) ?_
  show Go _ _ _ _ (T1.setTop (mkF m 10 #[lI (16 : Int32), lI p1, lI (18 : Int32), lI (34 : Int32)] [(.int (34 : Int32)), (.int (0 : Int32))]))
  refine Go.st (fun _ => XS.icmpNo X1.here hx rfl (hb hby od18_10) rfl (tlt (by decide)).2.1) ?_
  show Go _ _ _ _ (T1.setTop (mkF m 13 #[lI (16 : Int32), lI p1, lI (18 : Int32), lI (34 : Int32)] []))
  refine Go.st (fun _ => XS.iloadN X1.here hx rfl (hb hby od18_13) rfl) ?_
  show Go _ _ _ _ (T1.setTop (mkF m 14 #[lI (16 : Int32), lI p1, lI (18 : Int32), lI (34 : Int32)] [(.int (34 : Int32))]))
  refine Go.st (fun _ => X1.ldcInt hx hown (mvT hZ (ow hw 148 rfl)) (g := (mkF m 14 #[.val (.int (16 : Int32)), .val (.int p1), .val (.int (18 : Int32)), .val (.int (34 : Int32))] [(.int (34 : Int32))])) rfl (hb hby od18_14) _) ?_
  show Go _ _ _ _ (T1.setTop (mkF m 16 #[lI (16 : Int32), lI p1, lI (18 : Int32), lI (34 : Int32)] [(.int (2147483639 : Int32)), (.int (34 : Int32))]))
  refine Go.st (fun _ => XS.icmpNo X1.here hx rfl (hb hby od18_16) rfl (flt (by decide)).2.2.1) ?_
  show Go _ _ _ _ (T1.setTop (mkF m 19 #[lI (16 : Int32), lI p1, lI (18 : Int32), lI (34 : Int32)] []))
  refine Go.st (fun _ => XS.iloadN X1.here hx rfl (hb hby od18_19) rfl) ?_
  show Go _ _ _ _ (T1.setTop (mkF m 20 #[lI (16 : Int32), lI p1, lI (18 : Int32), lI (34 : Int32)] [(.int (34 : Int32))]))
  obtain ⟨fs, hr, hrun, hended, hW, hsame⟩ := X1.leave (v := some (.int (34 : Int32))) (fun h => by rw [Bd.returns] at h; cases h)
  refine ⟨_, ?_, hPend _ _ hrun hended ⟨_, _, rfl, ?_, ⟨_, rfl⟩, hW, hsame.mono (by decide) (by decide)⟩⟩
  · exact retOut X1 hx (t := .int) Bd.returns rfl (Or.inl ⟨rfl, Or.inl rfl, _, rfl⟩) (hb hby od18_20) hr
  · show Q_rm_newl Z _ _ h0 n0 _ T1.heap _
    rw [e1]
    exact ⟨rfl, N1, rfl⟩
theorem own_ef_rm_newc (m : MethodId) (x0 : Addr) (x1 : Int32) : entryFrame m #[(.ref x0), (.int x1)] 6 = mkF m 0 #[.val (.ref x0), .val (.int x1), .unset, .unset, .unset, .unset] [] := by first | (simp [entryFrame, mkF, argsToLocals, Value.category]; done) | rfl
theorem od19_0 : decode jdk_68_method_10_code 0 = .ok (.aload_n 0, 1) := by decide +kernel
theorem od19_1 : decode jdk_68_method_10_code 1 = .ok (.getfield 15, 3) := by decide +kernel
theorem od19_4 : decode jdk_68_method_10_code 4 = .ok (.arraylength, 1) := by decide +kernel
theorem od19_5 : decode jdk_68_method_10_code 5 = .ok (.istore_n 2, 1) := by decide +kernel
theorem od19_6 : decode jdk_68_method_10_code 6 = .ok (.iload_n 1, 1) := by decide +kernel
theorem od19_7 : decode jdk_68_method_10_code 7 = .ok (.aload_n 0, 1) := by decide +kernel
theorem od19_8 : decode jdk_68_method_10_code 8 = .ok (.getfield 22, 3) := by decide +kernel
theorem od19_11 : decode jdk_68_method_10_code 11 = .ok (.ishl, 1) := by decide +kernel
theorem od19_12 : decode jdk_68_method_10_code 12 = .ok (.istore_n 3, 1) := by decide +kernel
theorem od19_13 : decode jdk_68_method_10_code 13 = .ok (.iload_n 3, 1) := by decide +kernel
theorem od19_14 : decode jdk_68_method_10_code 14 = .ok (.iload_n 2, 1) := by decide +kernel
theorem od19_15 : decode jdk_68_method_10_code 15 = .ok (.isub, 1) := by decide +kernel
theorem od19_16 : decode jdk_68_method_10_code 16 = .ok (.istore 4, 2) := by decide +kernel
theorem od19_18 : decode jdk_68_method_10_code 18 = .ok (.iload_n 2, 1) := by decide +kernel
theorem od19_19 : decode jdk_68_method_10_code 19 = .ok (.iload 4, 2) := by decide +kernel
theorem od19_21 : decode jdk_68_method_10_code 21 = .ok (.iload_n 2, 1) := by decide +kernel
theorem od19_22 : decode jdk_68_method_10_code 22 = .ok (.iconst 2, 1) := by decide +kernel
theorem od19_23 : decode jdk_68_method_10_code 23 = .ok (.aload_n 0, 1) := by decide +kernel
theorem od19_24 : decode jdk_68_method_10_code 24 = .ok (.getfield 22, 3) := by decide +kernel
theorem od19_27 : decode jdk_68_method_10_code 27 = .ok (.ishl, 1) := by decide +kernel
theorem od19_28 : decode jdk_68_method_10_code 28 = .ok (.iadd, 1) := by decide +kernel
theorem od19_29 : decode jdk_68_method_10_code 29 = .ok (.invokestatic 114, 3) := by decide +kernel
theorem own_pd12 : parseMethodDescriptor "(III)I" = some ⟨[.int, .int, .int], some .int⟩ := by decide +kernel
theorem od19_32 : decode jdk_68_method_10_code 32 = .ok (.istore 5, 2) := by decide +kernel
theorem od19_34 : decode jdk_68_method_10_code 34 = .ok (.iload 5, 2) := by decide +kernel
theorem od19_36 : decode jdk_68_method_10_code 36 = .ok (.ldc 39, 2) := by decide +kernel
theorem od19_38 : decode jdk_68_method_10_code 38 = .ok (.if_icmp .ne 13, 3) := by decide +kernel
theorem od19_51 : decode jdk_68_method_10_code 51 = .ok (.iload 5, 2) := by decide +kernel
theorem od19_53 : decode jdk_68_method_10_code 53 = .ok (.aload_n 0, 1) := by decide +kernel
theorem od19_54 : decode jdk_68_method_10_code 54 = .ok (.getfield 22, 3) := by decide +kernel
theorem od19_57 : decode jdk_68_method_10_code 57 = .ok (.ishr, 1) := by decide +kernel
theorem od19_58 : decode jdk_68_method_10_code 58 = .ok (.ireturn, 1) := by decide +kernel
def Q_rm_newc (Z : State) (g_CS : Int32) (p0 : Addr) (p1 : Int32) (arr : Addr) (ka : ClassId) (va : List Value) (h0 : Heap) (n0 : Nat) (v : Option Value) (h : Heap) (L : List Loc) : Prop := v = some (.int (34 : Int32)) ∧ Fr n0 L ∧ h = h0
set_option maxRecDepth 65536 in
set_option maxHeartbeats 40000000 in
theorem rm_newc (l : Launch) (Z : State) (a0 : Array Value) (hw : ∀ d ∈ tables_1, d.before a0 Z = true) (ws : List Jvm.Cond) (g_CS : Int32) (S_CS : Sta Z Z.heap "java/lang/String" "COMPACT_STRINGS" "Z" (.int g_CS)) (nz_CS : ¬ (g_CS = (0 : Int32))) (p0 : Addr) (p1 : Int32) (arr : Addr) (ka : ClassId) (va : List Value) (h0 : Heap) (n0 : Nat) (X00 : Old Z n0 h0) (hp0 : Fld Z h0 p0 "java/lang/AbstractStringBuilder" "value" "[B" (.ref arr)) (hp1 : Fld Z h0 p0 "java/lang/AbstractStringBuilder" "coder" "B" (.int (0 : Int32))) (hp2 : Arv Z h0 arr ka .byte (16 : Int32) va (.int (0 : Int32))) (hgr : (0 : Int32) < (p1 - (16 : Int32)) ∧ (p1 - (16 : Int32)) < (18 : Int32)) :
    MetFree l (⟨"java/lang/AbstractStringBuilder", "newCapacity", "(I)I"⟩ : MethodName) (head1 (Jvm.Cond.code (⟨"java/lang/AbstractStringBuilder", "newCapacity", "(I)I"⟩ : MethodName) jdk_68_method_10_code 6 (some .int) :: ws) ({ frames := 2, cells := 0, slots := 0, locals := 29 } : Room)) (fun a U => a = #[(.ref p0), (.int p1)] ∧ Z.Warmed39 U.vm ∧ U.heap = h0) (fun _ _ _ _ _ => True) (fun _ U o U' => ∃ v L, o = .returned v ∧ Q_rm_newc Z g_CS p0 p1 arr ka va h0 n0 v U'.heap L ∧ FrameEnd U o U' L ({ frames := 2, cells := 0, slots := 0, locals := 29 } : Room).cells ({ frames := 2, cells := 0, slots := 0, locals := 29 } : Room).slots) := by
  refine MetFree.of_bodySF (plainFor_of_name own_pn4) hisR ?_
  intro p e s m args below meth c s₁ Bd hml0 hP hK
  obtain ⟨rfl, hZ, hh⟩ := hP
  have hx := Bd.exec
  have hby := Bd.bytes
  have hml : c.maxLocals = 6 := hml0
  have hown : s.vm.findClass "java/lang/AbstractStringBuilder" = some m.cls := findClass_of_methodNamed Bd.named
  have hnm := (name_of_methodNamed Bd.named Bd.method).1
  have X0 : Stand p l e ({ frames := 2, cells := 0, slots := 0, locals := 29 } : Room) s m #[(.ref p0), (.int p1)] below meth c s₁ [] 0 0 := Stand.of_body Bd
  have e0 : s₁.heap = h0 := by rw [← hh, Bd.state]; rfl
  have N0 := Fr.nil n0
  refine Go.start fun P hPend => ?_
  refine Go.st (fun _ k => castTop (own_ef_rm_newc m p0 p1) k) ?_
  show Go _ _ _ _ (s₁.setTop (mkF m 0 #[lR p0, lI p1, lU, lU, lU, lU] []))
  refine Go.st (fun _ => XS.aloadN X0.here hx rfl (hb hby od19_0) rfl rfl) ?_
  show Go _ _ _ _ (s₁.setTop (mkF m 1 #[lR p0, lI p1, lU, lU, lU, lU] [(.ref p0)]))
  obtain ⟨T1, X1, e1, st1⟩ := getF X0 hx hZ hown (host := "") (Or.inl (ow hw 81 rfl)) Via.refl e0 hp0 (g := (mkF m 1 #[.val (.ref p0), .val (.int p1), .unset, .unset, .unset, .unset] [(.ref p0)])) rfl rfl (hb hby od19_1)
  refine Go.st st1 ?_
  show Go _ _ _ _ (T1.setTop (mkF m 4 #[lR p0, lI p1, lU, lU, lU, lU] [(.ref arr)]))
  refine Go.st (fun _ => own_len X1 hx hZ e1 hp2 (g := (mkF m 4 #[.val (.ref p0), .val (.int p1), .unset, .unset, .unset, .unset] [(.ref arr)])) rfl rfl (hb hby od19_4) _) ?_
  show Go _ _ _ _ (T1.setTop (mkF m 5 #[lR p0, lI p1, lU, lU, lU, lU] [(.int (16 : Int32))]))
  refine Go.st (fun _ => XS.istoreN X1.here hx rfl (hb hby od19_5) rfl (l' := #[.val (.ref p0), .val (.int p1), .val (.int (16 : Int32)), .unset, .unset, .unset]) rfl) ?_
  show Go _ _ _ _ (T1.setTop (mkF m 6 #[lR p0, lI p1, lI (16 : Int32), lU, lU, lU] []))
  refine Go.st (fun _ => XS.iloadN X1.here hx rfl (hb hby od19_6) rfl) ?_
  show Go _ _ _ _ (T1.setTop (mkF m 7 #[lR p0, lI p1, lI (16 : Int32), lU, lU, lU] [(.int p1)]))
  refine Go.st (fun _ => XS.aloadN X1.here hx rfl (hb hby od19_7) rfl rfl) ?_
  show Go _ _ _ _ (T1.setTop (mkF m 8 #[lR p0, lI p1, lI (16 : Int32), lU, lU, lU] [(.ref p0), (.int p1)]))
  obtain ⟨T2, X2, e2, st2⟩ := getF X1 hx hZ hown (host := "") (Or.inl (ow hw 83 rfl)) Via.refl e1 hp1 (g := (mkF m 8 #[.val (.ref p0), .val (.int p1), .val (.int (16 : Int32)), .unset, .unset, .unset] [(.ref p0), (.int p1)])) rfl rfl (hb hby od19_8)
  refine Go.st st2 ?_
  show Go _ _ _ _ (T2.setTop (mkF m 11 #[lR p0, lI p1, lI (16 : Int32), lU, lU, lU] [(.int (0 : Int32)), (.int p1)]))
  refine Go.st (fun _ => XS.ishl X2.here hx rfl (hb hby od19_11) rfl) ?_
  show Go _ _ _ _ (T2.setTop (mkF m 12 #[lR p0, lI p1, lI (16 : Int32), lU, lU, lU] [(.int (p1 <<< ((0 : Int32) &&& 31)))]))
  rw [show (p1 <<< ((0 : Int32) &&& 31)) = p1 from own_ishl0 _]
  show Go _ _ _ _ (T2.setTop (mkF m 12 #[lR p0, lI p1, lI (16 : Int32), lU, lU, lU] [(.int p1)]))
  refine Go.st (fun _ => XS.istoreN X2.here hx rfl (hb hby od19_12) rfl (l' := #[.val (.ref p0), .val (.int p1), .val (.int (16 : Int32)), .val (.int p1), .unset, .unset]) rfl) ?_
  show Go _ _ _ _ (T2.setTop (mkF m 13 #[lR p0, lI p1, lI (16 : Int32), lI p1, lU, lU] []))
  refine Go.st (fun _ => XS.iloadN X2.here hx rfl (hb hby od19_13) rfl) ?_
  show Go _ _ _ _ (T2.setTop (mkF m 14 #[lR p0, lI p1, lI (16 : Int32), lI p1, lU, lU] [(.int p1)]))
  refine Go.st (fun _ => XS.iloadN X2.here hx rfl (hb hby od19_14) rfl) ?_
  show Go _ _ _ _ (T2.setTop (mkF m 15 #[lR p0, lI p1, lI (16 : Int32), lI p1, lU, lU] [(.int (16 : Int32)), (.int p1)]))
  refine Go.st (fun _ => XS.isub X2.here hx rfl (hb hby od19_15) rfl) ?_
  show Go _ _ _ _ (T2.setTop (mkF m 16 #[lR p0, lI p1, lI (16 : Int32), lI p1, lU, lU] [(.int (p1 - (16 : Int32)))]))
  refine Go.st (fun _ => XS.istore X2.here hx rfl (hb hby od19_16) rfl (l' := #[.val (.ref p0), .val (.int p1), .val (.int (16 : Int32)), .val (.int p1), .val (.int (p1 - (16 : Int32))), .unset]) rfl) ?_
  show Go _ _ _ _ (T2.setTop (mkF m 18 #[lR p0, lI p1, lI (16 : Int32), lI p1, lI (p1 - (16 : Int32)), lU] []))
  refine Go.st (fun _ => XS.iloadN X2.here hx rfl (hb hby od19_18) rfl) ?_
  show Go _ _ _ _ (T2.setTop (mkF m 19 #[lR p0, lI p1, lI (16 : Int32), lI p1, lI (p1 - (16 : Int32)), lU] [(.int (16 : Int32))]))
  refine Go.st (fun _ => XS.iload X2.here hx rfl (hb hby od19_19) rfl) ?_
  show Go _ _ _ _ (T2.setTop (mkF m 21 #[lR p0, lI p1, lI (16 : Int32), lI p1, lI (p1 - (16 : Int32)), lU] [(.int (p1 - (16 : Int32))), (.int (16 : Int32))]))
  refine Go.st (fun _ => XS.iloadN X2.here hx rfl (hb hby od19_21) rfl) ?_
  show Go _ _ _ _ (T2.setTop (mkF m 22 #[lR p0, lI p1, lI (16 : Int32), lI p1, lI (p1 - (16 : Int32)), lU] [(.int (16 : Int32)), (.int (p1 - (16 : Int32))), (.int (16 : Int32))]))
  refine Go.st (fun _ => XS.iconst X2.here hx rfl (hb hby od19_22)) ?_
  show Go _ _ _ _ (T2.setTop (mkF m 23 #[lR p0, lI p1, lI (16 : Int32), lI p1, lI (p1 - (16 : Int32)), lU] [(.int (2 : Int32)), (.int (16 : Int32)), (.int (p1 - (16 : Int32))), (.int (16 : Int32))]))
  refine Go.st (fun _ => XS.aloadN X2.here hx rfl (hb hby od19_23) rfl rfl) ?_
  show Go _ _ _ _ (T2.setTop (mkF m 24 #[lR p0, lI p1, lI (16 : Int32), lI p1, lI (p1 - (16 : Int32)), lU] [(.ref p0), (.int (2 : Int32)), (.int (16 : Int32)), (.int (p1 - (16 : Int32))), (.int (16 : Int32))]))
  obtain ⟨T3, X3, e3, st3⟩ := getF X2 hx hZ hown (host := "") (Or.inl (ow hw 83 rfl)) Via.refl e2 hp1 (g := (mkF m 24 #[.val (.ref p0), .val (.int p1), .val (.int (16 : Int32)), .val (.int p1), .val (.int (p1 - (16 : Int32))), .unset] [(.ref p0), (.int (2 : Int32)), (.int (16 : Int32)), (.int (p1 - (16 : Int32))), (.int (16 : Int32))])) rfl rfl (hb hby od19_24)
  refine Go.st st3 ?_
  show Go _ _ _ _ (T3.setTop (mkF m 27 #[lR p0, lI p1, lI (16 : Int32), lI p1, lI (p1 - (16 : Int32)), lU] [(.int (0 : Int32)), (.int (2 : Int32)), (.int (16 : Int32)), (.int (p1 - (16 : Int32))), (.int (16 : Int32))]))
  refine Go.st (fun _ => XS.ishl X3.here hx rfl (hb hby od19_27) rfl) ?_
  show Go _ _ _ _ (T3.setTop (mkF m 28 #[lR p0, lI p1, lI (16 : Int32), lI p1, lI (p1 - (16 : Int32)), lU] [(.int ((2 : Int32) <<< ((0 : Int32) &&& 31))), (.int (16 : Int32)), (.int (p1 - (16 : Int32))), (.int (16 : Int32))]))
  rw [show ((2 : Int32) <<< ((0 : Int32) &&& 31)) = (2 : Int32) from own_ishl0 _]
  show Go _ _ _ _ (T3.setTop (mkF m 28 #[lR p0, lI p1, lI (16 : Int32), lI p1, lI (p1 - (16 : Int32)), lU] [(.int (2 : Int32)), (.int (16 : Int32)), (.int (p1 - (16 : Int32))), (.int (16 : Int32))]))
  refine Go.st (fun _ => XS.iadd X3.here hx rfl (hb hby od19_28) rfl) ?_
  show Go _ _ _ _ (T3.setTop (mkF m 29 #[lR p0, lI p1, lI (16 : Int32), lI p1, lI (p1 - (16 : Int32)), lU] [(.int (18 : Int32)), (.int (p1 - (16 : Int32))), (.int (16 : Int32))]))
  obtain ⟨_, _, ⟨T4, L4, k4, n4⟩, -, X4, ⟨Lc4, hQ4, l4, y4, z4⟩, st4⟩ := Jvm.LawKit.callS X3 hx (y := (⟨"jdk/internal/util/ArraysSupport", "newLength", "(III)I"⟩ : MethodName)) hown (mvT hZ (ow hw 140 rfl)) (mvT hZ (ow hw 141 rfl)) (mvT hZ (ow hw 142 rfl)) (mvT hZ (ow hw 143 rfl)) (by decide) (backOf (W := 0) (rm_newl l Z a0 hw [] g_CS S_CS nz_CS (p1 - (16 : Int32)) h0 n0 X00 hgr.2) hZ (ow hw 143 rfl) (ow hw 142 rfl) (by decide) (by decide)) (g := (mkF m 29 #[.val (.ref p0), .val (.int p1), .val (.int (16 : Int32)), .val (.int p1), .val (.int (p1 - (16 : Int32))), .unset] [(.int (18 : Int32)), (.int (p1 - (16 : Int32))), (.int (16 : Int32))])) rfl (by rw [hml]; rfl) (argsL := [(.int (16 : Int32)), (.int (p1 - (16 : Int32))), (.int (18 : Int32))]) (rest := []) (lenOf own_pd12 rfl) rfl (by show 2 * 0 + _ ≤ _; exact Nat.le_of_eq rfl) (hb hby od19_29) (fun _ _ => ⟨rfl, e3, (by decide : 0 + 0 ≤ _), (by decide : 0 + 0 ≤ _)⟩)
  dsimp only [Pt.U, Pt.locs, Pt.cells, Pt.slots] at X4 l4 y4 z4 st4 hQ4
  subst y4 z4
  refine Go.st st4 ?_
  obtain ⟨rfl, N4q, e4⟩ := hQ4
  have N4 : Fr n0 L4 := by rw [l4]; exact Fr.app N0 N4q
  show Go _ _ _ _ (T4.setTop (mkF m 32 #[lR p0, lI p1, lI (16 : Int32), lI p1, lI (p1 - (16 : Int32)), lU] [(.int (34 : Int32))]))
  refine Go.st (fun _ => XS.istore X4.here hx rfl (hb hby od19_32) rfl (l' := #[.val (.ref p0), .val (.int p1), .val (.int (16 : Int32)), .val (.int p1), .val (.int (p1 - (16 : Int32))), .val (.int (34 : Int32))]) rfl) ?_
  show Go _ _ _ _ (T4.setTop (mkF m 34 #[lR p0, lI p1, lI (16 : Int32), lI p1, lI (p1 - (16 : Int32)), lI (34 : Int32)] []))
  refine Go.st (fun _ => XS.iload X4.here hx rfl (hb hby od19_34) rfl) ?_
  show Go _ _ _ _ (T4.setTop (mkF m 36 #[lR p0, lI p1, lI (16 : Int32), lI p1, lI (p1 - (16 : Int32)), lI (34 : Int32)] [(.int (34 : Int32))]))
  refine Go.st (fun _ => X4.ldcInt hx hown (mvT hZ (ow hw 149 rfl)) (g := (mkF m 36 #[.val (.ref p0), .val (.int p1), .val (.int (16 : Int32)), .val (.int p1), .val (.int (p1 - (16 : Int32))), .val (.int (34 : Int32))] [(.int (34 : Int32))])) rfl (hb hby od19_36) _) ?_
  show Go _ _ _ _ (T4.setTop (mkF m 38 #[lR p0, lI p1, lI (16 : Int32), lI p1, lI (p1 - (16 : Int32)), lI (34 : Int32)] [(.int (2147483647 : Int32)), (.int (34 : Int32))]))
  refine Go.st (fun _ => XS.icmpYes X4.here hx rfl (pc0 := 38) (pc' := 51) rfl (hb hby od19_38) rfl (feq (by decide)).2 (by decide) (by decide)) ?_
  show Go _ _ _ _ (T4.setTop (mkF m 51 #[lR p0, lI p1, lI (16 : Int32), lI p1, lI (p1 - (16 : Int32)), lI (34 : Int32)] []))
  refine Go.st (fun _ => XS.iload X4.here hx rfl (hb hby od19_51) rfl) ?_
  show Go _ _ _ _ (T4.setTop (mkF m 53 #[lR p0, lI p1, lI (16 : Int32), lI p1, lI (p1 - (16 : Int32)), lI (34 : Int32)] [(.int (34 : Int32))]))
  refine Go.st (fun _ => XS.aloadN X4.here hx rfl (hb hby od19_53) rfl rfl) ?_
  show Go _ _ _ _ (T4.setTop (mkF m 54 #[lR p0, lI p1, lI (16 : Int32), lI p1, lI (p1 - (16 : Int32)), lI (34 : Int32)] [(.ref p0), (.int (34 : Int32))]))
  obtain ⟨T5, X5, e5, st5⟩ := getF X4 hx hZ hown (host := "") (Or.inl (ow hw 83 rfl)) Via.refl e4 hp1 (g := (mkF m 54 #[.val (.ref p0), .val (.int p1), .val (.int (16 : Int32)), .val (.int p1), .val (.int (p1 - (16 : Int32))), .val (.int (34 : Int32))] [(.ref p0), (.int (34 : Int32))])) rfl rfl (hb hby od19_54)
  refine Go.st st5 ?_
  show Go _ _ _ _ (T5.setTop (mkF m 57 #[lR p0, lI p1, lI (16 : Int32), lI p1, lI (p1 - (16 : Int32)), lI (34 : Int32)] [(.int (0 : Int32)), (.int (34 : Int32))]))
  refine Go.st (fun _ => XS.ishr X5.here hx rfl (hb hby od19_57) rfl) ?_
  show Go _ _ _ _ (T5.setTop (mkF m 58 #[lR p0, lI p1, lI (16 : Int32), lI p1, lI (p1 - (16 : Int32)), lI (34 : Int32)] [(.int ((34 : Int32) >>> ((0 : Int32) &&& 31)))]))
  rw [show ((34 : Int32) >>> ((0 : Int32) &&& 31)) = (34 : Int32) from own_ishr0 _]
  show Go _ _ _ _ (T5.setTop (mkF m 58 #[lR p0, lI p1, lI (16 : Int32), lI p1, lI (p1 - (16 : Int32)), lI (34 : Int32)] [(.int (34 : Int32))]))
  obtain ⟨fs, hr, hrun, hended, hW, hsame⟩ := X5.leave (v := some (.int (34 : Int32))) (fun h => by rw [Bd.returns] at h; cases h)
  refine ⟨_, ?_, hPend _ _ hrun hended ⟨_, _, rfl, ?_, ⟨_, rfl⟩, hW, hsame.mono (by decide) (by decide)⟩⟩
  · exact retOut X5 hx (t := .int) Bd.returns rfl (Or.inl ⟨rfl, Or.inl rfl, _, rfl⟩) (hb hby od19_58) hr
  · show Q_rm_newc Z _ _ _ _ _ _ h0 n0 _ T5.heap _
    rw [e5]
    exact ⟨rfl, N4, rfl⟩
theorem own_ef_rm_min (m : MethodId) (x0 : Int32) (x1 : Int32) : entryFrame m #[(.int x0), (.int x1)] 2 = mkF m 0 #[.val (.int x0), .val (.int x1)] [] := by first | (simp [entryFrame, mkF, argsToLocals, Value.category]; done) | rfl
theorem od20_0 : decode jdk_29_method_69_code 0 = .ok (.iload_n 0, 1) := by decide +kernel
theorem od20_1 : decode jdk_29_method_69_code 1 = .ok (.iload_n 1, 1) := by decide +kernel
theorem od20_2 : decode jdk_29_method_69_code 2 = .ok (.if_icmp .gt 7, 3) := by decide +kernel
theorem od20_5 : decode jdk_29_method_69_code 5 = .ok (.iload_n 0, 1) := by decide +kernel
theorem od20_6 : decode jdk_29_method_69_code 6 = .ok (.goto 4, 3) := by decide +kernel
theorem od20_10 : decode jdk_29_method_69_code 10 = .ok (.ireturn, 1) := by decide +kernel
def Q_rm_min (Z : State) (g_CS : Int32) (p0 : Int32) (p1 : Int32) (h0 : Heap) (n0 : Nat) (v : Option Value) (h : Heap) (L : List Loc) : Prop := v = some (.int p0) ∧ Fr n0 L ∧ h = h0
set_option maxRecDepth 65536 in
set_option maxHeartbeats 40000000 in
theorem rm_min (l : Launch) (Z : State) (a0 : Array Value) (hw : ∀ d ∈ tables_1, d.before a0 Z = true) (ws : List Jvm.Cond) (g_CS : Int32) (S_CS : Sta Z Z.heap "java/lang/String" "COMPACT_STRINGS" "Z" (.int g_CS)) (nz_CS : ¬ (g_CS = (0 : Int32))) (p0 : Int32) (p1 : Int32) (h0 : Heap) (n0 : Nat) (X00 : Old Z n0 h0) (hmn : ¬ (p1 < p0)) :
    MetFree l (⟨"java/lang/Math", "min", "(II)I"⟩ : MethodName) (head1 (Jvm.Cond.code (⟨"java/lang/Math", "min", "(II)I"⟩ : MethodName) jdk_29_method_69_code 2 (some .int) :: ws) ({ frames := 0, cells := 0, slots := 0, locals := 0 } : Room)) (fun a U => a = #[(.int p0), (.int p1)] ∧ Z.Warmed39 U.vm ∧ U.heap = h0) (fun _ _ _ _ _ => True) (fun _ U o U' => ∃ v L, o = .returned v ∧ Q_rm_min Z g_CS p0 p1 h0 n0 v U'.heap L ∧ FrameEnd U o U' L ({ frames := 0, cells := 0, slots := 0, locals := 0 } : Room).cells ({ frames := 0, cells := 0, slots := 0, locals := 0 } : Room).slots) := by
  refine MetFree.of_bodySF (Jvm.Free.JP.mathPlain rfl (by decide +kernel)) hisR ?_
  intro p e s m args below meth c s₁ Bd hml0 hP hK
  obtain ⟨rfl, hZ, hh⟩ := hP
  have hx := Bd.exec
  have hby := Bd.bytes
  have hml : c.maxLocals = 2 := hml0
  have hown : s.vm.findClass "java/lang/Math" = some m.cls := findClass_of_methodNamed Bd.named
  have hnm := (name_of_methodNamed Bd.named Bd.method).1
  have X0 : Stand p l e ({ frames := 0, cells := 0, slots := 0, locals := 0 } : Room) s m #[(.int p0), (.int p1)] below meth c s₁ [] 0 0 := Stand.of_body Bd
  have e0 : s₁.heap = h0 := by rw [← hh, Bd.state]; rfl
  have N0 := Fr.nil n0
  refine Go.start fun P hPend => ?_
  refine Go.st (fun _ k => castTop (own_ef_rm_min m p0 p1) k) ?_
  show Go _ _ _ _ (s₁.setTop (mkF m 0 #[lI p0, lI p1] []))
  refine Go.st (fun _ => XS.iloadN X0.here hx rfl (hb hby od20_0) rfl) ?_
  show Go _ _ _ _ (s₁.setTop (mkF m 1 #[lI p0, lI p1] [(.int p0)]))
  refine Go.st (fun _ => XS.iloadN X0.here hx rfl (hb hby od20_1) rfl) ?_
  show Go _ _ _ _ (s₁.setTop (mkF m 2 #[lI p0, lI p1] [(.int p1), (.int p0)]))
  have hb1 : ¬ (p1 < p0) := hmn
  refine Go.st (fun _ => XS.icmpNo X0.here hx rfl (hb hby od20_2) rfl (flt hb1).2.2.1) ?_
  show Go _ _ _ _ (s₁.setTop (mkF m 5 #[lI p0, lI p1] []))
  refine Go.st (fun _ => XS.iloadN X0.here hx rfl (hb hby od20_5) rfl) ?_
  show Go _ _ _ _ (s₁.setTop (mkF m 6 #[lI p0, lI p1] [(.int p0)]))
  refine Go.st (fun _ => XS.goto X0.here hx rfl (pc0 := 6) (pc' := 10) rfl (hb hby od20_6) (by decide) (by decide)) ?_
  show Go _ _ _ _ (s₁.setTop (mkF m 10 #[lI p0, lI p1] [(.int p0)]))
  obtain ⟨fs, hr, hrun, hended, hW, hsame⟩ := X0.leave (v := some (.int p0)) (fun h => by rw [Bd.returns] at h; cases h)
  refine ⟨_, ?_, hPend _ _ hrun hended ⟨_, _, rfl, ?_, ⟨_, rfl⟩, hW, hsame.mono (by decide) (by decide)⟩⟩
  · exact retOut X0 hx (t := .int) Bd.returns rfl (Or.inl ⟨rfl, Or.inl rfl, _, rfl⟩) (hb hby od20_10) hr
  · show Q_rm_min Z _ _ _ h0 n0 _ s₁.heap _
    rw [e0]
    exact ⟨rfl, N0, rfl⟩
theorem own_ef_rm_cpof (m : MethodId) (x0 : Addr) (x1 : Int32) : entryFrame m #[(.ref x0), (.int x1)] 3 = mkF m 0 #[.val (.ref x0), .val (.int x1), .unset] [] := by first | (simp [entryFrame, mkF, argsToLocals, Value.category]; done) | rfl
theorem own_pn7 : plainName "java/util/Arrays" = true := by first | (simp [plainName, overriddenIn]; done) | decide +kernel
theorem od21_0 : decode jdk_65_method_121_code 0 = .ok (.iload_n 1, 1) := by decide +kernel
theorem od21_1 : decode jdk_65_method_121_code 1 = .ok (.aload_n 0, 1) := by decide +kernel
theorem od21_2 : decode jdk_65_method_121_code 2 = .ok (.arraylength, 1) := by decide +kernel
theorem od21_3 : decode jdk_65_method_121_code 3 = .ok (.if_icmp .ne 11, 3) := by decide +kernel
theorem od21_14 : decode jdk_65_method_121_code 14 = .ok (.iload_n 1, 1) := by decide +kernel
theorem od21_15 : decode jdk_65_method_121_code 15 = .ok (.newarray .byte, 2) := by decide +kernel
theorem od21_17 : decode jdk_65_method_121_code 17 = .ok (.astore_n 2, 1) := by decide +kernel
theorem od21_18 : decode jdk_65_method_121_code 18 = .ok (.aload_n 0, 1) := by decide +kernel
theorem od21_19 : decode jdk_65_method_121_code 19 = .ok (.iconst 0, 1) := by decide +kernel
theorem od21_20 : decode jdk_65_method_121_code 20 = .ok (.aload_n 2, 1) := by decide +kernel
theorem od21_21 : decode jdk_65_method_121_code 21 = .ok (.iconst 0, 1) := by decide +kernel
theorem od21_22 : decode jdk_65_method_121_code 22 = .ok (.aload_n 0, 1) := by decide +kernel
theorem od21_23 : decode jdk_65_method_121_code 23 = .ok (.arraylength, 1) := by decide +kernel
theorem od21_24 : decode jdk_65_method_121_code 24 = .ok (.iload_n 1, 1) := by decide +kernel
theorem od21_25 : decode jdk_65_method_121_code 25 = .ok (.invokestatic 304, 3) := by decide +kernel
theorem od21_28 : decode jdk_65_method_121_code 28 = .ok (.invokestatic 150, 3) := by decide +kernel
theorem od21_31 : decode jdk_65_method_121_code 31 = .ok (.aload_n 2, 1) := by decide +kernel
theorem od21_32 : decode jdk_65_method_121_code 32 = .ok (.areturn, 1) := by decide +kernel
def Q_rm_cpof (Z : State) (g_CS : Int32) (p0 : Addr) (ka : ClassId) (va : List Value) (h0 : Heap) (n0 : Nat) (v : Option Value) (h : Heap) (L : List Loc) : Prop := ∃ (ob : Addr) (kb : ClassId), v = some (.ref ob) ∧ Fr n0 L ∧ Keep h0 h [] ∧ h0.size ≤ ob ∧ Exa Z h ob "[B" ∧ Arv Z h ob kb .byte (34 : Int32) va (.int (0 : Int32))
set_option maxRecDepth 65536 in
set_option maxHeartbeats 40000000 in
theorem rm_cpof (l : Launch) (Z : State) (a0 : Array Value) (hw : ∀ d ∈ tables_1, d.before a0 Z = true) (ws : List Jvm.Cond) (g_CS : Int32) (S_CS : Sta Z Z.heap "java/lang/String" "COMPACT_STRINGS" "Z" (.int g_CS)) (nz_CS : ¬ (g_CS = (0 : Int32))) (p0 : Addr) (ka : ClassId) (va : List Value) (h0 : Heap) (n0 : Nat) (X00 : Old Z n0 h0) (hp0 : Arv Z h0 p0 ka .byte (16 : Int32) va (.int (0 : Int32))) (hvl : va.length ≤ 16) :
    MetFree l (⟨"java/util/Arrays", "copyOf", "([BI)[B"⟩ : MethodName) (head1 (Jvm.Cond.code (⟨"java/util/Arrays", "copyOf", "([BI)[B"⟩ : MethodName) jdk_65_method_121_code 3 (some (.array .byte)) :: ws) ({ frames := 1, cells := 1, slots := 34, locals := 18 } : Room)) (fun a U => a = #[(.ref p0), (.int (34 : Int32))] ∧ Z.Warmed39 U.vm ∧ U.heap = h0) (fun _ _ _ _ _ => True) (fun _ U o U' => ∃ v L, o = .returned v ∧ Q_rm_cpof Z g_CS p0 ka va h0 n0 v U'.heap L ∧ FrameEnd U o U' L ({ frames := 1, cells := 1, slots := 34, locals := 18 } : Room).cells ({ frames := 1, cells := 1, slots := 34, locals := 18 } : Room).slots) := by
  refine MetFree.of_bodySF (plainFor_of_name own_pn7) hisR ?_
  intro p e s m args below meth c s₁ Bd hml0 hP hK
  obtain ⟨rfl, hZ, hh⟩ := hP
  have hx := Bd.exec
  have hby := Bd.bytes
  have hml : c.maxLocals = 3 := hml0
  have hown : s.vm.findClass "java/util/Arrays" = some m.cls := findClass_of_methodNamed Bd.named
  have hnm := (name_of_methodNamed Bd.named Bd.method).1
  have X0 : Stand p l e ({ frames := 1, cells := 1, slots := 34, locals := 18 } : Room) s m #[(.ref p0), (.int (34 : Int32))] below meth c s₁ [] 0 0 := Stand.of_body Bd
  have e0 : s₁.heap = h0 := by rw [← hh, Bd.state]; rfl
  have N0 := Fr.nil n0
  refine Go.start fun P hPend => ?_
  refine Go.st (fun _ k => castTop (own_ef_rm_cpof m p0 ((34 : Int32))) k) ?_
  show Go _ _ _ _ (s₁.setTop (mkF m 0 #[lR p0, lI (34 : Int32), lU] []))
  refine Go.st (fun _ => XS.iloadN X0.here hx rfl (hb hby od21_0) rfl) ?_
  show Go _ _ _ _ (s₁.setTop (mkF m 1 #[lR p0, lI (34 : Int32), lU] [(.int (34 : Int32))]))
  refine Go.st (fun _ => XS.aloadN X0.here hx rfl (hb hby od21_1) rfl rfl) ?_
  show Go _ _ _ _ (s₁.setTop (mkF m 2 #[lR p0, lI (34 : Int32), lU] [(.ref p0), (.int (34 : Int32))]))
  refine Go.st (fun _ => own_len X0 hx hZ e0 hp0 (g := (mkF m 2 #[.val (.ref p0), .val (.int (34 : Int32)), .unset] [(.ref p0), (.int (34 : Int32))])) rfl rfl (hb hby od21_2) _) ?_
  show Go _ _ _ _ (s₁.setTop (mkF m 3 #[lR p0, lI (34 : Int32), lU] [(.int (16 : Int32)), (.int (34 : Int32))]))
  refine Go.st (fun _ => XS.icmpYes X0.here hx rfl (pc0 := 3) (pc' := 14) rfl (hb hby od21_3) rfl (feq (by decide)).2 (by decide) (by decide)) ?_
  show Go _ _ _ _ (s₁.setTop (mkF m 14 #[lR p0, lI (34 : Int32), lU] []))
  refine Go.st (fun _ => XS.iloadN X0.here hx rfl (hb hby od21_14) rfl) ?_
  show Go _ _ _ _ (s₁.setTop (mkF m 15 #[lR p0, lI (34 : Int32), lU] [(.int (34 : Int32))]))
  obtain ⟨T1, h1, k1, X1, e1, E1, A1, B1, st1⟩ := newPE X0 hx hZ (ow hw 19 rfl) e0 (g := (mkF m 15 #[.val (.ref p0), .val (.int (34 : Int32)), .unset] [(.int (34 : Int32))])) rfl (hb hby od21_15) rfl (by decide) (cap := 34) (by decide) (by decide) (by decide) (by decide) (ad := "[B") (by decide +kernel)
  obtain ⟨b1, g1⟩ : ∃ z, z = h0.size := ⟨_, rfl⟩
  rw [← g1] at A1 B1 st1
  refine Go.st st1 ?_
  have g_b1 : n0 ≤ b1 := Nat.le_trans (own_oldsz X00) (Nat.le_of_eq g1.symm)
  have sz_b1 : h0.size ≤ b1 := Nat.le_trans (Keep.refl h0 []).1 (Nat.le_of_eq g1.symm)
  have K1 : Keep h0 h1 [] := (Keep.refl h0 []).ext E1
  have O1 := X00.ext E1
  have V1 : Arv Z h1 b1 k1 .byte (34 : Int32) [] (.int (0 : Int32)) := Arv.new A1 (by decide)
  show Go _ _ _ _ (T1.setTop (mkF m 17 #[lR p0, lI (34 : Int32), lU] [(.ref b1)]))
  refine Go.st (fun _ => XS.astoreN X1.here hx rfl (hb hby od21_17) rfl rfl (l' := #[.val (.ref p0), .val (.int (34 : Int32)), .val (.ref b1)]) rfl) ?_
  show Go _ _ _ _ (T1.setTop (mkF m 18 #[lR p0, lI (34 : Int32), lR b1] []))
  refine Go.st (fun _ => XS.aloadN X1.here hx rfl (hb hby od21_18) rfl rfl) ?_
  show Go _ _ _ _ (T1.setTop (mkF m 19 #[lR p0, lI (34 : Int32), lR b1] [(.ref p0)]))
  refine Go.st (fun _ => XS.iconst X1.here hx rfl (hb hby od21_19)) ?_
  show Go _ _ _ _ (T1.setTop (mkF m 20 #[lR p0, lI (34 : Int32), lR b1] [(.int (0 : Int32)), (.ref p0)]))
  refine Go.st (fun _ => XS.aloadN X1.here hx rfl (hb hby od21_20) rfl rfl) ?_
  show Go _ _ _ _ (T1.setTop (mkF m 21 #[lR p0, lI (34 : Int32), lR b1] [(.ref b1), (.int (0 : Int32)), (.ref p0)]))
  refine Go.st (fun _ => XS.iconst X1.here hx rfl (hb hby od21_21)) ?_
  show Go _ _ _ _ (T1.setTop (mkF m 22 #[lR p0, lI (34 : Int32), lR b1] [(.int (0 : Int32)), (.ref b1), (.int (0 : Int32)), (.ref p0)]))
  refine Go.st (fun _ => XS.aloadN X1.here hx rfl (hb hby od21_22) rfl rfl) ?_
  show Go _ _ _ _ (T1.setTop (mkF m 23 #[lR p0, lI (34 : Int32), lR b1] [(.ref p0), (.int (0 : Int32)), (.ref b1), (.int (0 : Int32)), (.ref p0)]))
  have c2 := (hp0.ext E1)
  refine Go.st (fun _ => own_len X1 hx hZ e1 c2 (g := (mkF m 23 #[.val (.ref p0), .val (.int (34 : Int32)), .val (.ref b1)] [(.ref p0), (.int (0 : Int32)), (.ref b1), (.int (0 : Int32)), (.ref p0)])) rfl rfl (hb hby od21_23) _) ?_
  show Go _ _ _ _ (T1.setTop (mkF m 24 #[lR p0, lI (34 : Int32), lR b1] [(.int (16 : Int32)), (.int (0 : Int32)), (.ref b1), (.int (0 : Int32)), (.ref p0)]))
  refine Go.st (fun _ => XS.iloadN X1.here hx rfl (hb hby od21_24) rfl) ?_
  show Go _ _ _ _ (T1.setTop (mkF m 25 #[lR p0, lI (34 : Int32), lR b1] [(.int (34 : Int32)), (.int (16 : Int32)), (.int (0 : Int32)), (.ref b1), (.int (0 : Int32)), (.ref p0)]))
  obtain ⟨_, _, ⟨T3, L3, k3, n3⟩, -, X3, ⟨Lc3, hQ3, l3, y3, z3⟩, st3⟩ := Jvm.LawKit.callS X1 hx (y := (⟨"java/lang/Math", "min", "(II)I"⟩ : MethodName)) hown (mvT hZ (ow hw 154 rfl)) (mvT hZ (ow hw 155 rfl)) (mvT hZ (ow hw 146 rfl)) (mvT hZ (ow hw 156 rfl)) (by decide) (backOf (W := 4) (rm_min l Z a0 hw [] g_CS S_CS nz_CS (16 : Int32) (34 : Int32) h1 n0 O1 (by decide)) hZ (ow hw 156 rfl) (ow hw 146 rfl) (by decide) (by decide)) (g := (mkF m 25 #[.val (.ref p0), .val (.int (34 : Int32)), .val (.ref b1)] [(.int (34 : Int32)), (.int (16 : Int32)), (.int (0 : Int32)), (.ref b1), (.int (0 : Int32)), (.ref p0)])) rfl (by rw [hml]; rfl) (argsL := [(.int (16 : Int32)), (.int (34 : Int32))]) (rest := [(.int (0 : Int32)), (.ref b1), (.int (0 : Int32)), (.ref p0)]) (lenOf own_pd11 rfl) rfl (by show 2 * 0 + _ ≤ _; exact Nat.le_of_eq rfl) (hb hby od21_25) (fun _ _ => ⟨rfl, e1, (by decide : 1 + 0 ≤ _), (by decide : 34 + 0 ≤ _)⟩)
  dsimp only [Pt.U, Pt.locs, Pt.cells, Pt.slots] at X3 l3 y3 z3 st3 hQ3
  subst y3 z3
  refine Go.st st3 ?_
  obtain ⟨rfl, N3q, e3⟩ := hQ3
  have N3 : Fr n0 L3 := by rw [l3]; exact Fr.app N0 N3q
  show Go _ _ _ _ (T3.setTop (mkF m 28 #[lR p0, lI (34 : Int32), lR b1] [(.int (16 : Int32)), (.int (0 : Int32)), (.ref b1), (.int (0 : Int32)), (.ref p0)]))
  obtain ⟨T4, L4, X4, N4d, K4q, A4, st4⟩ := own_acopy X3 hx hZ e3 hown (mvT hZ (ow hw 157 rfl)) (mvT hZ (ow hw 132 rfl)) (mvT hZ (ow hw 130 rfl)) (mvT hZ (ow hw 131 rfl)) c2 V1 (o := 0) (q := 0) (n := 16) (ws := va) (by decide) (by decide) (fun i _ => own_cpws hvl i) (g := (mkF m 28 #[.val (.ref p0), .val (.int (34 : Int32)), .val (.ref b1)] [(.int (16 : Int32)), (.int (0 : Int32)), (.ref b1), (.int (0 : Int32)), (.ref p0)])) rfl (by rw [hml]; rfl) rfl rfl rfl rfl (hb hby od21_28) (by decide) (by show 2 * 0 + 0 + (nativeFrameWords "java/lang/System" "arraycopy" 5 + 11) ≤ _; decide)
  refine Go.st st4 ?_
  have N4 := Fr.app N3 (N4d _ g_b1)
  have O4 := O1.keep K4q (allS g_b1 all0)
  have K4 : Keep h0 T4.heap [] := K1.trans K4q (allS (Or.inr sz_b1) all0)
  show Go _ _ _ _ (T4.setTop (mkF m 31 #[lR p0, lI (34 : Int32), lR b1] []))
  refine Go.st (fun _ => XS.aloadN X4.here hx rfl (hb hby od21_31) rfl rfl) ?_
  show Go _ _ _ _ (T4.setTop (mkF m 32 #[lR p0, lI (34 : Int32), lR b1] [(.ref b1)]))
  obtain ⟨fs, hr, hrun, hended, hW, hsame⟩ := X4.leave (v := some (.ref b1)) (fun h => by rw [Bd.returns] at h; cases h)
  refine ⟨_, ?_, hPend _ _ hrun hended ⟨_, _, rfl, ?_, ⟨_, rfl⟩, hW, hsame.mono (by decide) (by decide)⟩⟩
  · exact retOut X4 hx (t := (.array .byte)) Bd.returns rfl (Or.inr (Or.inr (Or.inr (Or.inr ⟨rfl, rfl, rfl⟩)))) (hb hby od21_32) hr
  · show Q_rm_cpof Z _ _ _ _ h0 n0 _ T4.heap _
    have c5 := (B1.keep K4q)
    exact ⟨b1, k1, rfl, N4, K4, sz_b1, c5, A4⟩
theorem own_ef_rm_ensg (m : MethodId) (x0 : Addr) (x1 : Int32) : entryFrame m #[(.ref x0), (.int x1)] 3 = mkF m 0 #[.val (.ref x0), .val (.int x1), .unset] [] := by first | (simp [entryFrame, mkF, argsToLocals, Value.category]; done) | rfl
theorem od11_17 : decode jdk_68_method_9_code 17 = .ok (.aload_n 0, 1) := by decide +kernel
theorem od11_18 : decode jdk_68_method_9_code 18 = .ok (.aload_n 0, 1) := by decide +kernel
theorem od11_19 : decode jdk_68_method_9_code 19 = .ok (.getfield 15, 3) := by decide +kernel
theorem od11_22 : decode jdk_68_method_9_code 22 = .ok (.aload_n 0, 1) := by decide +kernel
theorem od11_23 : decode jdk_68_method_9_code 23 = .ok (.iload_n 1, 1) := by decide +kernel
theorem od11_24 : decode jdk_68_method_9_code 24 = .ok (.invokevirtual 104, 3) := by decide +kernel
theorem own_pd13 : parseMethodDescriptor "(I)I" = some ⟨[.int], some .int⟩ := by decide +kernel
theorem od11_27 : decode jdk_68_method_9_code 27 = .ok (.aload_n 0, 1) := by decide +kernel
theorem od11_28 : decode jdk_68_method_9_code 28 = .ok (.getfield 22, 3) := by decide +kernel
theorem od11_31 : decode jdk_68_method_9_code 31 = .ok (.ishl, 1) := by decide +kernel
theorem od11_32 : decode jdk_68_method_9_code 32 = .ok (.invokestatic 108, 3) := by decide +kernel
theorem own_pd14 : parseMethodDescriptor "([BI)[B" = some ⟨[(.array .byte), .int], some (.array .byte)⟩ := by decide +kernel
theorem od11_35 : decode jdk_68_method_9_code 35 = .ok (.putfield 15, 3) := by decide +kernel
def Q_rm_ensg (Z : State) (g_CS : Int32) (p0 : Addr) (p1 : Int32) (arr : Addr) (ka : ClassId) (va : List Value) (nn : Int32) (h0 : Heap) (n0 : Nat) (v : Option Value) (h : Heap) (L : List Loc) : Prop := ∃ (ob : Addr) (kb : ClassId), v = none ∧ Fr n0 L ∧ Keep h0 h [p0] ∧ h0.size ≤ ob ∧ Exa Z h p0 "java/lang/StringBuilder" ∧ Fld Z h p0 "java/lang/AbstractStringBuilder" "value" "[B" (.ref ob) ∧ Fld Z h p0 "java/lang/AbstractStringBuilder" "coder" "B" (.int (0 : Int32)) ∧ Fld Z h p0 "java/lang/AbstractStringBuilder" "count" "I" (.int nn) ∧ Exa Z h ob "[B" ∧ Arv Z h ob kb .byte (34 : Int32) va (.int (0 : Int32))
set_option maxRecDepth 65536 in
set_option maxHeartbeats 40000000 in
theorem rm_ensg (l : Launch) (Z : State) (a0 : Array Value) (hw : ∀ d ∈ tables_1, d.before a0 Z = true) (ws : List Jvm.Cond) (g_CS : Int32) (S_CS : Sta Z Z.heap "java/lang/String" "COMPACT_STRINGS" "Z" (.int g_CS)) (nz_CS : ¬ (g_CS = (0 : Int32))) (p0 : Addr) (p1 : Int32) (arr : Addr) (ka : ClassId) (va : List Value) (nn : Int32) (h0 : Heap) (n0 : Nat) (X00 : Old Z n0 h0) (hp0 : Exa Z h0 p0 "java/lang/StringBuilder") (hp1 : Fld Z h0 p0 "java/lang/AbstractStringBuilder" "value" "[B" (.ref arr)) (hp2 : Fld Z h0 p0 "java/lang/AbstractStringBuilder" "coder" "B" (.int (0 : Int32))) (hp3 : Fld Z h0 p0 "java/lang/AbstractStringBuilder" "count" "I" (.int nn)) (hp4 : Arv Z h0 arr ka .byte (16 : Int32) va (.int (0 : Int32))) (hp5 : n0 ≤ p0) (hgr : (0 : Int32) < (p1 - (16 : Int32)) ∧ (p1 - (16 : Int32)) < (18 : Int32)) (hvl : va.length ≤ 16) :
    MetFree l (⟨"java/lang/AbstractStringBuilder", "ensureCapacityInternal", "(I)V"⟩ : MethodName) (head1 (Jvm.Cond.code (⟨"java/lang/AbstractStringBuilder", "ensureCapacityInternal", "(I)V"⟩ : MethodName) jdk_68_method_9_code 3 none :: ws) ({ frames := 3, cells := 1, slots := 34, locals := 48 } : Room)) (fun a U => a = #[(.ref p0), (.int p1)] ∧ Z.Warmed39 U.vm ∧ U.heap = h0) (fun _ _ _ _ _ => True) (fun _ U o U' => ∃ v L, o = .returned v ∧ Q_rm_ensg Z g_CS p0 p1 arr ka va nn h0 n0 v U'.heap L ∧ FrameEnd U o U' L ({ frames := 3, cells := 1, slots := 34, locals := 48 } : Room).cells ({ frames := 3, cells := 1, slots := 34, locals := 48 } : Room).slots) := by
  refine MetFree.of_bodySF (plainFor_of_name own_pn4) hisR ?_
  intro p e s m args below meth c s₁ Bd hml0 hP hK
  obtain ⟨rfl, hZ, hh⟩ := hP
  have hx := Bd.exec
  have hby := Bd.bytes
  have hml : c.maxLocals = 3 := hml0
  have hown : s.vm.findClass "java/lang/AbstractStringBuilder" = some m.cls := findClass_of_methodNamed Bd.named
  have hnm := (name_of_methodNamed Bd.named Bd.method).1
  have X0 : Stand p l e ({ frames := 3, cells := 1, slots := 34, locals := 48 } : Room) s m #[(.ref p0), (.int p1)] below meth c s₁ [] 0 0 := Stand.of_body Bd
  have e0 : s₁.heap = h0 := by rw [← hh, Bd.state]; rfl
  have N0 := Fr.nil n0
  refine Go.start fun P hPend => ?_
  refine Go.st (fun _ k => castTop (own_ef_rm_ensg m p0 p1) k) ?_
  show Go _ _ _ _ (s₁.setTop (mkF m 0 #[lR p0, lI p1, lU] []))
  refine Go.st (fun _ => XS.aloadN X0.here hx rfl (hb hby od11_0) rfl rfl) ?_
  show Go _ _ _ _ (s₁.setTop (mkF m 1 #[lR p0, lI p1, lU] [(.ref p0)]))
  obtain ⟨T1, X1, e1, st1⟩ := getF X0 hx hZ hown (host := "") (Or.inl (ow hw 81 rfl)) Via.refl e0 hp1 (g := (mkF m 1 #[.val (.ref p0), .val (.int p1), .unset] [(.ref p0)])) rfl rfl (hb hby od11_1)
  refine Go.st st1 ?_
  show Go _ _ _ _ (T1.setTop (mkF m 4 #[lR p0, lI p1, lU] [(.ref arr)]))
  refine Go.st (fun _ => own_len X1 hx hZ e1 hp4 (g := (mkF m 4 #[.val (.ref p0), .val (.int p1), .unset] [(.ref arr)])) rfl rfl (hb hby od11_4) _) ?_
  show Go _ _ _ _ (T1.setTop (mkF m 5 #[lR p0, lI p1, lU] [(.int (16 : Int32))]))
  refine Go.st (fun _ => XS.aloadN X1.here hx rfl (hb hby od11_5) rfl rfl) ?_
  show Go _ _ _ _ (T1.setTop (mkF m 6 #[lR p0, lI p1, lU] [(.ref p0), (.int (16 : Int32))]))
  obtain ⟨T2, X2, e2, st2⟩ := getF X1 hx hZ hown (host := "") (Or.inl (ow hw 83 rfl)) Via.refl e1 hp2 (g := (mkF m 6 #[.val (.ref p0), .val (.int p1), .unset] [(.ref p0), (.int (16 : Int32))])) rfl rfl (hb hby od11_6)
  refine Go.st st2 ?_
  show Go _ _ _ _ (T2.setTop (mkF m 9 #[lR p0, lI p1, lU] [(.int (0 : Int32)), (.int (16 : Int32))]))
  refine Go.st (fun _ => XS.ishr X2.here hx rfl (hb hby od11_9) rfl) ?_
  show Go _ _ _ _ (T2.setTop (mkF m 10 #[lR p0, lI p1, lU] [(.int ((16 : Int32) >>> ((0 : Int32) &&& 31)))]))
  rw [show ((16 : Int32) >>> ((0 : Int32) &&& 31)) = (16 : Int32) from own_ishr0 _]
  show Go _ _ _ _ (T2.setTop (mkF m 10 #[lR p0, lI p1, lU] [(.int (16 : Int32))]))
  refine Go.st (fun _ => XS.istoreN X2.here hx rfl (hb hby od11_10) rfl (l' := #[.val (.ref p0), .val (.int p1), .val (.int (16 : Int32))]) rfl) ?_
  show Go _ _ _ _ (T2.setTop (mkF m 11 #[lR p0, lI p1, lI (16 : Int32)] []))
  refine Go.st (fun _ => XS.iloadN X2.here hx rfl (hb hby od11_11) rfl) ?_
  show Go _ _ _ _ (T2.setTop (mkF m 12 #[lR p0, lI p1, lI (16 : Int32)] [(.int p1)]))
  refine Go.st (fun _ => XS.iloadN X2.here hx rfl (hb hby od11_12) rfl) ?_
  show Go _ _ _ _ (T2.setTop (mkF m 13 #[lR p0, lI p1, lI (16 : Int32)] [(.int (16 : Int32)), (.int p1)]))
  refine Go.st (fun _ => XS.isub X2.here hx rfl (hb hby od11_13) rfl) ?_
  show Go _ _ _ _ (T2.setTop (mkF m 14 #[lR p0, lI p1, lI (16 : Int32)] [(.int (p1 - (16 : Int32)))]))
  have hb3 : (0 : Int32) < (p1 - (16 : Int32)) := hgr.1
  refine Go.st (fun _ => XS.ifNo X2.here hx rfl (hb hby od11_14) rfl ((if0 _ _).trans (tlt hb3).2.2.2)) ?_
  show Go _ _ _ _ (T2.setTop (mkF m 17 #[lR p0, lI p1, lI (16 : Int32)] []))
  refine Go.st (fun _ => XS.aloadN X2.here hx rfl (hb hby od11_17) rfl rfl) ?_
  show Go _ _ _ _ (T2.setTop (mkF m 18 #[lR p0, lI p1, lI (16 : Int32)] [(.ref p0)]))
  refine Go.st (fun _ => XS.aloadN X2.here hx rfl (hb hby od11_18) rfl rfl) ?_
  show Go _ _ _ _ (T2.setTop (mkF m 19 #[lR p0, lI p1, lI (16 : Int32)] [(.ref p0), (.ref p0)]))
  obtain ⟨T4, X4, e4, st4⟩ := getF X2 hx hZ hown (host := "") (Or.inl (ow hw 81 rfl)) Via.refl e2 hp1 (g := (mkF m 19 #[.val (.ref p0), .val (.int p1), .val (.int (16 : Int32))] [(.ref p0), (.ref p0)])) rfl rfl (hb hby od11_19)
  refine Go.st st4 ?_
  show Go _ _ _ _ (T4.setTop (mkF m 22 #[lR p0, lI p1, lI (16 : Int32)] [(.ref arr), (.ref p0)]))
  refine Go.st (fun _ => XS.aloadN X4.here hx rfl (hb hby od11_22) rfl rfl) ?_
  show Go _ _ _ _ (T4.setTop (mkF m 23 #[lR p0, lI p1, lI (16 : Int32)] [(.ref p0), (.ref arr), (.ref p0)]))
  refine Go.st (fun _ => XS.iloadN X4.here hx rfl (hb hby od11_23) rfl) ?_
  show Go _ _ _ _ (T4.setTop (mkF m 24 #[lR p0, lI p1, lI (16 : Int32)] [(.int p1), (.ref p0), (.ref arr), (.ref p0)]))
  obtain ⟨cq5, kq5, q5a, q5b, q5c⟩ := isOf hZ e4 hp0
  obtain ⟨_, _, ⟨T5, L5, k5, n5⟩, -, X5, ⟨Lc5, hQ5, l5, y5, z5⟩, st5⟩ := X4.virtualBack hx (y := (⟨"java/lang/AbstractStringBuilder", "newCapacity", "(I)I"⟩ : MethodName)) (z := (⟨"java/lang/AbstractStringBuilder", "newCapacity", "(I)I"⟩ : MethodName)) hown (mvT hZ (ow hw 135 rfl)) (mvT hZ (own_declares (ow hw 136 rfl) (ow hw 139 rfl))) (notFace_of_selects (args := #[]) (mvT hZ (ow hw 138 rfl))) (mvT hZ (ow hw 138 rfl)) (mvT hZ (ow hw 136 rfl)) (by decide) (backOf (W := 2) (rm_newc l Z a0 hw [] g_CS S_CS nz_CS p0 p1 arr ka va h0 n0 X00 hp1 hp2 hp4 hgr) hZ (ow hw 139 rfl) (ow hw 77 rfl) (by decide) (by decide)) q5a q5c (g := (mkF m 24 #[.val (.ref p0), .val (.int p1), .val (.int (16 : Int32))] [(.int p1), (.ref p0), (.ref arr), (.ref p0)])) rfl (by rw [hml]; rfl) (Steps.refl _) (argsL := [(.int p1)]) (rest := [(.ref arr), (.ref p0)]) (lenOf own_pd13 rfl) rfl (by show 2 * 0 + _ ≤ _; exact Nat.le_of_eq rfl) (hb hby od11_24) (fun _ _ => ⟨rfl, e4, (by decide : 0 + 0 ≤ _), (by decide : 0 + 0 ≤ _)⟩)
  dsimp only [Pt.U, Pt.locs, Pt.cells, Pt.slots] at X5 l5 y5 z5 st5 hQ5
  subst y5 z5
  refine Go.tr st5 ?_
  obtain ⟨rfl, N5q, e5⟩ := hQ5
  have N5 : Fr n0 L5 := by rw [l5]; exact Fr.app N0 N5q
  show Go _ _ _ _ (T5.setTop (mkF m 27 #[lR p0, lI p1, lI (16 : Int32)] [(.int (34 : Int32)), (.ref arr), (.ref p0)]))
  refine Go.st (fun _ => XS.aloadN X5.here hx rfl (hb hby od11_27) rfl rfl) ?_
  show Go _ _ _ _ (T5.setTop (mkF m 28 #[lR p0, lI p1, lI (16 : Int32)] [(.ref p0), (.int (34 : Int32)), (.ref arr), (.ref p0)]))
  obtain ⟨T6, X6, e6, st6⟩ := getF X5 hx hZ hown (host := "") (Or.inl (ow hw 83 rfl)) Via.refl e5 hp2 (g := (mkF m 28 #[.val (.ref p0), .val (.int p1), .val (.int (16 : Int32))] [(.ref p0), (.int (34 : Int32)), (.ref arr), (.ref p0)])) rfl rfl (hb hby od11_28)
  refine Go.st st6 ?_
  show Go _ _ _ _ (T6.setTop (mkF m 31 #[lR p0, lI p1, lI (16 : Int32)] [(.int (0 : Int32)), (.int (34 : Int32)), (.ref arr), (.ref p0)]))
  refine Go.st (fun _ => XS.ishl X6.here hx rfl (hb hby od11_31) rfl) ?_
  show Go _ _ _ _ (T6.setTop (mkF m 32 #[lR p0, lI p1, lI (16 : Int32)] [(.int ((34 : Int32) <<< ((0 : Int32) &&& 31))), (.ref arr), (.ref p0)]))
  rw [show ((34 : Int32) <<< ((0 : Int32) &&& 31)) = (34 : Int32) from own_ishl0 _]
  show Go _ _ _ _ (T6.setTop (mkF m 32 #[lR p0, lI p1, lI (16 : Int32)] [(.int (34 : Int32)), (.ref arr), (.ref p0)]))
  obtain ⟨_, _, ⟨T7, L7, k7, n7⟩, -, X7, ⟨Lc7, hQ7, l7, y7, z7⟩, st7⟩ := Jvm.LawKit.callS X6 hx (y := (⟨"java/util/Arrays", "copyOf", "([BI)[B"⟩ : MethodName)) hown (mvT hZ (ow hw 150 rfl)) (mvT hZ (ow hw 151 rfl)) (mvT hZ (ow hw 152 rfl)) (mvT hZ (ow hw 153 rfl)) (by decide) (backOf (W := 1) (rm_cpof l Z a0 hw [] g_CS S_CS nz_CS arr ka va h0 n0 X00 hp4 hvl) hZ (ow hw 153 rfl) (ow hw 152 rfl) (by decide) (by decide)) (g := (mkF m 32 #[.val (.ref p0), .val (.int p1), .val (.int (16 : Int32))] [(.int (34 : Int32)), (.ref arr), (.ref p0)])) rfl (by rw [hml]; rfl) (argsL := [(.ref arr), (.int (34 : Int32))]) (rest := [(.ref p0)]) (lenOf own_pd14 rfl) rfl (by show 2 * 0 + _ ≤ _; exact Nat.le_of_eq rfl) (hb hby od11_32) (fun _ _ => ⟨rfl, e6, (by decide : 0 + 1 ≤ _), (by decide : 0 + 34 ≤ _)⟩)
  dsimp only [Pt.U, Pt.locs, Pt.cells, Pt.slots] at X7 l7 y7 z7 st7 hQ7
  subst y7 z7
  refine Go.st st7 ?_
  obtain ⟨ob_8, kb_9, rfl, N7q, K7q, q7_0, q7_1, q7_2⟩ := hQ7
  have N7 : Fr n0 L7 := by rw [l7]; exact Fr.app N5 N7q
  have O7 := X00.keep K7q all0
  have K7 : Keep h0 T7.heap [p0] := (Keep.refl h0 [p0]).trans K7q all0
  have sz_ob_8 : h0.size ≤ ob_8 := Nat.le_trans (Keep.refl h0 [p0]).1 q7_0
  have g_ob_8 : n0 ≤ ob_8 := Nat.le_trans (own_oldsz X00) sz_ob_8
  show Go _ _ _ _ (T7.setTop (mkF m 35 #[lR p0, lI p1, lI (16 : Int32)] [(.ref ob_8), (.ref p0)]))
  have c10 := (hp1.keep K7q nin0)
  have c11 := (hp0.keep K7q)
  obtain ⟨T12, h12, X12, e12, W12, st12⟩ := putF X7 hx hZ hown (host := "") (Or.inl (ow hw 81 rfl)) Via.refl rfl c10 c11 (Or.inl (ow hw 82 rfl)) (ow hw 68 rfl) (ty := (.array .byte)) (by decide) rfl rfl (g := (mkF m 35 #[.val (.ref p0), .val (.int p1), .val (.int (16 : Int32))] [(.ref ob_8), (.ref p0)])) rfl rfl (hb hby od11_35)
  refine Go.st st12 ?_
  have K12 : Keep h0 h12 [p0] := K7.wr W12 (Or.inl (List.mem_of_getElem? (i := 0) rfl))
  have O12 := O7.wr W12 hp5
  have N12 := Fr.snoc X12 N7 hp5
  have F12 := c10.same W12
  show Go _ _ _ _ (T12.setTop (mkF m 38 #[lR p0, lI p1, lI (16 : Int32)] []))
  obtain ⟨fs, hr, hrun, hended, hW, hsame⟩ := X12.leave (v := none) (fun _ => rfl)
  refine ⟨_, ?_, hPend _ _ hrun hended ⟨_, _, rfl, ?_, ⟨_, rfl⟩, hW, hsame.mono (by decide) (by decide)⟩⟩
  · exact X12.returnOut hx Bd.returns (hb hby od11_38) hr
  · show Q_rm_ensg Z _ _ _ _ _ _ _ h0 n0 _ T12.heap _
    rw [e12]
    have c13 := (c11.wr W12)
    have c14 := ((hp2.keep K7q nin0).other W12 (Or.inr (slot_ne (Or.inl (ow hw 84 rfl)) (Or.inl (ow hw 82 rfl)) (by decide) (t := .byte) (t' := (.array .byte)) (by decide) (by decide))))
    have c15 := ((hp3.keep K7q nin0).other W12 (Or.inr (slot_ne (Or.inl (ow hw 107 rfl)) (Or.inl (ow hw 82 rfl)) (by decide) (t := .int) (t' := (.array .byte)) (by decide) (by decide))))
    have c16 := (q7_1.wr W12)
    have c17 := (q7_2.other W12 (Ne.symm (Nat.ne_of_lt (Nat.lt_of_lt_of_le hp0.lt q7_0))))
    exact ⟨ob_8, kb_9, rfl, N12, K12, sz_ob_8, c13, F12, c14, c15, c16, c17⟩
theorem own_ef_rm_appg (m : MethodId) (x0 : Addr) (x1 : Addr) : entryFrame m #[(.ref x0), (.ref x1)] 3 = mkF m 0 #[.val (.ref x0), .val (.ref x1), .unset] [] := by first | (simp [entryFrame, mkF, argsToLocals, Value.category]; done) | rfl
def Q_rm_appg (Z : State) (g_CS : Int32) (p0 : Addr) (p1 : Addr) (pcs : List Int32) (arr : Addr) (ka : ClassId) (qcs : List Int32) (qv : Addr) (qk : ClassId) (h0 : Heap) (n0 : Nat) (v : Option Value) (h : Heap) (L : List Loc) : Prop := ∃ (ob : Addr) (kb : ClassId), v = some (.ref p0) ∧ Fr n0 L ∧ Keep h0 h [p0] ∧ h0.size ≤ ob ∧ Exa Z h p0 "java/lang/StringBuilder" ∧ Fld Z h p0 "java/lang/AbstractStringBuilder" "value" "[B" (.ref ob) ∧ Fld Z h p0 "java/lang/AbstractStringBuilder" "coder" "B" (.int (0 : Int32)) ∧ Fld Z h p0 "java/lang/AbstractStringBuilder" "count" "I" (.int (Int32.ofNat (pcs ++ qcs).length)) ∧ Exa Z h ob "[B" ∧ Arv Z h ob kb .byte (34 : Int32) (((pcs ++ qcs).map StrChars.lo8).map Value.int) (.int (0 : Int32))
set_option maxRecDepth 65536 in
set_option maxHeartbeats 40000000 in
theorem rm_appg (l : Launch) (Z : State) (a0 : Array Value) (hw : ∀ d ∈ tables_1, d.before a0 Z = true) (ws : List Jvm.Cond) (g_CS : Int32) (S_CS : Sta Z Z.heap "java/lang/String" "COMPACT_STRINGS" "Z" (.int g_CS)) (nz_CS : ¬ (g_CS = (0 : Int32))) (p0 : Addr) (p1 : Addr) (pcs : List Int32) (arr : Addr) (ka : ClassId) (qcs : List Int32) (qv : Addr) (qk : ClassId) (h0 : Heap) (n0 : Nat) (X00 : Old Z n0 h0) (hp0 : Exa Z h0 p0 "java/lang/StringBuilder") (hp1 : Fld Z h0 p0 "java/lang/AbstractStringBuilder" "value" "[B" (.ref arr)) (hp2 : Fld Z h0 p0 "java/lang/AbstractStringBuilder" "coder" "B" (.int (0 : Int32))) (hp3 : Fld Z h0 p0 "java/lang/AbstractStringBuilder" "count" "I" (.int (Int32.ofNat pcs.length))) (hp4 : Exa Z h0 arr "[B") (hp5 : Arv Z h0 arr ka .byte (16 : Int32) ((pcs.map StrChars.lo8).map Value.int) (.int (0 : Int32))) (hp6 : n0 ≤ p0) (hp7 : n0 ≤ arr) (hp8 : Exa Z h0 p1 "java/lang/String") (hp9 : Fld Z h0 p1 "java/lang/String" "coder" "B" (.int (0 : Int32))) (hp10 : Fld Z h0 p1 "java/lang/String" "value" "[B" (.ref qv)) (hp11 : Arv Z h0 qv qk .byte (Int32.ofNat qcs.length) ((qcs.map StrChars.lo8).map Value.int) (.int (0 : Int32))) (hpcq : ∀ c ∈ qcs, ¬ c < 0 ∧ ¬ (255 : Int32) < c) (hleq : qcs.length ≤ 4000) (hpl : pcs.length ≤ 16) (hg1 : 16 < (pcs ++ qcs).length) (hg2 : (pcs ++ qcs).length < 34) :
    MetFree l (⟨"java/lang/AbstractStringBuilder", "append", "(Ljava/lang/String;)Ljava/lang/AbstractStringBuilder;"⟩ : MethodName) (head1 (Jvm.Cond.code (⟨"java/lang/AbstractStringBuilder", "append", "(Ljava/lang/String;)Ljava/lang/AbstractStringBuilder;"⟩ : MethodName) jdk_68_method_22_code 3 (some (.object "java/lang/AbstractStringBuilder")) :: ws) ({ frames := 4, cells := 1, slots := 34, locals := 62 } : Room)) (fun a U => a = #[(.ref p0), (.ref p1)] ∧ Z.Warmed39 U.vm ∧ U.heap = h0) (fun _ _ _ _ _ => True) (fun _ U o U' => ∃ v L, o = .returned v ∧ Q_rm_appg Z g_CS p0 p1 pcs arr ka qcs qv qk h0 n0 v U'.heap L ∧ FrameEnd U o U' L ({ frames := 4, cells := 1, slots := 34, locals := 62 } : Room).cells ({ frames := 4, cells := 1, slots := 34, locals := 62 } : Room).slots) := by
  refine MetFree.of_bodySF (plainFor_of_name own_pn4) hisR ?_
  intro p e s m args below meth c s₁ Bd hml0 hP hK
  obtain ⟨rfl, hZ, hh⟩ := hP
  have hx := Bd.exec
  have hby := Bd.bytes
  have hml : c.maxLocals = 3 := hml0
  have hown : s.vm.findClass "java/lang/AbstractStringBuilder" = some m.cls := findClass_of_methodNamed Bd.named
  have hnm := (name_of_methodNamed Bd.named Bd.method).1
  have X0 : Stand p l e ({ frames := 4, cells := 1, slots := 34, locals := 62 } : Room) s m #[(.ref p0), (.ref p1)] below meth c s₁ [] 0 0 := Stand.of_body Bd
  have e0 : s₁.heap = h0 := by rw [← hh, Bd.state]; rfl
  have N0 := Fr.nil n0
  refine Go.start fun P hPend => ?_
  refine Go.st (fun _ k => castTop (own_ef_rm_appg m p0 p1) k) ?_
  show Go _ _ _ _ (s₁.setTop (mkF m 0 #[lR p0, lR p1, lU] []))
  refine Go.st (fun _ => XS.aloadN X0.here hx rfl (hb hby od15_0) rfl rfl) ?_
  show Go _ _ _ _ (s₁.setTop (mkF m 1 #[lR p0, lR p1, lU] [(.ref p1)]))
  refine Go.st (fun _ => XS.ifnonnullYes X0.here hx rfl (pc0 := 1) (pc' := 9) rfl (hb hby od15_1) rfl (by decide) (by decide)) ?_
  show Go _ _ _ _ (s₁.setTop (mkF m 9 #[lR p0, lR p1, lU] []))
  refine Go.st (fun _ => XS.aloadN X0.here hx rfl (hb hby od15_9) rfl rfl) ?_
  show Go _ _ _ _ (s₁.setTop (mkF m 10 #[lR p0, lR p1, lU] [(.ref p1)]))
  have hcd1 : StrChars.Road.CodA qcs 0 (Int32.ofNat qcs.length) ((qcs.map StrChars.lo8).map Value.int) := StrChars.Road.codOf (n := qcs.length) rfl (fun c hc => (hpcq c hc).2)
  obtain ⟨cq1, kq1, q1a, q1b, q1c⟩ := isOf hZ e0 hp8
  obtain ⟨_, _, ⟨T1, L1, k1, n1⟩, -, X1, ⟨Lc1, hQ1, l1, y1, z1⟩, st1⟩ := X0.virtualBack hx (y := (⟨"java/lang/String", "length", "()I"⟩ : MethodName)) (z := (⟨"java/lang/String", "length", "()I"⟩ : MethodName)) hown (mvT hZ (ow hw 96 rfl)) (mvT hZ (ow hw 97 rfl)) (notFace_of_selects (args := #[]) (mvT hZ (ow hw 99 rfl))) (mvT hZ (ow hw 99 rfl)) (mvT hZ (ow hw 98 rfl)) (by decide) (StrChars.Road.lenW (W := 0) hZ (fun d hd => hw d (own_wLen d hd)) (kI := 4) (ow hw 5 rfl) hp8 hp10 hp9 hp11 hcd1 (own_up _ hpcq) (S_CS.ext X00.2) nz_CS hleq (by decide) (by decide)) q1a q1c (g := (mkF m 10 #[.val (.ref p0), .val (.ref p1), .unset] [(.ref p1)])) rfl (by rw [hml]; rfl) (Steps.refl _) (argsL := []) (rest := []) (lenOf own_pd8 rfl) rfl (by show 2 * 0 + _ ≤ _; exact Nat.le_of_eq rfl) (hb hby od15_10) (fun _ _ => ⟨rfl, e0, (by decide : 0 + 0 ≤ _), (by decide : 0 + 0 ≤ _)⟩)
  dsimp only [Pt.U, Pt.locs, Pt.cells, Pt.slots] at X1 l1 y1 z1 st1 hQ1
  subst y1 z1
  refine Go.tr st1 ?_
  obtain ⟨rfl, rfl, e1⟩ := hQ1
  have N1 : Fr n0 L1 := by rw [l1]; exact Fr.app N0 (Fr.nil n0)
  show Go _ _ _ _ (T1.setTop (mkF m 13 #[lR p0, lR p1, lU] [(.int (Int32.ofNat qcs.length))]))
  refine Go.st (fun _ => XS.istoreN X1.here hx rfl (hb hby od15_13) rfl (l' := #[.val (.ref p0), .val (.ref p1), .val (.int (Int32.ofNat qcs.length))]) rfl) ?_
  show Go _ _ _ _ (T1.setTop (mkF m 14 #[lR p0, lR p1, lI (Int32.ofNat qcs.length)] []))
  refine Go.st (fun _ => XS.aloadN X1.here hx rfl (hb hby od15_14) rfl rfl) ?_
  show Go _ _ _ _ (T1.setTop (mkF m 15 #[lR p0, lR p1, lI (Int32.ofNat qcs.length)] [(.ref p0)]))
  refine Go.st (fun _ => XS.aloadN X1.here hx rfl (hb hby od15_15) rfl rfl) ?_
  show Go _ _ _ _ (T1.setTop (mkF m 16 #[lR p0, lR p1, lI (Int32.ofNat qcs.length)] [(.ref p0), (.ref p0)]))
  obtain ⟨T2, X2, e2, st2⟩ := getF X1 hx hZ hown (host := "") (Or.inl (ow hw 106 rfl)) Via.refl e1 hp3 (g := (mkF m 16 #[.val (.ref p0), .val (.ref p1), .val (.int (Int32.ofNat qcs.length))] [(.ref p0), (.ref p0)])) rfl rfl (hb hby od15_16)
  refine Go.st st2 ?_
  show Go _ _ _ _ (T2.setTop (mkF m 19 #[lR p0, lR p1, lI (Int32.ofNat qcs.length)] [(.int (Int32.ofNat pcs.length)), (.ref p0)]))
  refine Go.st (fun _ => XS.iloadN X2.here hx rfl (hb hby od15_19) rfl) ?_
  show Go _ _ _ _ (T2.setTop (mkF m 20 #[lR p0, lR p1, lI (Int32.ofNat qcs.length)] [(.int (Int32.ofNat qcs.length)), (.int (Int32.ofNat pcs.length)), (.ref p0)]))
  refine Go.st (fun _ => XS.iadd X2.here hx rfl (hb hby od15_20) rfl) ?_
  show Go _ _ _ _ (T2.setTop (mkF m 21 #[lR p0, lR p1, lI (Int32.ofNat qcs.length)] [(.int ((Int32.ofNat pcs.length) + (Int32.ofNat qcs.length))), (.ref p0)]))
  rw [own_lenapp pcs qcs]
  show Go _ _ _ _ (T2.setTop (mkF m 21 #[lR p0, lR p1, lI (Int32.ofNat qcs.length)] [(.int (Int32.ofNat (pcs ++ qcs).length)), (.ref p0)]))
  obtain ⟨cq3, kq3, q3a, q3b, q3c⟩ := isOf hZ e2 hp0
  obtain ⟨_, _, ⟨T3, L3, k3, n3⟩, -, X3, ⟨Lc3, hQ3, l3, y3, z3⟩, st3⟩ := X2.virtualBack hx (y := (⟨"java/lang/AbstractStringBuilder", "ensureCapacityInternal", "(I)V"⟩ : MethodName)) (z := (⟨"java/lang/AbstractStringBuilder", "ensureCapacityInternal", "(I)V"⟩ : MethodName)) hown (mvT hZ (ow hw 108 rfl)) (mvT hZ (own_declares (ow hw 109 rfl) (ow hw 112 rfl))) (notFace_of_selects (args := #[]) (mvT hZ (ow hw 111 rfl))) (mvT hZ (ow hw 111 rfl)) (mvT hZ (ow hw 109 rfl)) (by decide) (backOf (W := 0) (rm_ensg l Z a0 hw [] g_CS S_CS nz_CS p0 (Int32.ofNat (pcs ++ qcs).length) arr ka ((pcs.map StrChars.lo8).map Value.int) (Int32.ofNat pcs.length) h0 n0 X00 hp0 hp1 hp2 hp3 hp5 hp6 (own_grow hg1 hg2) (by rw [List.length_map, List.length_map]; exact hpl)) hZ (ow hw 112 rfl) (ow hw 77 rfl) (by decide) (by decide)) q3a q3c (g := (mkF m 21 #[.val (.ref p0), .val (.ref p1), .val (.int (Int32.ofNat qcs.length))] [(.int (Int32.ofNat (pcs ++ qcs).length)), (.ref p0)])) rfl (by rw [hml]; rfl) (Steps.refl _) (argsL := [(.int (Int32.ofNat (pcs ++ qcs).length))]) (rest := []) (lenOf own_pd4 rfl) rfl (by show 2 * 0 + _ ≤ _; exact Nat.le_of_eq rfl) (hb hby od15_21) (fun _ _ => ⟨rfl, e2, (by decide : 0 + 1 ≤ _), (by decide : 0 + 34 ≤ _)⟩)
  dsimp only [Pt.U, Pt.locs, Pt.cells, Pt.slots] at X3 l3 y3 z3 st3 hQ3
  subst y3 z3
  refine Go.tr st3 ?_
  obtain ⟨ob_4, kb_5, rfl, N3q, K3q, q3_0, q3_1, q3_2, q3_3, q3_4, q3_5, q3_6⟩ := hQ3
  have N3 : Fr n0 L3 := by rw [l3]; exact Fr.app N1 N3q
  have O3 := X00.keep K3q (allS hp6 all0)
  have K3 : Keep h0 T3.heap [p0] := (Keep.refl h0 [p0]).trans K3q (allS (Or.inl (List.mem_of_getElem? (i := 0) rfl)) all0)
  have sz_ob_4 : h0.size ≤ ob_4 := Nat.le_trans (Keep.refl h0 [p0]).1 q3_0
  have g_ob_4 : n0 ≤ ob_4 := Nat.le_trans (own_oldsz X00) sz_ob_4
  show Go _ _ _ _ (T3.setTop (mkF m 24 #[lR p0, lR p1, lI (Int32.ofNat qcs.length)] []))
  refine Go.st (fun _ => XS.aloadN X3.here hx rfl (hb hby od15_24) rfl rfl) ?_
  show Go _ _ _ _ (T3.setTop (mkF m 25 #[lR p0, lR p1, lI (Int32.ofNat qcs.length)] [(.ref p0)]))
  refine Go.st (fun _ => XS.aloadN X3.here hx rfl (hb hby od15_25) rfl rfl) ?_
  show Go _ _ _ _ (T3.setTop (mkF m 26 #[lR p0, lR p1, lI (Int32.ofNat qcs.length)] [(.ref p0), (.ref p0)]))
  obtain ⟨T6, X6, e6, st6⟩ := getF X3 hx hZ hown (host := "") (Or.inl (ow hw 106 rfl)) Via.refl rfl q3_4 (g := (mkF m 26 #[.val (.ref p0), .val (.ref p1), .val (.int (Int32.ofNat qcs.length))] [(.ref p0), (.ref p0)])) rfl rfl (hb hby od15_26)
  refine Go.st st6 ?_
  show Go _ _ _ _ (T6.setTop (mkF m 29 #[lR p0, lR p1, lI (Int32.ofNat qcs.length)] [(.int (Int32.ofNat pcs.length)), (.ref p0)]))
  refine Go.st (fun _ => XS.aloadN X6.here hx rfl (hb hby od15_29) rfl rfl) ?_
  show Go _ _ _ _ (T6.setTop (mkF m 30 #[lR p0, lR p1, lI (Int32.ofNat qcs.length)] [(.ref p1), (.int (Int32.ofNat pcs.length)), (.ref p0)]))
  have c8 := (hp8.keep K3q)
  have c9 := (hp9.keep K3q (ninS (Exa.ne hp8 hp0 (by decide)) nin0))
  have c10 := (hp10.keep K3q (ninS (Exa.ne hp8 hp0 (by decide)) nin0))
  have c11 := (hp11.keep K3q (ninS (Ne.symm (Exa.neArv hp0 hp11 (ow hw 68 rfl))) nin0))
  have c12 := (hp4.keep K3q)
  obtain ⟨cq7, kq7, q7a, q7b, q7c⟩ := isOf hZ e6 q3_1
  obtain ⟨_, _, ⟨T7, L7, k7, n7⟩, -, X7, ⟨Lc7, hQ7, l7, y7, z7⟩, st7⟩ := X6.virtualBack hx (y := (⟨"java/lang/AbstractStringBuilder", "putStringAt", "(ILjava/lang/String;)V"⟩ : MethodName)) (z := (⟨"java/lang/AbstractStringBuilder", "putStringAt", "(ILjava/lang/String;)V"⟩ : MethodName)) hown (mvT hZ (ow hw 113 rfl)) (mvT hZ (own_declares (ow hw 114 rfl) (ow hw 117 rfl))) (notFace_of_selects (args := #[]) (mvT hZ (ow hw 116 rfl))) (mvT hZ (ow hw 116 rfl)) (mvT hZ (ow hw 114 rfl)) (by decide) (backOf (W := 0) (rm_puts l Z a0 hw [] g_CS S_CS nz_CS p0 (Int32.ofNat pcs.length) p1 pcs ob_4 kb_5 (34 : Int32) qcs qv qk T3.heap n0 O3 q3_1 q3_2 q3_3 q3_5 q3_6 g_ob_4 c8 c9 c10 c11 hpcq hleq rfl (Nat.le_of_lt hg2)) hZ (ow hw 117 rfl) (ow hw 77 rfl) (by decide) (by decide)) q7a q7c (g := (mkF m 30 #[.val (.ref p0), .val (.ref p1), .val (.int (Int32.ofNat qcs.length))] [(.ref p1), (.int (Int32.ofNat pcs.length)), (.ref p0)])) rfl (by rw [hml]; rfl) (Steps.refl _) (argsL := [(.int (Int32.ofNat pcs.length)), (.ref p1)]) (rest := []) (lenOf own_pd9 rfl) rfl (by show 2 * 0 + _ ≤ _; exact Nat.le_of_eq rfl) (hb hby od15_30) (fun _ _ => ⟨rfl, e6, (by decide : 1 + 0 ≤ _), (by decide : 34 + 0 ≤ _)⟩)
  dsimp only [Pt.U, Pt.locs, Pt.cells, Pt.slots] at X7 l7 y7 z7 st7 hQ7
  subst y7 z7
  refine Go.tr st7 ?_
  obtain ⟨rfl, N7q, K7q, q7_0⟩ := hQ7
  have N7 : Fr n0 L7 := by rw [l7]; exact Fr.app N3 N7q
  have O7 := O3.keep K7q (allS g_ob_4 all0)
  have K7 : Keep h0 T7.heap [p0] := K3.trans K7q (allS (Or.inr sz_ob_4) all0)
  show Go _ _ _ _ (T7.setTop (mkF m 33 #[lR p0, lR p1, lI (Int32.ofNat qcs.length)] []))
  refine Go.st (fun _ => XS.aloadN X7.here hx rfl (hb hby od15_33) rfl rfl) ?_
  show Go _ _ _ _ (T7.setTop (mkF m 34 #[lR p0, lR p1, lI (Int32.ofNat qcs.length)] [(.ref p0)]))
  refine Go.st (fun _ => XS.dup X7.here hx rfl (hb hby od15_34) rfl rfl) ?_
  show Go _ _ _ _ (T7.setTop (mkF m 35 #[lR p0, lR p1, lI (Int32.ofNat qcs.length)] [(.ref p0), (.ref p0)]))
  have c13 := (q3_4.keep K7q (ninS (Nat.ne_of_lt (Nat.lt_of_lt_of_le hp0.lt q3_0)) nin0))
  obtain ⟨T14, X14, e14, st14⟩ := getF X7 hx hZ hown (host := "") (Or.inl (ow hw 106 rfl)) Via.refl rfl c13 (g := (mkF m 35 #[.val (.ref p0), .val (.ref p1), .val (.int (Int32.ofNat qcs.length))] [(.ref p0), (.ref p0)])) rfl rfl (hb hby od15_35)
  refine Go.st st14 ?_
  show Go _ _ _ _ (T14.setTop (mkF m 38 #[lR p0, lR p1, lI (Int32.ofNat qcs.length)] [(.int (Int32.ofNat pcs.length)), (.ref p0)]))
  refine Go.st (fun _ => XS.iloadN X14.here hx rfl (hb hby od15_38) rfl) ?_
  show Go _ _ _ _ (T14.setTop (mkF m 39 #[lR p0, lR p1, lI (Int32.ofNat qcs.length)] [(.int (Int32.ofNat qcs.length)), (.int (Int32.ofNat pcs.length)), (.ref p0)]))
  refine Go.st (fun _ => XS.iadd X14.here hx rfl (hb hby od15_39) rfl) ?_
  show Go _ _ _ _ (T14.setTop (mkF m 40 #[lR p0, lR p1, lI (Int32.ofNat qcs.length)] [(.int ((Int32.ofNat pcs.length) + (Int32.ofNat qcs.length))), (.ref p0)]))
  rw [own_lenapp pcs qcs]
  show Go _ _ _ _ (T14.setTop (mkF m 40 #[lR p0, lR p1, lI (Int32.ofNat qcs.length)] [(.int (Int32.ofNat (pcs ++ qcs).length)), (.ref p0)]))
  have c15 := (q3_1.keep K7q)
  obtain ⟨T16, h16, X16, e16, W16, st16⟩ := putF X14 hx hZ hown (host := "") (Or.inl (ow hw 106 rfl)) Via.refl e14 c13 c15 (Or.inl (ow hw 107 rfl)) (ow hw 68 rfl) (ty := .int) (by decide) rfl rfl (g := (mkF m 40 #[.val (.ref p0), .val (.ref p1), .val (.int (Int32.ofNat qcs.length))] [(.int (Int32.ofNat (pcs ++ qcs).length)), (.ref p0)])) rfl rfl (hb hby od15_40)
  refine Go.st st16 ?_
  have K16 : Keep h0 h16 [p0] := K7.wr W16 (Or.inl (List.mem_of_getElem? (i := 0) rfl))
  have O16 := O7.wr W16 hp6
  have N16 := Fr.snoc X16 N7 hp6
  have F16 := c13.same W16
  show Go _ _ _ _ (T16.setTop (mkF m 43 #[lR p0, lR p1, lI (Int32.ofNat qcs.length)] []))
  refine Go.st (fun _ => XS.aloadN X16.here hx rfl (hb hby od15_43) rfl rfl) ?_
  show Go _ _ _ _ (T16.setTop (mkF m 44 #[lR p0, lR p1, lI (Int32.ofNat qcs.length)] [(.ref p0)]))
  obtain ⟨fs, hr, hrun, hended, hW, hsame⟩ := X16.leave (v := some (.ref p0)) (fun h => by rw [Bd.returns] at h; cases h)
  refine ⟨_, ?_, hPend _ _ hrun hended ⟨_, _, rfl, ?_, ⟨_, rfl⟩, hW, hsame.mono (by decide) (by decide)⟩⟩
  · exact retOut X16 hx (t := (.object "java/lang/AbstractStringBuilder")) Bd.returns rfl (Or.inr (Or.inr (Or.inr (Or.inr ⟨rfl, rfl, rfl⟩)))) (hb hby od15_44) hr
  · show Q_rm_appg Z _ _ _ _ _ _ _ _ _ h0 n0 _ T16.heap _
    rw [e16]
    have c17 := (c15.wr W16)
    have c18 := ((q3_2.keep K7q (ninS (Nat.ne_of_lt (Nat.lt_of_lt_of_le hp0.lt q3_0)) nin0)).other W16 (Or.inr (slot_ne (Or.inl (ow hw 82 rfl)) (Or.inl (ow hw 107 rfl)) (by decide) (t := (.array .byte)) (t' := .int) (by decide) (by decide))))
    have c19 := ((q3_3.keep K7q (ninS (Nat.ne_of_lt (Nat.lt_of_lt_of_le hp0.lt q3_0)) nin0)).other W16 (Or.inr (slot_ne (Or.inl (ow hw 84 rfl)) (Or.inl (ow hw 107 rfl)) (by decide) (t := .byte) (t' := .int) (by decide) (by decide))))
    have c20 := ((q3_5.keep K7q).wr W16)
    have c21 := (q7_0.other W16 (Ne.symm (Nat.ne_of_lt (Nat.lt_of_lt_of_le hp0.lt q3_0))))
    exact ⟨ob_4, kb_5, rfl, N16, K16, sz_ob_4, c17, c18, c19, F16, c20, c21⟩
theorem own_ef_rm_sapg (m : MethodId) (x0 : Addr) (x1 : Addr) : entryFrame m #[(.ref x0), (.ref x1)] 2 = mkF m 0 #[.val (.ref x0), .val (.ref x1)] [] := by first | (simp [entryFrame, mkF, argsToLocals, Value.category]; done) | rfl
def Q_rm_sapg (Z : State) (g_CS : Int32) (p0 : Addr) (p1 : Addr) (pcs : List Int32) (arr : Addr) (ka : ClassId) (qcs : List Int32) (qv : Addr) (qk : ClassId) (h0 : Heap) (n0 : Nat) (v : Option Value) (h : Heap) (L : List Loc) : Prop := ∃ (ob : Addr) (kb : ClassId), v = some (.ref p0) ∧ Fr n0 L ∧ Keep h0 h [p0] ∧ h0.size ≤ ob ∧ Exa Z h p0 "java/lang/StringBuilder" ∧ Fld Z h p0 "java/lang/AbstractStringBuilder" "value" "[B" (.ref ob) ∧ Fld Z h p0 "java/lang/AbstractStringBuilder" "coder" "B" (.int (0 : Int32)) ∧ Fld Z h p0 "java/lang/AbstractStringBuilder" "count" "I" (.int (Int32.ofNat (pcs ++ qcs).length)) ∧ Exa Z h ob "[B" ∧ Arv Z h ob kb .byte (34 : Int32) (((pcs ++ qcs).map StrChars.lo8).map Value.int) (.int (0 : Int32))
set_option maxRecDepth 65536 in
set_option maxHeartbeats 40000000 in
theorem rm_sapg (l : Launch) (Z : State) (a0 : Array Value) (hw : ∀ d ∈ tables_1, d.before a0 Z = true) (ws : List Jvm.Cond) (g_CS : Int32) (S_CS : Sta Z Z.heap "java/lang/String" "COMPACT_STRINGS" "Z" (.int g_CS)) (nz_CS : ¬ (g_CS = (0 : Int32))) (p0 : Addr) (p1 : Addr) (pcs : List Int32) (arr : Addr) (ka : ClassId) (qcs : List Int32) (qv : Addr) (qk : ClassId) (h0 : Heap) (n0 : Nat) (X00 : Old Z n0 h0) (hp0 : Exa Z h0 p0 "java/lang/StringBuilder") (hp1 : Fld Z h0 p0 "java/lang/AbstractStringBuilder" "value" "[B" (.ref arr)) (hp2 : Fld Z h0 p0 "java/lang/AbstractStringBuilder" "coder" "B" (.int (0 : Int32))) (hp3 : Fld Z h0 p0 "java/lang/AbstractStringBuilder" "count" "I" (.int (Int32.ofNat pcs.length))) (hp4 : Exa Z h0 arr "[B") (hp5 : Arv Z h0 arr ka .byte (16 : Int32) ((pcs.map StrChars.lo8).map Value.int) (.int (0 : Int32))) (hp6 : n0 ≤ p0) (hp7 : n0 ≤ arr) (hp8 : Exa Z h0 p1 "java/lang/String") (hp9 : Fld Z h0 p1 "java/lang/String" "coder" "B" (.int (0 : Int32))) (hp10 : Fld Z h0 p1 "java/lang/String" "value" "[B" (.ref qv)) (hp11 : Arv Z h0 qv qk .byte (Int32.ofNat qcs.length) ((qcs.map StrChars.lo8).map Value.int) (.int (0 : Int32))) (hpcq : ∀ c ∈ qcs, ¬ c < 0 ∧ ¬ (255 : Int32) < c) (hleq : qcs.length ≤ 4000) (hpl : pcs.length ≤ 16) (hg1 : 16 < (pcs ++ qcs).length) (hg2 : (pcs ++ qcs).length < 34) :
    MetFree l (⟨"java/lang/StringBuilder", "append", "(Ljava/lang/String;)Ljava/lang/StringBuilder;"⟩ : MethodName) (head1 (Jvm.Cond.code (⟨"java/lang/StringBuilder", "append", "(Ljava/lang/String;)Ljava/lang/StringBuilder;"⟩ : MethodName) jdk_67_method_7_code 2 (some (.object "java/lang/StringBuilder")) :: ws) ({ frames := 5, cells := 1, slots := 34, locals := 76 } : Room)) (fun a U => a = #[(.ref p0), (.ref p1)] ∧ Z.Warmed39 U.vm ∧ U.heap = h0) (fun _ _ _ _ _ => True) (fun _ U o U' => ∃ v L, o = .returned v ∧ Q_rm_sapg Z g_CS p0 p1 pcs arr ka qcs qv qk h0 n0 v U'.heap L ∧ FrameEnd U o U' L ({ frames := 5, cells := 1, slots := 34, locals := 76 } : Room).cells ({ frames := 5, cells := 1, slots := 34, locals := 76 } : Room).slots) := by
  refine MetFree.of_bodySF (plainFor_of_name own_pn5) hisR ?_
  intro p e s m args below meth c s₁ Bd hml0 hP hK
  obtain ⟨rfl, hZ, hh⟩ := hP
  have hx := Bd.exec
  have hby := Bd.bytes
  have hml : c.maxLocals = 2 := hml0
  have hown : s.vm.findClass "java/lang/StringBuilder" = some m.cls := findClass_of_methodNamed Bd.named
  have hnm := (name_of_methodNamed Bd.named Bd.method).1
  have X0 : Stand p l e ({ frames := 5, cells := 1, slots := 34, locals := 76 } : Room) s m #[(.ref p0), (.ref p1)] below meth c s₁ [] 0 0 := Stand.of_body Bd
  have e0 : s₁.heap = h0 := by rw [← hh, Bd.state]; rfl
  have N0 := Fr.nil n0
  refine Go.start fun P hPend => ?_
  refine Go.st (fun _ k => castTop (own_ef_rm_sapg m p0 p1) k) ?_
  show Go _ _ _ _ (s₁.setTop (mkF m 0 #[lR p0, lR p1] []))
  refine Go.st (fun _ => XS.aloadN X0.here hx rfl (hb hby od16_0) rfl rfl) ?_
  show Go _ _ _ _ (s₁.setTop (mkF m 1 #[lR p0, lR p1] [(.ref p0)]))
  refine Go.st (fun _ => XS.aloadN X0.here hx rfl (hb hby od16_1) rfl rfl) ?_
  show Go _ _ _ _ (s₁.setTop (mkF m 2 #[lR p0, lR p1] [(.ref p1), (.ref p0)]))
  obtain ⟨_, _, ⟨T1, L1, k1, n1⟩, -, X1, ⟨Lc1, hQ1, l1, y1, z1⟩, st1⟩ := superBack X0 hx hZ (y := (⟨"java/lang/AbstractStringBuilder", "append", "(Ljava/lang/String;)Ljava/lang/AbstractStringBuilder;"⟩ : MethodName)) hown (ow hw 91 rfl) (own_sameself (ow hw 92 rfl) (ow hw 111 rfl) rfl (by decide)) (ow hw 92 rfl) (ow hw 93 rfl) (by decide) (backOf (W := 0) (rm_appg l Z a0 hw [] g_CS S_CS nz_CS p0 p1 pcs arr ka qcs qv qk h0 n0 X00 hp0 hp1 hp2 hp3 hp4 hp5 hp6 hp7 hp8 hp9 hp10 hp11 hpcq hleq hpl hg1 hg2) hZ (ow hw 95 rfl) (ow hw 77 rfl) (by decide) (by decide)) e0 (Ins.self hp0) (g := (mkF m 2 #[.val (.ref p0), .val (.ref p1)] [(.ref p1), (.ref p0)])) rfl (by rw [hml]; rfl) (ow hw 95 rfl) (argsL := [(.ref p1)]) (rest := []) (lenOf own_pd10 rfl) rfl (by show 2 * 0 + _ ≤ _; exact Nat.le_of_eq rfl) (hb hby od16_2) (fun _ _ => ⟨rfl, e0, (by decide : 0 + 1 ≤ _), (by decide : 0 + 34 ≤ _)⟩)
  dsimp only [Pt.U, Pt.locs, Pt.cells, Pt.slots] at X1 l1 y1 z1 st1 hQ1
  subst y1 z1
  refine Go.tr st1 ?_
  obtain ⟨ob_2, kb_3, rfl, N1q, K1q, q1_0, q1_1, q1_2, q1_3, q1_4, q1_5, q1_6⟩ := hQ1
  have N1 : Fr n0 L1 := by rw [l1]; exact Fr.app N0 N1q
  have O1 := X00.keep K1q (allS hp6 all0)
  have K1 : Keep h0 T1.heap [p0] := (Keep.refl h0 [p0]).trans K1q (allS (Or.inl (List.mem_of_getElem? (i := 0) rfl)) all0)
  have sz_ob_2 : h0.size ≤ ob_2 := Nat.le_trans (Keep.refl h0 [p0]).1 q1_0
  have g_ob_2 : n0 ≤ ob_2 := Nat.le_trans (own_oldsz X00) sz_ob_2
  show Go _ _ _ _ (T1.setTop (mkF m 5 #[lR p0, lR p1] [(.ref p0)]))
  refine Go.st (fun _ => XS.pop X1.here hx rfl (hb hby od16_5) rfl rfl) ?_
  show Go _ _ _ _ (T1.setTop (mkF m 6 #[lR p0, lR p1] []))
  refine Go.st (fun _ => XS.aloadN X1.here hx rfl (hb hby od16_6) rfl rfl) ?_
  show Go _ _ _ _ (T1.setTop (mkF m 7 #[lR p0, lR p1] [(.ref p0)]))
  obtain ⟨fs, hr, hrun, hended, hW, hsame⟩ := X1.leave (v := some (.ref p0)) (fun h => by rw [Bd.returns] at h; cases h)
  refine ⟨_, ?_, hPend _ _ hrun hended ⟨_, _, rfl, ?_, ⟨_, rfl⟩, hW, hsame.mono (by decide) (by decide)⟩⟩
  · exact retOut X1 hx (t := (.object "java/lang/StringBuilder")) Bd.returns rfl (Or.inr (Or.inr (Or.inr (Or.inr ⟨rfl, rfl, rfl⟩)))) (hb hby od16_7) hr
  · show Q_rm_sapg Z _ _ _ _ _ _ _ _ _ h0 n0 _ T1.heap _
    exact ⟨ob_2, kb_3, rfl, N1, K1, sz_ob_2, q1_1, q1_2, q1_3, q1_4, q1_5, q1_6⟩
theorem own_ef_rm_getv (m : MethodId) (x0 : Addr) : entryFrame m #[(.ref x0)] 1 = mkF m 0 #[.val (.ref x0)] [] := by first | (simp [entryFrame, mkF, argsToLocals, Value.category]; done) | rfl
theorem od22_0 : decode jdk_68_method_64_code 0 = .ok (.aload_n 0, 1) := by decide +kernel
theorem od22_1 : decode jdk_68_method_64_code 1 = .ok (.getfield 15, 3) := by decide +kernel
theorem od22_4 : decode jdk_68_method_64_code 4 = .ok (.areturn, 1) := by decide +kernel
def Q_rm_getv (Z : State) (g_CS : Int32) (p0 : Addr) (arr : Addr) (h0 : Heap) (n0 : Nat) (v : Option Value) (h : Heap) (L : List Loc) : Prop := v = some (.ref arr) ∧ Fr n0 L ∧ h = h0
set_option maxRecDepth 65536 in
set_option maxHeartbeats 40000000 in
theorem rm_getv (l : Launch) (Z : State) (a0 : Array Value) (hw : ∀ d ∈ tables_1, d.before a0 Z = true) (ws : List Jvm.Cond) (g_CS : Int32) (S_CS : Sta Z Z.heap "java/lang/String" "COMPACT_STRINGS" "Z" (.int g_CS)) (nz_CS : ¬ (g_CS = (0 : Int32))) (p0 : Addr) (arr : Addr) (h0 : Heap) (n0 : Nat) (X00 : Old Z n0 h0) (hp0 : Fld Z h0 p0 "java/lang/AbstractStringBuilder" "value" "[B" (.ref arr)) :
    MetFree l (⟨"java/lang/AbstractStringBuilder", "getValue", "()[B"⟩ : MethodName) (head1 (Jvm.Cond.code (⟨"java/lang/AbstractStringBuilder", "getValue", "()[B"⟩ : MethodName) jdk_68_method_64_code 1 (some (.array .byte)) :: ws) ({ frames := 0, cells := 0, slots := 0, locals := 0 } : Room)) (fun a U => a = #[(.ref p0)] ∧ Z.Warmed39 U.vm ∧ U.heap = h0) (fun _ _ _ _ _ => True) (fun _ U o U' => ∃ v L, o = .returned v ∧ Q_rm_getv Z g_CS p0 arr h0 n0 v U'.heap L ∧ FrameEnd U o U' L ({ frames := 0, cells := 0, slots := 0, locals := 0 } : Room).cells ({ frames := 0, cells := 0, slots := 0, locals := 0 } : Room).slots) := by
  refine MetFree.of_bodySF (plainFor_of_name own_pn4) hisR ?_
  intro p e s m args below meth c s₁ Bd hml0 hP hK
  obtain ⟨rfl, hZ, hh⟩ := hP
  have hx := Bd.exec
  have hby := Bd.bytes
  have hml : c.maxLocals = 1 := hml0
  have hown : s.vm.findClass "java/lang/AbstractStringBuilder" = some m.cls := findClass_of_methodNamed Bd.named
  have hnm := (name_of_methodNamed Bd.named Bd.method).1
  have X0 : Stand p l e ({ frames := 0, cells := 0, slots := 0, locals := 0 } : Room) s m #[(.ref p0)] below meth c s₁ [] 0 0 := Stand.of_body Bd
  have e0 : s₁.heap = h0 := by rw [← hh, Bd.state]; rfl
  have N0 := Fr.nil n0
  refine Go.start fun P hPend => ?_
  refine Go.st (fun _ k => castTop (own_ef_rm_getv m p0) k) ?_
  show Go _ _ _ _ (s₁.setTop (mkF m 0 #[lR p0] []))
  refine Go.st (fun _ => XS.aloadN X0.here hx rfl (hb hby od22_0) rfl rfl) ?_
  show Go _ _ _ _ (s₁.setTop (mkF m 1 #[lR p0] [(.ref p0)]))
  obtain ⟨T1, X1, e1, st1⟩ := getF X0 hx hZ hown (host := "") (Or.inl (ow hw 81 rfl)) Via.refl e0 hp0 (g := (mkF m 1 #[.val (.ref p0)] [(.ref p0)])) rfl rfl (hb hby od22_1)
  refine Go.st st1 ?_
  show Go _ _ _ _ (T1.setTop (mkF m 4 #[lR p0] [(.ref arr)]))
  obtain ⟨fs, hr, hrun, hended, hW, hsame⟩ := X1.leave (v := some (.ref arr)) (fun h => by rw [Bd.returns] at h; cases h)
  refine ⟨_, ?_, hPend _ _ hrun hended ⟨_, _, rfl, ?_, ⟨_, rfl⟩, hW, hsame.mono (by decide) (by decide)⟩⟩
  · exact retOut X1 hx (t := (.array .byte)) Bd.returns rfl (Or.inr (Or.inr (Or.inr (Or.inr ⟨rfl, rfl, rfl⟩)))) (hb hby od22_4) hr
  · show Q_rm_getv Z _ _ _ h0 n0 _ T1.heap _
    rw [e1]
    exact ⟨rfl, N0, rfl⟩
theorem own_ef_rm_alen (m : MethodId) (x0 : Addr) : entryFrame m #[(.ref x0)] 1 = mkF m 0 #[.val (.ref x0)] [] := by first | (simp [entryFrame, mkF, argsToLocals, Value.category]; done) | rfl
theorem od23_0 : decode jdk_68_method_6_code 0 = .ok (.aload_n 0, 1) := by decide +kernel
theorem od23_1 : decode jdk_68_method_6_code 1 = .ok (.getfield 79, 3) := by decide +kernel
theorem od23_4 : decode jdk_68_method_6_code 4 = .ok (.ireturn, 1) := by decide +kernel
def Q_rm_alen (Z : State) (g_CS : Int32) (p0 : Addr) (nn : Int32) (h0 : Heap) (n0 : Nat) (v : Option Value) (h : Heap) (L : List Loc) : Prop := v = some (.int nn) ∧ Fr n0 L ∧ h = h0
set_option maxRecDepth 65536 in
set_option maxHeartbeats 40000000 in
theorem rm_alen (l : Launch) (Z : State) (a0 : Array Value) (hw : ∀ d ∈ tables_1, d.before a0 Z = true) (ws : List Jvm.Cond) (g_CS : Int32) (S_CS : Sta Z Z.heap "java/lang/String" "COMPACT_STRINGS" "Z" (.int g_CS)) (nz_CS : ¬ (g_CS = (0 : Int32))) (p0 : Addr) (nn : Int32) (h0 : Heap) (n0 : Nat) (X00 : Old Z n0 h0) (hp0 : Exa Z h0 p0 "java/lang/StringBuilder") (hp1 : Fld Z h0 p0 "java/lang/AbstractStringBuilder" "count" "I" (.int nn)) :
    MetFree l (⟨"java/lang/AbstractStringBuilder", "length", "()I"⟩ : MethodName) (head1 (Jvm.Cond.code (⟨"java/lang/AbstractStringBuilder", "length", "()I"⟩ : MethodName) jdk_68_method_6_code 1 (some .int) :: ws) ({ frames := 0, cells := 0, slots := 0, locals := 0 } : Room)) (fun a U => a = #[(.ref p0)] ∧ Z.Warmed39 U.vm ∧ U.heap = h0) (fun _ _ _ _ _ => True) (fun _ U o U' => ∃ v L, o = .returned v ∧ Q_rm_alen Z g_CS p0 nn h0 n0 v U'.heap L ∧ FrameEnd U o U' L ({ frames := 0, cells := 0, slots := 0, locals := 0 } : Room).cells ({ frames := 0, cells := 0, slots := 0, locals := 0 } : Room).slots) := by
  refine MetFree.of_bodySF (plainFor_of_name own_pn4) hisR ?_
  intro p e s m args below meth c s₁ Bd hml0 hP hK
  obtain ⟨rfl, hZ, hh⟩ := hP
  have hx := Bd.exec
  have hby := Bd.bytes
  have hml : c.maxLocals = 1 := hml0
  have hown : s.vm.findClass "java/lang/AbstractStringBuilder" = some m.cls := findClass_of_methodNamed Bd.named
  have hnm := (name_of_methodNamed Bd.named Bd.method).1
  have X0 : Stand p l e ({ frames := 0, cells := 0, slots := 0, locals := 0 } : Room) s m #[(.ref p0)] below meth c s₁ [] 0 0 := Stand.of_body Bd
  have e0 : s₁.heap = h0 := by rw [← hh, Bd.state]; rfl
  have N0 := Fr.nil n0
  refine Go.start fun P hPend => ?_
  refine Go.st (fun _ k => castTop (own_ef_rm_alen m p0) k) ?_
  show Go _ _ _ _ (s₁.setTop (mkF m 0 #[lR p0] []))
  refine Go.st (fun _ => XS.aloadN X0.here hx rfl (hb hby od23_0) rfl rfl) ?_
  show Go _ _ _ _ (s₁.setTop (mkF m 1 #[lR p0] [(.ref p0)]))
  obtain ⟨T1, X1, e1, st1⟩ := getF X0 hx hZ hown (host := "") (Or.inl (ow hw 106 rfl)) Via.refl e0 hp1 (g := (mkF m 1 #[.val (.ref p0)] [(.ref p0)])) rfl rfl (hb hby od23_1)
  refine Go.st st1 ?_
  show Go _ _ _ _ (T1.setTop (mkF m 4 #[lR p0] [(.int nn)]))
  obtain ⟨fs, hr, hrun, hended, hW, hsame⟩ := X1.leave (v := some (.int nn)) (fun h => by rw [Bd.returns] at h; cases h)
  refine ⟨_, ?_, hPend _ _ hrun hended ⟨_, _, rfl, ?_, ⟨_, rfl⟩, hW, hsame.mono (by decide) (by decide)⟩⟩
  · exact retOut X1 hx (t := .int) Bd.returns rfl (Or.inl ⟨rfl, Or.inl rfl, _, rfl⟩) (hb hby od23_4) hr
  · show Q_rm_alen Z _ _ _ h0 n0 _ T1.heap _
    rw [e1]
    exact ⟨rfl, N0, rfl⟩
theorem own_ef_rm_slen (m : MethodId) (x0 : Addr) : entryFrame m #[(.ref x0)] 1 = mkF m 0 #[.val (.ref x0)] [] := by first | (simp [entryFrame, mkF, argsToLocals, Value.category]; done) | rfl
theorem od24_0 : decode jdk_67_method_93_code 0 = .ok (.aload_n 0, 1) := by decide +kernel
theorem od24_1 : decode jdk_67_method_93_code 1 = .ok (.invokespecial 343, 3) := by decide +kernel
theorem od24_4 : decode jdk_67_method_93_code 4 = .ok (.ireturn, 1) := by decide +kernel
def Q_rm_slen (Z : State) (g_CS : Int32) (p0 : Addr) (nn : Int32) (h0 : Heap) (n0 : Nat) (v : Option Value) (h : Heap) (L : List Loc) : Prop := v = some (.int nn) ∧ Fr n0 L ∧ h = h0
set_option maxRecDepth 65536 in
set_option maxHeartbeats 40000000 in
theorem rm_slen (l : Launch) (Z : State) (a0 : Array Value) (hw : ∀ d ∈ tables_1, d.before a0 Z = true) (ws : List Jvm.Cond) (g_CS : Int32) (S_CS : Sta Z Z.heap "java/lang/String" "COMPACT_STRINGS" "Z" (.int g_CS)) (nz_CS : ¬ (g_CS = (0 : Int32))) (p0 : Addr) (nn : Int32) (h0 : Heap) (n0 : Nat) (X00 : Old Z n0 h0) (hp0 : Exa Z h0 p0 "java/lang/StringBuilder") (hp1 : Fld Z h0 p0 "java/lang/AbstractStringBuilder" "count" "I" (.int nn)) :
    MetFree l (⟨"java/lang/StringBuilder", "length", "()I"⟩ : MethodName) (head1 (Jvm.Cond.code (⟨"java/lang/StringBuilder", "length", "()I"⟩ : MethodName) jdk_67_method_93_code 1 (some .int) :: ws) ({ frames := 1, cells := 0, slots := 0, locals := 12 } : Room)) (fun a U => a = #[(.ref p0)] ∧ Z.Warmed39 U.vm ∧ U.heap = h0) (fun _ _ _ _ _ => True) (fun _ U o U' => ∃ v L, o = .returned v ∧ Q_rm_slen Z g_CS p0 nn h0 n0 v U'.heap L ∧ FrameEnd U o U' L ({ frames := 1, cells := 0, slots := 0, locals := 12 } : Room).cells ({ frames := 1, cells := 0, slots := 0, locals := 12 } : Room).slots) := by
  refine MetFree.of_bodySF (plainFor_of_name own_pn5) hisR ?_
  intro p e s m args below meth c s₁ Bd hml0 hP hK
  obtain ⟨rfl, hZ, hh⟩ := hP
  have hx := Bd.exec
  have hby := Bd.bytes
  have hml : c.maxLocals = 1 := hml0
  have hown : s.vm.findClass "java/lang/StringBuilder" = some m.cls := findClass_of_methodNamed Bd.named
  have hnm := (name_of_methodNamed Bd.named Bd.method).1
  have X0 : Stand p l e ({ frames := 1, cells := 0, slots := 0, locals := 12 } : Room) s m #[(.ref p0)] below meth c s₁ [] 0 0 := Stand.of_body Bd
  have e0 : s₁.heap = h0 := by rw [← hh, Bd.state]; rfl
  have N0 := Fr.nil n0
  refine Go.start fun P hPend => ?_
  refine Go.st (fun _ k => castTop (own_ef_rm_slen m p0) k) ?_
  show Go _ _ _ _ (s₁.setTop (mkF m 0 #[lR p0] []))
  refine Go.st (fun _ => XS.aloadN X0.here hx rfl (hb hby od24_0) rfl rfl) ?_
  show Go _ _ _ _ (s₁.setTop (mkF m 1 #[lR p0] [(.ref p0)]))
  obtain ⟨_, _, ⟨T1, L1, k1, n1⟩, -, X1, ⟨Lc1, hQ1, l1, y1, z1⟩, st1⟩ := superBack X0 hx hZ (y := (⟨"java/lang/AbstractStringBuilder", "length", "()I"⟩ : MethodName)) hown (ow hw 181 rfl) (own_sameself (ow hw 177 rfl) (ow hw 111 rfl) rfl (by decide)) (ow hw 177 rfl) (ow hw 93 rfl) (by decide) (backOf (W := 0) (rm_alen l Z a0 hw [] g_CS S_CS nz_CS p0 nn h0 n0 X00 hp0 hp1) hZ (ow hw 182 rfl) (ow hw 77 rfl) (by decide) (by decide)) e0 (Ins.self hp0) (g := (mkF m 1 #[.val (.ref p0)] [(.ref p0)])) rfl (by rw [hml]; rfl) (ow hw 182 rfl) (argsL := []) (rest := []) (lenOf own_pd8 rfl) rfl (by show 2 * 0 + _ ≤ _; exact Nat.le_of_eq rfl) (hb hby od24_1) (fun _ _ => ⟨rfl, e0, (by decide : 0 + 0 ≤ _), (by decide : 0 + 0 ≤ _)⟩)
  dsimp only [Pt.U, Pt.locs, Pt.cells, Pt.slots] at X1 l1 y1 z1 st1 hQ1
  subst y1 z1
  refine Go.tr st1 ?_
  obtain ⟨rfl, N1q, e1⟩ := hQ1
  have N1 : Fr n0 L1 := by rw [l1]; exact Fr.app N0 N1q
  show Go _ _ _ _ (T1.setTop (mkF m 4 #[lR p0] [(.int nn)]))
  obtain ⟨fs, hr, hrun, hended, hW, hsame⟩ := X1.leave (v := some (.int nn)) (fun h => by rw [Bd.returns] at h; cases h)
  refine ⟨_, ?_, hPend _ _ hrun hended ⟨_, _, rfl, ?_, ⟨_, rfl⟩, hW, hsame.mono (by decide) (by decide)⟩⟩
  · exact retOut X1 hx (t := .int) Bd.returns rfl (Or.inl ⟨rfl, Or.inl rfl, _, rfl⟩) (hb hby od24_4) hr
  · show Q_rm_slen Z _ _ _ h0 n0 _ T1.heap _
    rw [e1]
    exact ⟨rfl, N1, rfl⟩
theorem own_ef_rm_isl1 (m : MethodId) (x0 : Addr) : entryFrame m #[(.ref x0)] 1 = mkF m 0 #[.val (.ref x0)] [] := by first | (simp [entryFrame, mkF, argsToLocals, Value.category]; done) | rfl
theorem od25_0 : decode jdk_68_method_68_code 0 = .ok (.getstatic 18, 3) := by decide +kernel
theorem od25_3 : decode jdk_68_method_68_code 3 = .ok (.ifCond .eq 14, 3) := by decide +kernel
theorem od25_6 : decode jdk_68_method_68_code 6 = .ok (.aload_n 0, 1) := by decide +kernel
theorem od25_7 : decode jdk_68_method_68_code 7 = .ok (.getfield 22, 3) := by decide +kernel
theorem od25_10 : decode jdk_68_method_68_code 10 = .ok (.ifCond .ne 7, 3) := by decide +kernel
theorem od25_13 : decode jdk_68_method_68_code 13 = .ok (.iconst 1, 1) := by decide +kernel
theorem od25_14 : decode jdk_68_method_68_code 14 = .ok (.goto 4, 3) := by decide +kernel
theorem od25_18 : decode jdk_68_method_68_code 18 = .ok (.ireturn, 1) := by decide +kernel
def Q_rm_isl1 (Z : State) (g_CS : Int32) (p0 : Addr) (h0 : Heap) (n0 : Nat) (v : Option Value) (h : Heap) (L : List Loc) : Prop := v = some (.int (1 : Int32)) ∧ Fr n0 L ∧ h = h0
set_option maxRecDepth 65536 in
set_option maxHeartbeats 40000000 in
theorem rm_isl1 (l : Launch) (Z : State) (a0 : Array Value) (hw : ∀ d ∈ tables_1, d.before a0 Z = true) (ws : List Jvm.Cond) (g_CS : Int32) (S_CS : Sta Z Z.heap "java/lang/String" "COMPACT_STRINGS" "Z" (.int g_CS)) (nz_CS : ¬ (g_CS = (0 : Int32))) (p0 : Addr) (h0 : Heap) (n0 : Nat) (X00 : Old Z n0 h0) (hp0 : Fld Z h0 p0 "java/lang/AbstractStringBuilder" "coder" "B" (.int (0 : Int32))) :
    MetFree l (⟨"java/lang/AbstractStringBuilder", "isLatin1", "()Z"⟩ : MethodName) (head1 (Jvm.Cond.code (⟨"java/lang/AbstractStringBuilder", "isLatin1", "()Z"⟩ : MethodName) jdk_68_method_68_code 1 (some .boolean) :: ws) ({ frames := 0, cells := 0, slots := 0, locals := 0 } : Room)) (fun a U => a = #[(.ref p0)] ∧ Z.Warmed39 U.vm ∧ U.heap = h0) (fun _ _ _ _ _ => True) (fun _ U o U' => ∃ v L, o = .returned v ∧ Q_rm_isl1 Z g_CS p0 h0 n0 v U'.heap L ∧ FrameEnd U o U' L ({ frames := 0, cells := 0, slots := 0, locals := 0 } : Room).cells ({ frames := 0, cells := 0, slots := 0, locals := 0 } : Room).slots) := by
  refine MetFree.of_bodySF (plainFor_of_name own_pn4) hisR ?_
  intro p e s m args below meth c s₁ Bd hml0 hP hK
  obtain ⟨rfl, hZ, hh⟩ := hP
  have hx := Bd.exec
  have hby := Bd.bytes
  have hml : c.maxLocals = 1 := hml0
  have hown : s.vm.findClass "java/lang/AbstractStringBuilder" = some m.cls := findClass_of_methodNamed Bd.named
  have hnm := (name_of_methodNamed Bd.named Bd.method).1
  have X0 : Stand p l e ({ frames := 0, cells := 0, slots := 0, locals := 0 } : Room) s m #[(.ref p0)] below meth c s₁ [] 0 0 := Stand.of_body Bd
  have e0 : s₁.heap = h0 := by rw [← hh, Bd.state]; rfl
  have N0 := Fr.nil n0
  refine Go.start fun P hPend => ?_
  refine Go.st (fun _ k => castTop (own_ef_rm_isl1 m p0) k) ?_
  show Go _ _ _ _ (s₁.setTop (mkF m 0 #[lR p0] []))
  obtain ⟨T1, X1, e1, st1⟩ := getS2 X0 hx hZ hown (host := "") (Or.inl (ow hw 80 rfl)) Via.refl e0 (S_CS.ext X00.2) (g := (mkF m 0 #[.val (.ref p0)] [])) rfl (hb hby od25_0)
  refine Go.st st1 ?_
  show Go _ _ _ _ (T1.setTop (mkF m 3 #[lR p0] [(.int g_CS)]))
  have hb2 : ¬ (g_CS = (0 : Int32)) := nz_CS
  refine Go.st (fun _ => XS.ifNo X1.here hx rfl (hb hby od25_3) rfl ((if0 _ _).trans (feq hb2).1)) ?_
  show Go _ _ _ _ (T1.setTop (mkF m 6 #[lR p0] []))
  refine Go.st (fun _ => XS.aloadN X1.here hx rfl (hb hby od25_6) rfl rfl) ?_
  show Go _ _ _ _ (T1.setTop (mkF m 7 #[lR p0] [(.ref p0)]))
  obtain ⟨T3, X3, e3, st3⟩ := getF X1 hx hZ hown (host := "") (Or.inl (ow hw 83 rfl)) Via.refl e1 hp0 (g := (mkF m 7 #[.val (.ref p0)] [(.ref p0)])) rfl rfl (hb hby od25_7)
  refine Go.st st3 ?_
  show Go _ _ _ _ (T3.setTop (mkF m 10 #[lR p0] [(.int (0 : Int32))]))
  refine Go.st (fun _ => XS.ifNo X3.here hx rfl (hb hby od25_10) rfl ((if0 _ _).trans (teq (by decide)).2)) ?_
  show Go _ _ _ _ (T3.setTop (mkF m 13 #[lR p0] []))
  refine Go.st (fun _ => XS.iconst X3.here hx rfl (hb hby od25_13)) ?_
  show Go _ _ _ _ (T3.setTop (mkF m 14 #[lR p0] [(.int (1 : Int32))]))
  refine Go.st (fun _ => XS.goto X3.here hx rfl (pc0 := 14) (pc' := 18) rfl (hb hby od25_14) (by decide) (by decide)) ?_
  show Go _ _ _ _ (T3.setTop (mkF m 18 #[lR p0] [(.int (1 : Int32))]))
  obtain ⟨fs, hr, hrun, hended, hW, hsame⟩ := X3.leave (v := some (.int (1 : Int32))) (fun h => by rw [Bd.returns] at h; cases h)
  refine ⟨_, ?_, hPend _ _ hrun hended ⟨_, _, rfl, ?_, ⟨_, rfl⟩, hW, hsame.mono (by decide) (by decide)⟩⟩
  · exact retN X3 hx (t := .boolean) Bd.returns (by simp) (hb hby od25_18) hr
  · show Q_rm_isl1 Z _ _ h0 n0 _ T3.heap _
    rw [e3]
    exact ⟨rfl, N0, rfl⟩
theorem own_ef_rm_ckl (m : MethodId) (x0 : Int32) (x1 : Int32) : entryFrame m #[(.int x0), (.int x1)] 2 = mkF m 0 #[.val (.int x0), .val (.int x1)] [] := by first | (simp [entryFrame, mkF, argsToLocals, Value.category]; done) | rfl
theorem od26_0 : decode jdk_65_method_131_code 0 = .ok (.iload_n 1, 1) := by decide +kernel
theorem od26_1 : decode jdk_65_method_131_code 1 = .ok (.iload_n 0, 1) := by decide +kernel
theorem od26_2 : decode jdk_65_method_131_code 2 = .ok (.if_icmp .ge 35, 3) := by decide +kernel
theorem od26_37 : decode jdk_65_method_131_code 37 = .ok (.return_, 1) := by decide +kernel
def Q_rm_ckl (Z : State) (g_CS : Int32) (p0 : Int32) (p1 : Int32) (h0 : Heap) (n0 : Nat) (v : Option Value) (h : Heap) (L : List Loc) : Prop := v = none ∧ Fr n0 L ∧ h = h0
set_option maxRecDepth 65536 in
set_option maxHeartbeats 40000000 in
theorem rm_ckl (l : Launch) (Z : State) (a0 : Array Value) (hw : ∀ d ∈ tables_1, d.before a0 Z = true) (ws : List Jvm.Cond) (g_CS : Int32) (S_CS : Sta Z Z.heap "java/lang/String" "COMPACT_STRINGS" "Z" (.int g_CS)) (nz_CS : ¬ (g_CS = (0 : Int32))) (p0 : Int32) (p1 : Int32) (h0 : Heap) (n0 : Nat) (X00 : Old Z n0 h0) (hck : ¬ (p1 < p0)) :
    MetFree l (⟨"java/util/Arrays", "checkLength", "(II)V"⟩ : MethodName) (head1 (Jvm.Cond.code (⟨"java/util/Arrays", "checkLength", "(II)V"⟩ : MethodName) jdk_65_method_131_code 2 none :: ws) ({ frames := 0, cells := 0, slots := 0, locals := 0 } : Room)) (fun a U => a = #[(.int p0), (.int p1)] ∧ Z.Warmed39 U.vm ∧ U.heap = h0) (fun _ _ _ _ _ => True) (fun _ U o U' => ∃ v L, o = .returned v ∧ Q_rm_ckl Z g_CS p0 p1 h0 n0 v U'.heap L ∧ FrameEnd U o U' L ({ frames := 0, cells := 0, slots := 0, locals := 0 } : Room).cells ({ frames := 0, cells := 0, slots := 0, locals := 0 } : Room).slots) := by
  refine MetFree.of_bodySF (plainFor_of_name own_pn7) hisR ?_
  intro p e s m args below meth c s₁ Bd hml0 hP hK
  obtain ⟨rfl, hZ, hh⟩ := hP
  have hx := Bd.exec
  have hby := Bd.bytes
  have hml : c.maxLocals = 2 := hml0
  have hown : s.vm.findClass "java/util/Arrays" = some m.cls := findClass_of_methodNamed Bd.named
  have hnm := (name_of_methodNamed Bd.named Bd.method).1
  have X0 : Stand p l e ({ frames := 0, cells := 0, slots := 0, locals := 0 } : Room) s m #[(.int p0), (.int p1)] below meth c s₁ [] 0 0 := Stand.of_body Bd
  have e0 : s₁.heap = h0 := by rw [← hh, Bd.state]; rfl
  have N0 := Fr.nil n0
  refine Go.start fun P hPend => ?_
  refine Go.st (fun _ k => castTop (own_ef_rm_ckl m p0 p1) k) ?_
  show Go _ _ _ _ (s₁.setTop (mkF m 0 #[lI p0, lI p1] []))
  refine Go.st (fun _ => XS.iloadN X0.here hx rfl (hb hby od26_0) rfl) ?_
  show Go _ _ _ _ (s₁.setTop (mkF m 1 #[lI p0, lI p1] [(.int p1)]))
  refine Go.st (fun _ => XS.iloadN X0.here hx rfl (hb hby od26_1) rfl) ?_
  show Go _ _ _ _ (s₁.setTop (mkF m 2 #[lI p0, lI p1] [(.int p0), (.int p1)]))
  have hb1 : ¬ (p1 < p0) := hck
  refine Go.st (fun _ => XS.icmpYes X0.here hx rfl (pc0 := 2) (pc' := 37) rfl (hb hby od26_2) rfl (flt hb1).2.1 (by decide) (by decide)) ?_
  show Go _ _ _ _ (s₁.setTop (mkF m 37 #[lI p0, lI p1] []))
  obtain ⟨fs, hr, hrun, hended, hW, hsame⟩ := X0.leave (v := none) (fun _ => rfl)
  refine ⟨_, ?_, hPend _ _ hrun hended ⟨_, _, rfl, ?_, ⟨_, rfl⟩, hW, hsame.mono (by decide) (by decide)⟩⟩
  · exact X0.returnOut hx Bd.returns (hb hby od26_37) hr
  · show Q_rm_ckl Z _ _ _ h0 n0 _ s₁.heap _
    rw [e0]
    exact ⟨rfl, N0, rfl⟩
theorem own_ef_rm_minb (m : MethodId) (x0 : Int32) (x1 : Int32) : entryFrame m #[(.int x0), (.int x1)] 2 = mkF m 0 #[.val (.int x0), .val (.int x1)] [] := by first | (simp [entryFrame, mkF, argsToLocals, Value.category]; done) | rfl
theorem od20_9 : decode jdk_29_method_69_code 9 = .ok (.iload_n 1, 1) := by decide +kernel
def Q_rm_minb (Z : State) (g_CS : Int32) (p0 : Int32) (p1 : Int32) (h0 : Heap) (n0 : Nat) (v : Option Value) (h : Heap) (L : List Loc) : Prop := v = some (.int p1) ∧ Fr n0 L ∧ h = h0
set_option maxRecDepth 65536 in
set_option maxHeartbeats 40000000 in
theorem rm_minb (l : Launch) (Z : State) (a0 : Array Value) (hw : ∀ d ∈ tables_1, d.before a0 Z = true) (ws : List Jvm.Cond) (g_CS : Int32) (S_CS : Sta Z Z.heap "java/lang/String" "COMPACT_STRINGS" "Z" (.int g_CS)) (nz_CS : ¬ (g_CS = (0 : Int32))) (p0 : Int32) (p1 : Int32) (h0 : Heap) (n0 : Nat) (X00 : Old Z n0 h0) (hmn : p1 < p0) :
    MetFree l (⟨"java/lang/Math", "min", "(II)I"⟩ : MethodName) (head1 (Jvm.Cond.code (⟨"java/lang/Math", "min", "(II)I"⟩ : MethodName) jdk_29_method_69_code 2 (some .int) :: ws) ({ frames := 0, cells := 0, slots := 0, locals := 0 } : Room)) (fun a U => a = #[(.int p0), (.int p1)] ∧ Z.Warmed39 U.vm ∧ U.heap = h0) (fun _ _ _ _ _ => True) (fun _ U o U' => ∃ v L, o = .returned v ∧ Q_rm_minb Z g_CS p0 p1 h0 n0 v U'.heap L ∧ FrameEnd U o U' L ({ frames := 0, cells := 0, slots := 0, locals := 0 } : Room).cells ({ frames := 0, cells := 0, slots := 0, locals := 0 } : Room).slots) := by
  refine MetFree.of_bodySF (Jvm.Free.JP.mathPlain rfl (by decide +kernel)) hisR ?_
  intro p e s m args below meth c s₁ Bd hml0 hP hK
  obtain ⟨rfl, hZ, hh⟩ := hP
  have hx := Bd.exec
  have hby := Bd.bytes
  have hml : c.maxLocals = 2 := hml0
  have hown : s.vm.findClass "java/lang/Math" = some m.cls := findClass_of_methodNamed Bd.named
  have hnm := (name_of_methodNamed Bd.named Bd.method).1
  have X0 : Stand p l e ({ frames := 0, cells := 0, slots := 0, locals := 0 } : Room) s m #[(.int p0), (.int p1)] below meth c s₁ [] 0 0 := Stand.of_body Bd
  have e0 : s₁.heap = h0 := by rw [← hh, Bd.state]; rfl
  have N0 := Fr.nil n0
  refine Go.start fun P hPend => ?_
  refine Go.st (fun _ k => castTop (own_ef_rm_minb m p0 p1) k) ?_
  show Go _ _ _ _ (s₁.setTop (mkF m 0 #[lI p0, lI p1] []))
  refine Go.st (fun _ => XS.iloadN X0.here hx rfl (hb hby od20_0) rfl) ?_
  show Go _ _ _ _ (s₁.setTop (mkF m 1 #[lI p0, lI p1] [(.int p0)]))
  refine Go.st (fun _ => XS.iloadN X0.here hx rfl (hb hby od20_1) rfl) ?_
  show Go _ _ _ _ (s₁.setTop (mkF m 2 #[lI p0, lI p1] [(.int p1), (.int p0)]))
  have hb1 : p1 < p0 := hmn
  refine Go.st (fun _ => XS.icmpYes X0.here hx rfl (pc0 := 2) (pc' := 9) rfl (hb hby od20_2) rfl (tlt hb1).2.2.1 (by decide) (by decide)) ?_
  show Go _ _ _ _ (s₁.setTop (mkF m 9 #[lI p0, lI p1] []))
  refine Go.st (fun _ => XS.iloadN X0.here hx rfl (hb hby od20_9) rfl) ?_
  show Go _ _ _ _ (s₁.setTop (mkF m 10 #[lI p0, lI p1] [(.int p1)]))
  obtain ⟨fs, hr, hrun, hended, hW, hsame⟩ := X0.leave (v := some (.int p1)) (fun h => by rw [Bd.returns] at h; cases h)
  refine ⟨_, ?_, hPend _ _ hrun hended ⟨_, _, rfl, ?_, ⟨_, rfl⟩, hW, hsame.mono (by decide) (by decide)⟩⟩
  · exact retOut X0 hx (t := .int) Bd.returns rfl (Or.inl ⟨rfl, Or.inl rfl, _, rfl⟩) (hb hby od20_10) hr
  · show Q_rm_minb Z _ _ _ h0 n0 _ s₁.heap _
    rw [e0]
    exact ⟨rfl, N0, rfl⟩
theorem own_ef_rm_cprb (m : MethodId) (x0 : Addr) (x1 : Int32) (x2 : Int32) : entryFrame m #[(.ref x0), (.int x1), (.int x2)] 5 = mkF m 0 #[.val (.ref x0), .val (.int x1), .val (.int x2), .unset, .unset] [] := by first | (simp [entryFrame, mkF, argsToLocals, Value.category]; done) | rfl
theorem od27_0 : decode jdk_65_method_133_code 0 = .ok (.iload_n 1, 1) := by decide +kernel
theorem od27_1 : decode jdk_65_method_133_code 1 = .ok (.iload_n 2, 1) := by decide +kernel
theorem od27_2 : decode jdk_65_method_133_code 2 = .ok (.invokestatic 343, 3) := by decide +kernel
theorem own_pd15 : parseMethodDescriptor "(II)V" = some ⟨[.int, .int], none⟩ := by decide +kernel
theorem od27_5 : decode jdk_65_method_133_code 5 = .ok (.iload_n 2, 1) := by decide +kernel
theorem od27_6 : decode jdk_65_method_133_code 6 = .ok (.iload_n 1, 1) := by decide +kernel
theorem od27_7 : decode jdk_65_method_133_code 7 = .ok (.isub, 1) := by decide +kernel
theorem od27_8 : decode jdk_65_method_133_code 8 = .ok (.istore_n 3, 1) := by decide +kernel
theorem od27_9 : decode jdk_65_method_133_code 9 = .ok (.iload_n 3, 1) := by decide +kernel
theorem od27_10 : decode jdk_65_method_133_code 10 = .ok (.newarray .byte, 2) := by decide +kernel
theorem od27_12 : decode jdk_65_method_133_code 12 = .ok (.astore 4, 2) := by decide +kernel
theorem od27_14 : decode jdk_65_method_133_code 14 = .ok (.aload_n 0, 1) := by decide +kernel
theorem od27_15 : decode jdk_65_method_133_code 15 = .ok (.iload_n 1, 1) := by decide +kernel
theorem od27_16 : decode jdk_65_method_133_code 16 = .ok (.aload 4, 2) := by decide +kernel
theorem od27_18 : decode jdk_65_method_133_code 18 = .ok (.iconst 0, 1) := by decide +kernel
theorem od27_19 : decode jdk_65_method_133_code 19 = .ok (.aload_n 0, 1) := by decide +kernel
theorem od27_20 : decode jdk_65_method_133_code 20 = .ok (.arraylength, 1) := by decide +kernel
theorem od27_21 : decode jdk_65_method_133_code 21 = .ok (.iload_n 1, 1) := by decide +kernel
theorem od27_22 : decode jdk_65_method_133_code 22 = .ok (.isub, 1) := by decide +kernel
theorem od27_23 : decode jdk_65_method_133_code 23 = .ok (.iload_n 3, 1) := by decide +kernel
theorem od27_24 : decode jdk_65_method_133_code 24 = .ok (.invokestatic 304, 3) := by decide +kernel
theorem od27_27 : decode jdk_65_method_133_code 27 = .ok (.invokestatic 150, 3) := by decide +kernel
theorem od27_30 : decode jdk_65_method_133_code 30 = .ok (.aload 4, 2) := by decide +kernel
theorem od27_32 : decode jdk_65_method_133_code 32 = .ok (.areturn, 1) := by decide +kernel
def Q_rm_cprb (Z : State) (g_CS : Int32) (p0 : Addr) (p2 : Int32) (ka : ClassId) (za : Int32) (va : List Value) (nv : Nat) (h0 : Heap) (n0 : Nat) (v : Option Value) (h : Heap) (L : List Loc) : Prop := ∃ (ob : Addr) (kb : ClassId), v = some (.ref ob) ∧ Fr n0 L ∧ Keep h0 h [] ∧ h0.size ≤ ob ∧ Arv Z h ob kb .byte p2 va (.int (0 : Int32))
set_option maxRecDepth 65536 in
set_option maxHeartbeats 40000000 in
theorem rm_cprb (l : Launch) (Z : State) (a0 : Array Value) (hw : ∀ d ∈ tables_1, d.before a0 Z = true) (ws : List Jvm.Cond) (g_CS : Int32) (S_CS : Sta Z Z.heap "java/lang/String" "COMPACT_STRINGS" "Z" (.int g_CS)) (nz_CS : ¬ (g_CS = (0 : Int32))) (p0 : Addr) (p2 : Int32) (ka : ClassId) (za : Int32) (va : List Value) (nv : Nat) (h0 : Heap) (n0 : Nat) (X00 : Old Z n0 h0) (hp0 : Arv Z h0 p0 ka .byte za va (.int (0 : Int32))) (hnv : p2 = Int32.ofNat nv) (hvl : va.length ≤ nv) (hn64 : nv ≤ 64) (hlt : p2 < za) (hp2 : ¬ (p2 < 0)) (hc2 : p2.toNatClampNeg = nv) (hzc : nv ≤ za.toNatClampNeg) :
    MetFree l (⟨"java/util/Arrays", "copyOfRangeByte", "([BII)[B"⟩ : MethodName) (head1 (Jvm.Cond.code (⟨"java/util/Arrays", "copyOfRangeByte", "([BII)[B"⟩ : MethodName) jdk_65_method_133_code 5 (some (.array .byte)) :: ws) ({ frames := 1, cells := 1, slots := 64, locals := 18 } : Room)) (fun a U => a = #[(.ref p0), (.int (0 : Int32)), (.int p2)] ∧ Z.Warmed39 U.vm ∧ U.heap = h0) (fun _ _ _ _ _ => True) (fun _ U o U' => ∃ v L, o = .returned v ∧ Q_rm_cprb Z g_CS p0 p2 ka za va nv h0 n0 v U'.heap L ∧ FrameEnd U o U' L ({ frames := 1, cells := 1, slots := 64, locals := 18 } : Room).cells ({ frames := 1, cells := 1, slots := 64, locals := 18 } : Room).slots) := by
  refine MetFree.of_bodySF (plainFor_of_name own_pn7) hisR ?_
  intro p e s m args below meth c s₁ Bd hml0 hP hK
  obtain ⟨rfl, hZ, hh⟩ := hP
  have hx := Bd.exec
  have hby := Bd.bytes
  have hml : c.maxLocals = 5 := hml0
  have hown : s.vm.findClass "java/util/Arrays" = some m.cls := findClass_of_methodNamed Bd.named
  have hnm := (name_of_methodNamed Bd.named Bd.method).1
  have X0 : Stand p l e ({ frames := 1, cells := 1, slots := 64, locals := 18 } : Room) s m #[(.ref p0), (.int (0 : Int32)), (.int p2)] below meth c s₁ [] 0 0 := Stand.of_body Bd
  have e0 : s₁.heap = h0 := by rw [← hh, Bd.state]; rfl
  have N0 := Fr.nil n0
  refine Go.start fun P hPend => ?_
  refine Go.st (fun _ k => castTop (own_ef_rm_cprb m p0 ((0 : Int32)) p2) k) ?_
  show Go _ _ _ _ (s₁.setTop (mkF m 0 #[lR p0, lI (0 : Int32), lI p2, lU, lU] []))
  refine Go.st (fun _ => XS.iloadN X0.here hx rfl (hb hby od27_0) rfl) ?_
  show Go _ _ _ _ (s₁.setTop (mkF m 1 #[lR p0, lI (0 : Int32), lI p2, lU, lU] [(.int (0 : Int32))]))
  refine Go.st (fun _ => XS.iloadN X0.here hx rfl (hb hby od27_1) rfl) ?_
  show Go _ _ _ _ (s₁.setTop (mkF m 2 #[lR p0, lI (0 : Int32), lI p2, lU, lU] [(.int p2), (.int (0 : Int32))]))
  obtain ⟨_, _, ⟨T1, L1, k1, n1⟩, -, X1, ⟨Lc1, hQ1, l1, y1, z1⟩, st1⟩ := Jvm.LawKit.callS X0 hx (y := (⟨"java/util/Arrays", "checkLength", "(II)V"⟩ : MethodName)) hown (mvT hZ (ow hw 194 rfl)) (mvT hZ (ow hw 195 rfl)) (mvT hZ (ow hw 152 rfl)) (mvT hZ (ow hw 196 rfl)) (by decide) (backOf (W := 0) (rm_ckl l Z a0 hw [] g_CS S_CS nz_CS (0 : Int32) p2 h0 n0 X00 hp2) hZ (ow hw 196 rfl) (ow hw 152 rfl) (by decide) (by decide)) (g := (mkF m 2 #[.val (.ref p0), .val (.int (0 : Int32)), .val (.int p2), .unset, .unset] [(.int p2), (.int (0 : Int32))])) rfl (by rw [hml]; rfl) (argsL := [(.int (0 : Int32)), (.int p2)]) (rest := []) (lenOf own_pd15 rfl) rfl (by show 2 * 0 + _ ≤ _; exact Nat.le_of_eq rfl) (hb hby od27_2) (fun _ _ => ⟨rfl, e0, (by decide : 0 + 0 ≤ _), (by decide : 0 + 0 ≤ _)⟩)
  dsimp only [Pt.U, Pt.locs, Pt.cells, Pt.slots] at X1 l1 y1 z1 st1 hQ1
  subst y1 z1
  refine Go.st st1 ?_
  obtain ⟨rfl, N1q, e1⟩ := hQ1
  have N1 : Fr n0 L1 := by rw [l1]; exact Fr.app N0 N1q
  show Go _ _ _ _ (T1.setTop (mkF m 5 #[lR p0, lI (0 : Int32), lI p2, lU, lU] []))
  refine Go.st (fun _ => XS.iloadN X1.here hx rfl (hb hby od27_5) rfl) ?_
  show Go _ _ _ _ (T1.setTop (mkF m 6 #[lR p0, lI (0 : Int32), lI p2, lU, lU] [(.int p2)]))
  refine Go.st (fun _ => XS.iloadN X1.here hx rfl (hb hby od27_6) rfl) ?_
  show Go _ _ _ _ (T1.setTop (mkF m 7 #[lR p0, lI (0 : Int32), lI p2, lU, lU] [(.int (0 : Int32)), (.int p2)]))
  refine Go.st (fun _ => XS.isub X1.here hx rfl (hb hby od27_7) rfl) ?_
  show Go _ _ _ _ (T1.setTop (mkF m 8 #[lR p0, lI (0 : Int32), lI p2, lU, lU] [(.int (p2 - (0 : Int32)))]))
  rw [show (p2 - (0 : Int32)) = p2 from own_sub0 _]
  show Go _ _ _ _ (T1.setTop (mkF m 8 #[lR p0, lI (0 : Int32), lI p2, lU, lU] [(.int p2)]))
  refine Go.st (fun _ => XS.istoreN X1.here hx rfl (hb hby od27_8) rfl (l' := #[.val (.ref p0), .val (.int (0 : Int32)), .val (.int p2), .val (.int p2), .unset]) rfl) ?_
  show Go _ _ _ _ (T1.setTop (mkF m 9 #[lR p0, lI (0 : Int32), lI p2, lI p2, lU] []))
  refine Go.st (fun _ => XS.iloadN X1.here hx rfl (hb hby od27_9) rfl) ?_
  show Go _ _ _ _ (T1.setTop (mkF m 10 #[lR p0, lI (0 : Int32), lI p2, lI p2, lU] [(.int p2)]))
  obtain ⟨T2, h2, k2, X2, e2, E2, A2, st2⟩ := newP X1 hx hZ (ow hw 19 rfl) e1 (g := (mkF m 10 #[.val (.ref p0), .val (.int (0 : Int32)), .val (.int p2), .val (.int p2), .unset] [(.int p2)])) rfl (hb hby od27_10) rfl hp2 (cap := 64) (by rw [hc2]; exact hn64) (by decide) (by decide) (by decide)
  obtain ⟨b2, g2⟩ : ∃ z, z = h0.size := ⟨_, rfl⟩
  rw [← g2] at A2 st2
  refine Go.st st2 ?_
  have g_b2 : n0 ≤ b2 := Nat.le_trans (own_oldsz X00) (Nat.le_of_eq g2.symm)
  have sz_b2 : h0.size ≤ b2 := Nat.le_trans (Keep.refl h0 []).1 (Nat.le_of_eq g2.symm)
  have K2 : Keep h0 h2 [] := (Keep.refl h0 []).ext E2
  have O2 := X00.ext E2
  have V2 : Arv Z h2 b2 k2 .byte p2 [] (.int (0 : Int32)) := Arv.new A2 hp2
  show Go _ _ _ _ (T2.setTop (mkF m 12 #[lR p0, lI (0 : Int32), lI p2, lI p2, lU] [(.ref b2)]))
  refine Go.st (fun _ => XS.astore X2.here hx rfl (hb hby od27_12) rfl rfl (l' := #[.val (.ref p0), .val (.int (0 : Int32)), .val (.int p2), .val (.int p2), .val (.ref b2)]) rfl) ?_
  show Go _ _ _ _ (T2.setTop (mkF m 14 #[lR p0, lI (0 : Int32), lI p2, lI p2, lR b2] []))
  refine Go.st (fun _ => XS.aloadN X2.here hx rfl (hb hby od27_14) rfl rfl) ?_
  show Go _ _ _ _ (T2.setTop (mkF m 15 #[lR p0, lI (0 : Int32), lI p2, lI p2, lR b2] [(.ref p0)]))
  refine Go.st (fun _ => XS.iloadN X2.here hx rfl (hb hby od27_15) rfl) ?_
  show Go _ _ _ _ (T2.setTop (mkF m 16 #[lR p0, lI (0 : Int32), lI p2, lI p2, lR b2] [(.int (0 : Int32)), (.ref p0)]))
  refine Go.st (fun _ => XS.aload X2.here hx rfl (hb hby od27_16) rfl rfl) ?_
  show Go _ _ _ _ (T2.setTop (mkF m 18 #[lR p0, lI (0 : Int32), lI p2, lI p2, lR b2] [(.ref b2), (.int (0 : Int32)), (.ref p0)]))
  refine Go.st (fun _ => XS.iconst X2.here hx rfl (hb hby od27_18)) ?_
  show Go _ _ _ _ (T2.setTop (mkF m 19 #[lR p0, lI (0 : Int32), lI p2, lI p2, lR b2] [(.int (0 : Int32)), (.ref b2), (.int (0 : Int32)), (.ref p0)]))
  refine Go.st (fun _ => XS.aloadN X2.here hx rfl (hb hby od27_19) rfl rfl) ?_
  show Go _ _ _ _ (T2.setTop (mkF m 20 #[lR p0, lI (0 : Int32), lI p2, lI p2, lR b2] [(.ref p0), (.int (0 : Int32)), (.ref b2), (.int (0 : Int32)), (.ref p0)]))
  have c3 := (hp0.ext E2)
  refine Go.st (fun _ => own_len X2 hx hZ e2 c3 (g := (mkF m 20 #[.val (.ref p0), .val (.int (0 : Int32)), .val (.int p2), .val (.int p2), .val (.ref b2)] [(.ref p0), (.int (0 : Int32)), (.ref b2), (.int (0 : Int32)), (.ref p0)])) rfl rfl (hb hby od27_20) _) ?_
  show Go _ _ _ _ (T2.setTop (mkF m 21 #[lR p0, lI (0 : Int32), lI p2, lI p2, lR b2] [(.int za), (.int (0 : Int32)), (.ref b2), (.int (0 : Int32)), (.ref p0)]))
  refine Go.st (fun _ => XS.iloadN X2.here hx rfl (hb hby od27_21) rfl) ?_
  show Go _ _ _ _ (T2.setTop (mkF m 22 #[lR p0, lI (0 : Int32), lI p2, lI p2, lR b2] [(.int (0 : Int32)), (.int za), (.int (0 : Int32)), (.ref b2), (.int (0 : Int32)), (.ref p0)]))
  refine Go.st (fun _ => XS.isub X2.here hx rfl (hb hby od27_22) rfl) ?_
  show Go _ _ _ _ (T2.setTop (mkF m 23 #[lR p0, lI (0 : Int32), lI p2, lI p2, lR b2] [(.int (za - (0 : Int32))), (.int (0 : Int32)), (.ref b2), (.int (0 : Int32)), (.ref p0)]))
  rw [show (za - (0 : Int32)) = za from own_sub0 _]
  show Go _ _ _ _ (T2.setTop (mkF m 23 #[lR p0, lI (0 : Int32), lI p2, lI p2, lR b2] [(.int za), (.int (0 : Int32)), (.ref b2), (.int (0 : Int32)), (.ref p0)]))
  refine Go.st (fun _ => XS.iloadN X2.here hx rfl (hb hby od27_23) rfl) ?_
  show Go _ _ _ _ (T2.setTop (mkF m 24 #[lR p0, lI (0 : Int32), lI p2, lI p2, lR b2] [(.int p2), (.int za), (.int (0 : Int32)), (.ref b2), (.int (0 : Int32)), (.ref p0)]))
  obtain ⟨_, _, ⟨T4, L4, k4, n4⟩, -, X4, ⟨Lc4, hQ4, l4, y4, z4⟩, st4⟩ := Jvm.LawKit.callS X2 hx (y := (⟨"java/lang/Math", "min", "(II)I"⟩ : MethodName)) hown (mvT hZ (ow hw 154 rfl)) (mvT hZ (ow hw 155 rfl)) (mvT hZ (ow hw 146 rfl)) (mvT hZ (ow hw 156 rfl)) (by decide) (backOf (W := 4) (rm_minb l Z a0 hw [] g_CS S_CS nz_CS za p2 h2 n0 O2 hlt) hZ (ow hw 156 rfl) (ow hw 146 rfl) (by decide) (by decide)) (g := (mkF m 24 #[.val (.ref p0), .val (.int (0 : Int32)), .val (.int p2), .val (.int p2), .val (.ref b2)] [(.int p2), (.int za), (.int (0 : Int32)), (.ref b2), (.int (0 : Int32)), (.ref p0)])) rfl (by rw [hml]; rfl) (argsL := [(.int za), (.int p2)]) (rest := [(.int (0 : Int32)), (.ref b2), (.int (0 : Int32)), (.ref p0)]) (lenOf own_pd11 rfl) rfl (by show 2 * 0 + _ ≤ _; exact Nat.le_of_eq rfl) (hb hby od27_24) (fun _ _ => ⟨rfl, e2, (by decide : 1 + 0 ≤ _), (by decide : 64 + 0 ≤ _)⟩)
  dsimp only [Pt.U, Pt.locs, Pt.cells, Pt.slots] at X4 l4 y4 z4 st4 hQ4
  subst y4 z4
  refine Go.st st4 ?_
  obtain ⟨rfl, N4q, e4⟩ := hQ4
  have N4 : Fr n0 L4 := by rw [l4]; exact Fr.app N1 N4q
  show Go _ _ _ _ (T4.setTop (mkF m 27 #[lR p0, lI (0 : Int32), lI p2, lI p2, lR b2] [(.int p2), (.int (0 : Int32)), (.ref b2), (.int (0 : Int32)), (.ref p0)]))
  obtain ⟨T5, L5, X5, N5d, K5q, A5, st5⟩ := own_acopy X4 hx hZ e4 hown (mvT hZ (ow hw 157 rfl)) (mvT hZ (ow hw 132 rfl)) (mvT hZ (ow hw 130 rfl)) (mvT hZ (ow hw 131 rfl)) c3 V2 (o := 0) (q := 0) (n := nv) (ws := va) (by omega) (by omega) (fun i _ => own_cpws hvl i) (g := (mkF m 27 #[.val (.ref p0), .val (.int (0 : Int32)), .val (.int p2), .val (.int p2), .val (.ref b2)] [(.int p2), (.int (0 : Int32)), (.ref b2), (.int (0 : Int32)), (.ref p0)])) rfl (by rw [hml]; rfl) rfl rfl hnv rfl (hb hby od27_27) (by decide) (by show 2 * 0 + 0 + (nativeFrameWords "java/lang/System" "arraycopy" 5 + 11) ≤ _; decide)
  refine Go.st st5 ?_
  have N5 := Fr.app N4 (N5d _ g_b2)
  have O5 := O2.keep K5q (allS g_b2 all0)
  have K5 : Keep h0 T5.heap [] := K2.trans K5q (allS (Or.inr sz_b2) all0)
  show Go _ _ _ _ (T5.setTop (mkF m 30 #[lR p0, lI (0 : Int32), lI p2, lI p2, lR b2] []))
  refine Go.st (fun _ => XS.aload X5.here hx rfl (hb hby od27_30) rfl rfl) ?_
  show Go _ _ _ _ (T5.setTop (mkF m 32 #[lR p0, lI (0 : Int32), lI p2, lI p2, lR b2] [(.ref b2)]))
  obtain ⟨fs, hr, hrun, hended, hW, hsame⟩ := X5.leave (v := some (.ref b2)) (fun h => by rw [Bd.returns] at h; cases h)
  refine ⟨_, ?_, hPend _ _ hrun hended ⟨_, _, rfl, ?_, ⟨_, rfl⟩, hW, hsame.mono (by decide) (by decide)⟩⟩
  · exact retOut X5 hx (t := (.array .byte)) Bd.returns rfl (Or.inr (Or.inr (Or.inr (Or.inr ⟨rfl, rfl, rfl⟩)))) (hb hby od27_32) hr
  · show Q_rm_cprb Z _ _ _ _ _ _ _ h0 n0 _ T5.heap _
    exact ⟨b2, k2, rfl, N5, K5, sz_b2, A5⟩
theorem own_ef_rm_cpr (m : MethodId) (x0 : Addr) (x1 : Int32) (x2 : Int32) : entryFrame m #[(.ref x0), (.int x1), (.int x2)] 3 = mkF m 0 #[.val (.ref x0), .val (.int x1), .val (.int x2)] [] := by first | (simp [entryFrame, mkF, argsToLocals, Value.category]; done) | rfl
theorem od28_0 : decode jdk_65_method_132_code 0 = .ok (.iload_n 1, 1) := by decide +kernel
theorem od28_1 : decode jdk_65_method_132_code 1 = .ok (.ifCond .ne 9, 3) := by decide +kernel
theorem od28_4 : decode jdk_65_method_132_code 4 = .ok (.iload_n 2, 1) := by decide +kernel
theorem od28_5 : decode jdk_65_method_132_code 5 = .ok (.aload_n 0, 1) := by decide +kernel
theorem od28_6 : decode jdk_65_method_132_code 6 = .ok (.arraylength, 1) := by decide +kernel
theorem od28_7 : decode jdk_65_method_132_code 7 = .ok (.if_icmp .eq 10, 3) := by decide +kernel
theorem od28_17 : decode jdk_65_method_132_code 17 = .ok (.aload_n 0, 1) := by decide +kernel
theorem od28_18 : decode jdk_65_method_132_code 18 = .ok (.invokevirtual 310, 3) := by decide +kernel
theorem od28_21 : decode jdk_65_method_132_code 21 = .ok (.checkcast 311, 3) := by decide +kernel
theorem od28_24 : decode jdk_65_method_132_code 24 = .ok (.areturn, 1) := by decide +kernel
theorem od28_10 : decode jdk_65_method_132_code 10 = .ok (.aload_n 0, 1) := by decide +kernel
theorem od28_11 : decode jdk_65_method_132_code 11 = .ok (.iload_n 1, 1) := by decide +kernel
theorem od28_12 : decode jdk_65_method_132_code 12 = .ok (.iload_n 2, 1) := by decide +kernel
theorem od28_13 : decode jdk_65_method_132_code 13 = .ok (.invokestatic 339, 3) := by decide +kernel
theorem own_pd16 : parseMethodDescriptor "([BII)[B" = some ⟨[(.array .byte), .int, .int], some (.array .byte)⟩ := by decide +kernel
theorem od28_16 : decode jdk_65_method_132_code 16 = .ok (.areturn, 1) := by decide +kernel
def Q_rm_cpr (Z : State) (g_CS : Int32) (p0 : Addr) (p2 : Int32) (ka : ClassId) (za : Int32) (va : List Value) (nv : Nat) (h0 : Heap) (n0 : Nat) (v : Option Value) (h : Heap) (L : List Loc) : Prop := ∃ (ob : Addr) (kb : ClassId), v = some (.ref ob) ∧ Fr n0 L ∧ Keep h0 h [] ∧ h0.size ≤ ob ∧ Arv Z h ob kb .byte p2 va (.int (0 : Int32))
set_option maxRecDepth 65536 in
set_option maxHeartbeats 40000000 in
theorem rm_cpr (l : Launch) (Z : State) (a0 : Array Value) (hw : ∀ d ∈ tables_1, d.before a0 Z = true) (ws : List Jvm.Cond) (g_CS : Int32) (S_CS : Sta Z Z.heap "java/lang/String" "COMPACT_STRINGS" "Z" (.int g_CS)) (nz_CS : ¬ (g_CS = (0 : Int32))) (p0 : Addr) (p2 : Int32) (ka : ClassId) (za : Int32) (va : List Value) (nv : Nat) (h0 : Heap) (n0 : Nat) (X00 : Old Z n0 h0) (hp0 : Exa Z h0 p0 "[B") (hp1 : Arv Z h0 p0 ka .byte za va (.int (0 : Int32))) (hnv : p2 = Int32.ofNat nv) (hvl : va.length ≤ nv) (hn64 : nv ≤ 64) (hzc : nv ≤ za.toNatClampNeg) :
    MetFree l (⟨"java/util/Arrays", "copyOfRange", "([BII)[B"⟩ : MethodName) (head1 (Jvm.Cond.code (⟨"java/util/Arrays", "copyOfRange", "([BII)[B"⟩ : MethodName) jdk_65_method_132_code 3 (some (.array .byte)) :: ws) ({ frames := 2, cells := 1, slots := 64, locals := 34 } : Room)) (fun a U => a = #[(.ref p0), (.int (0 : Int32)), (.int p2)] ∧ Z.Warmed39 U.vm ∧ U.heap = h0) (fun _ _ _ _ _ => True) (fun _ U o U' => ∃ v L, o = .returned v ∧ Q_rm_cpr Z g_CS p0 p2 ka za va nv h0 n0 v U'.heap L ∧ FrameEnd U o U' L ({ frames := 2, cells := 1, slots := 64, locals := 34 } : Room).cells ({ frames := 2, cells := 1, slots := 64, locals := 34 } : Room).slots) := by
  refine MetFree.of_bodySF (plainFor_of_name own_pn7) hisR ?_
  intro p e s m args below meth c s₁ Bd hml0 hP hK
  obtain ⟨rfl, hZ, hh⟩ := hP
  have hx := Bd.exec
  have hby := Bd.bytes
  have hml : c.maxLocals = 3 := hml0
  have hown : s.vm.findClass "java/util/Arrays" = some m.cls := findClass_of_methodNamed Bd.named
  have hnm := (name_of_methodNamed Bd.named Bd.method).1
  have X0 : Stand p l e ({ frames := 2, cells := 1, slots := 64, locals := 34 } : Room) s m #[(.ref p0), (.int (0 : Int32)), (.int p2)] below meth c s₁ [] 0 0 := Stand.of_body Bd
  have e0 : s₁.heap = h0 := by rw [← hh, Bd.state]; rfl
  have N0 := Fr.nil n0
  refine Go.start fun P hPend => ?_
  refine Go.st (fun _ k => castTop (own_ef_rm_cpr m p0 ((0 : Int32)) p2) k) ?_
  have hq2 : p2.toNatClampNeg = nv := by rw [hnv]; exact own_clamp (by omega)
  have hp2 : ¬ (p2 < 0) := by rw [hnv]; exact own_nneg (by omega)
  show Go _ _ _ _ (s₁.setTop (mkF m 0 #[lR p0, lI (0 : Int32), lI p2] []))
  refine Go.st (fun _ => XS.iloadN X0.here hx rfl (hb hby od28_0) rfl) ?_
  show Go _ _ _ _ (s₁.setTop (mkF m 1 #[lR p0, lI (0 : Int32), lI p2] [(.int (0 : Int32))]))
  refine Go.st (fun _ => XS.ifNo X0.here hx rfl (hb hby od28_1) rfl ((if0 _ _).trans (teq (by decide)).2)) ?_
  show Go _ _ _ _ (s₁.setTop (mkF m 4 #[lR p0, lI (0 : Int32), lI p2] []))
  refine Go.st (fun _ => XS.iloadN X0.here hx rfl (hb hby od28_4) rfl) ?_
  show Go _ _ _ _ (s₁.setTop (mkF m 5 #[lR p0, lI (0 : Int32), lI p2] [(.int p2)]))
  refine Go.st (fun _ => XS.aloadN X0.here hx rfl (hb hby od28_5) rfl rfl) ?_
  show Go _ _ _ _ (s₁.setTop (mkF m 6 #[lR p0, lI (0 : Int32), lI p2] [(.ref p0), (.int p2)]))
  refine Go.st (fun _ => own_len X0 hx hZ e0 hp1 (g := (mkF m 6 #[.val (.ref p0), .val (.int (0 : Int32)), .val (.int p2)] [(.ref p0), (.int p2)])) rfl rfl (hb hby od28_6) _) ?_
  show Go _ _ _ _ (s₁.setTop (mkF m 7 #[lR p0, lI (0 : Int32), lI p2] [(.int za), (.int p2)]))
  by_cases hc1 : p2 = za
  · skip
    have hcz : za.toNatClampNeg ≤ 64 := by rw [← hc1]; omega
    refine Go.st (fun _ => XS.icmpYes X0.here hx rfl (pc0 := 7) (pc' := 17) rfl (hb hby od28_7) rfl (teq hc1).1 (by decide) (by decide)) ?_
    show Go _ _ _ _ (s₁.setTop (mkF m 17 #[lR p0, lI (0 : Int32), lI p2] []))
    refine Go.st (fun _ => XS.aloadN X0.here hx rfl (hb hby od28_17) rfl rfl) ?_
    show Go _ _ _ _ (s₁.setTop (mkF m 18 #[lR p0, lI (0 : Int32), lI p2] [(.ref p0)]))
    obtain ⟨T2, h2, X2, e2, E2, A2, B2, st2⟩ := cloneH X0 hx hZ hown (ow hw 239 rfl) (ow hw 240 rfl) (ow hw 244 rfl) (ow hw 242 rfl) (ow hw 243 rfl) (ow hw 245 rfl) e0 (Arv.arh hp1) hp0 (g := (mkF m 18 #[.val (.ref p0), .val (.int (0 : Int32)), .val (.int p2)] [(.ref p0)])) rfl (by rw [hml]; rfl) rfl (hb hby od28_18) (by decide) (W := 0) (cap := 64) (by show 2 * 0 + _ ≤ _; exact Nat.le_of_eq rfl) (by decide) hcz (by decide) (by decide)
    obtain ⟨b2, g2⟩ : ∃ z, z = h0.size := ⟨_, rfl⟩
    rw [← g2] at A2 B2 st2
    refine Go.st st2 ?_
    have g_b2 : n0 ≤ b2 := Nat.le_trans (own_oldsz X00) (Nat.le_of_eq g2.symm)
    have sz_b2 : h0.size ≤ b2 := Nat.le_trans (Keep.refl h0 []).1 (Nat.le_of_eq g2.symm)
    have K2 : Keep h0 h2 [] := (Keep.refl h0 []).ext E2
    have O2 := X00.ext E2
    have V2 : Arv Z h2 b2 ka .byte za va (.int (0 : Int32)) := A2
    show Go _ _ _ _ (T2.setTop (mkF m 21 #[lR p0, lI (0 : Int32), lI p2] [(.ref b2)]))
    obtain ⟨T3, X3, e3, st3⟩ := castY X2 hx hZ hown (ow hw 246 rfl) e2 (Ins.self B2) (g := (mkF m 21 #[.val (.ref p0), .val (.int (0 : Int32)), .val (.int p2)] [(.ref b2)])) rfl rfl (hb hby od28_21)
    refine Go.st st3 ?_
    show Go _ _ _ _ (T3.setTop (mkF m 24 #[lR p0, lI (0 : Int32), lI p2] [(.ref b2)]))
    obtain ⟨fs, hr, hrun, hended, hW, hsame⟩ := X3.leave (v := some (.ref b2)) (fun h => by rw [Bd.returns] at h; cases h)
    refine ⟨_, ?_, hPend _ _ hrun hended ⟨_, _, rfl, ?_, ⟨_, rfl⟩, hW, hsame.mono (by decide) (by decide)⟩⟩
    · exact retOut X3 hx (t := (.array .byte)) Bd.returns rfl (Or.inr (Or.inr (Or.inr (Or.inr ⟨rfl, rfl, rfl⟩)))) (hb hby od28_24) hr
    · show Q_rm_cpr Z _ _ _ _ _ _ _ h0 n0 _ T3.heap _
      rw [e3]
      exact ⟨b2, ka, rfl, N0, K2, sz_b2, (by rw [(by assumption : p2 = za)]; exact V2)⟩
  · skip
    have hlt : p2 < za := own_ltz (own_arvnn hp1) hnv hzc hc1
    refine Go.st (fun _ => XS.icmpNo X0.here hx rfl (hb hby od28_7) rfl (feq hc1).1) ?_
    show Go _ _ _ _ (s₁.setTop (mkF m 10 #[lR p0, lI (0 : Int32), lI p2] []))
    refine Go.st (fun _ => XS.aloadN X0.here hx rfl (hb hby od28_10) rfl rfl) ?_
    show Go _ _ _ _ (s₁.setTop (mkF m 11 #[lR p0, lI (0 : Int32), lI p2] [(.ref p0)]))
    refine Go.st (fun _ => XS.iloadN X0.here hx rfl (hb hby od28_11) rfl) ?_
    show Go _ _ _ _ (s₁.setTop (mkF m 12 #[lR p0, lI (0 : Int32), lI p2] [(.int (0 : Int32)), (.ref p0)]))
    refine Go.st (fun _ => XS.iloadN X0.here hx rfl (hb hby od28_12) rfl) ?_
    show Go _ _ _ _ (s₁.setTop (mkF m 13 #[lR p0, lI (0 : Int32), lI p2] [(.int p2), (.int (0 : Int32)), (.ref p0)]))
    obtain ⟨_, _, ⟨T4, L4, k4, n4⟩, -, X4, ⟨Lc4, hQ4, l4, y4, z4⟩, st4⟩ := Jvm.LawKit.callS X0 hx (y := (⟨"java/util/Arrays", "copyOfRangeByte", "([BII)[B"⟩ : MethodName)) hown (mvT hZ (ow hw 191 rfl)) (mvT hZ (ow hw 192 rfl)) (mvT hZ (ow hw 152 rfl)) (mvT hZ (ow hw 193 rfl)) (by decide) (backOf (W := 0) (rm_cprb l Z a0 hw [] g_CS S_CS nz_CS p0 p2 ka za va nv h0 n0 X00 hp1 hnv hvl hn64 hlt hp2 hq2 hzc) hZ (ow hw 193 rfl) (ow hw 152 rfl) (by decide) (by decide)) (g := (mkF m 13 #[.val (.ref p0), .val (.int (0 : Int32)), .val (.int p2)] [(.int p2), (.int (0 : Int32)), (.ref p0)])) rfl (by rw [hml]; rfl) (argsL := [(.ref p0), (.int (0 : Int32)), (.int p2)]) (rest := []) (lenOf own_pd16 rfl) rfl (by show 2 * 0 + _ ≤ _; exact Nat.le_of_eq rfl) (hb hby od28_13) (fun _ _ => ⟨rfl, e0, (by decide : 0 + 1 ≤ _), (by decide : 0 + 64 ≤ _)⟩)
    dsimp only [Pt.U, Pt.locs, Pt.cells, Pt.slots] at X4 l4 y4 z4 st4 hQ4
    subst y4 z4
    refine Go.st st4 ?_
    obtain ⟨ob_5, kb_6, rfl, N4q, K4q, q4_0, q4_1⟩ := hQ4
    have N4 : Fr n0 L4 := by rw [l4]; exact Fr.app N0 N4q
    have O4 := X00.keep K4q all0
    have K4 : Keep h0 T4.heap [] := (Keep.refl h0 []).trans K4q all0
    have sz_ob_5 : h0.size ≤ ob_5 := Nat.le_trans (Keep.refl h0 []).1 q4_0
    have g_ob_5 : n0 ≤ ob_5 := Nat.le_trans (own_oldsz X00) sz_ob_5
    show Go _ _ _ _ (T4.setTop (mkF m 16 #[lR p0, lI (0 : Int32), lI p2] [(.ref ob_5)]))
    obtain ⟨fs, hr, hrun, hended, hW, hsame⟩ := X4.leave (v := some (.ref ob_5)) (fun h => by rw [Bd.returns] at h; cases h)
    refine ⟨_, ?_, hPend _ _ hrun hended ⟨_, _, rfl, ?_, ⟨_, rfl⟩, hW, hsame.mono (by decide) (by decide)⟩⟩
    · exact retOut X4 hx (t := (.array .byte)) Bd.returns rfl (Or.inr (Or.inr (Or.inr (Or.inr ⟨rfl, rfl, rfl⟩)))) (hb hby od28_16) hr
    · show Q_rm_cpr Z _ _ _ _ _ _ _ h0 n0 _ T4.heap _
      exact ⟨ob_5, kb_6, rfl, N4, K4, sz_ob_5, q4_1⟩
theorem own_ef_rm_sini2 (m : MethodId) (x0 : Addr) (x1 : Addr) : entryFrame m #[(.ref x0), (.ref x1), .null] 5 = mkF m 0 #[.val (.ref x0), .val (.ref x1), .val .null, .unset, .unset] [] := by first | (simp [entryFrame, mkF, argsToLocals, Value.category]; done) | rfl
theorem od29_0 : decode jdk_42_method_150_code 0 = .ok (.aload_n 0, 1) := by decide +kernel
theorem od29_1 : decode jdk_42_method_150_code 1 = .ok (.invokespecial 1, 3) := by decide +kernel
theorem od29_4 : decode jdk_42_method_150_code 4 = .ok (.aload_n 1, 1) := by decide +kernel
theorem od29_5 : decode jdk_42_method_150_code 5 = .ok (.invokevirtual 552, 3) := by decide +kernel
theorem own_pd17 : parseMethodDescriptor "()[B" = some ⟨[], some (.array .byte)⟩ := by decide +kernel
theorem od29_8 : decode jdk_42_method_150_code 8 = .ok (.astore_n 3, 1) := by decide +kernel
theorem od29_9 : decode jdk_42_method_150_code 9 = .ok (.aload_n 1, 1) := by decide +kernel
theorem od29_10 : decode jdk_42_method_150_code 10 = .ok (.invokevirtual 549, 3) := by decide +kernel
theorem od29_13 : decode jdk_42_method_150_code 13 = .ok (.istore 4, 2) := by decide +kernel
theorem od29_15 : decode jdk_42_method_150_code 15 = .ok (.aload_n 1, 1) := by decide +kernel
theorem od29_16 : decode jdk_42_method_150_code 16 = .ok (.invokevirtual 1047, 3) := by decide +kernel
theorem own_pd18 : parseMethodDescriptor "()Z" = some ⟨[], some .boolean⟩ := by decide +kernel
theorem od29_19 : decode jdk_42_method_150_code 19 = .ok (.ifCond .eq 22, 3) := by decide +kernel
theorem od29_22 : decode jdk_42_method_150_code 22 = .ok (.aload_n 0, 1) := by decide +kernel
theorem od29_23 : decode jdk_42_method_150_code 23 = .ok (.iconst 0, 1) := by decide +kernel
theorem od29_24 : decode jdk_42_method_150_code 24 = .ok (.putfield 15, 3) := by decide +kernel
theorem od29_27 : decode jdk_42_method_150_code 27 = .ok (.aload_n 0, 1) := by decide +kernel
theorem od29_28 : decode jdk_42_method_150_code 28 = .ok (.aload_n 3, 1) := by decide +kernel
theorem od29_29 : decode jdk_42_method_150_code 29 = .ok (.iconst 0, 1) := by decide +kernel
theorem od29_30 : decode jdk_42_method_150_code 30 = .ok (.iload 4, 2) := by decide +kernel
theorem od29_32 : decode jdk_42_method_150_code 32 = .ok (.invokestatic 54, 3) := by decide +kernel
theorem od29_35 : decode jdk_42_method_150_code 35 = .ok (.putfield 9, 3) := by decide +kernel
theorem od29_38 : decode jdk_42_method_150_code 38 = .ok (.goto 59, 3) := by decide +kernel
theorem od29_97 : decode jdk_42_method_150_code 97 = .ok (.return_, 1) := by decide +kernel
def Q_rm_sini2 (Z : State) (g_CS : Int32) (p0 : Addr) (p1 : Addr) (pcs : List Int32) (arr : Addr) (ka : ClassId) (za : Int32) (h0 : Heap) (n0 : Nat) (v : Option Value) (h : Heap) (L : List Loc) : Prop := ∃ (ob : Addr) (kb : ClassId), v = none ∧ Fr n0 L ∧ Keep h0 h [p0] ∧ h0.size ≤ ob ∧ Exa Z h p0 "java/lang/String" ∧ Fld Z h p0 "java/lang/String" "coder" "B" (.int (0 : Int32)) ∧ Fld Z h p0 "java/lang/String" "value" "[B" (.ref ob) ∧ Arv Z h ob kb .byte (Int32.ofNat pcs.length) ((pcs.map StrChars.lo8).map Value.int) (.int (0 : Int32))
set_option maxRecDepth 65536 in
set_option maxHeartbeats 40000000 in
theorem rm_sini2 (l : Launch) (Z : State) (a0 : Array Value) (hw : ∀ d ∈ tables_1, d.before a0 Z = true) (ws : List Jvm.Cond) (g_CS : Int32) (S_CS : Sta Z Z.heap "java/lang/String" "COMPACT_STRINGS" "Z" (.int g_CS)) (nz_CS : ¬ (g_CS = (0 : Int32))) (p0 : Addr) (p1 : Addr) (pcs : List Int32) (arr : Addr) (ka : ClassId) (za : Int32) (h0 : Heap) (n0 : Nat) (X00 : Old Z n0 h0) (hp0 : Exa Z h0 p0 "java/lang/String") (hp1 : Fld Z h0 p0 "java/lang/String" "value" "[B" .null) (hp2 : Fld Z h0 p0 "java/lang/String" "coder" "B" (.int (0 : Int32))) (hp3 : n0 ≤ p0) (hp4 : Exa Z h0 p1 "java/lang/StringBuilder") (hp5 : Fld Z h0 p1 "java/lang/AbstractStringBuilder" "value" "[B" (.ref arr)) (hp6 : Fld Z h0 p1 "java/lang/AbstractStringBuilder" "coder" "B" (.int (0 : Int32))) (hp7 : Fld Z h0 p1 "java/lang/AbstractStringBuilder" "count" "I" (.int (Int32.ofNat pcs.length))) (hp8 : Exa Z h0 arr "[B") (hp9 : Arv Z h0 arr ka .byte za ((pcs.map StrChars.lo8).map Value.int) (.int (0 : Int32))) (hcap : pcs.length ≤ za.toNatClampNeg) (hn64 : pcs.length ≤ 64) :
    MetFree l (⟨"java/lang/String", "<init>", "(Ljava/lang/AbstractStringBuilder;Ljava/lang/Void;)V"⟩ : MethodName) (head1 (Jvm.Cond.code (⟨"java/lang/String", "<init>", "(Ljava/lang/AbstractStringBuilder;Ljava/lang/Void;)V"⟩ : MethodName) jdk_42_method_150_code 5 none :: ws) ({ frames := 3, cells := 1, slots := 64, locals := 49 } : Room)) (fun a U => a = #[(.ref p0), (.ref p1), .null] ∧ Z.Warmed39 U.vm ∧ U.heap = h0) (fun _ _ _ _ _ => True) (fun _ U o U' => ∃ v L, o = .returned v ∧ Q_rm_sini2 Z g_CS p0 p1 pcs arr ka za h0 n0 v U'.heap L ∧ FrameEnd U o U' L ({ frames := 3, cells := 1, slots := 64, locals := 49 } : Room).cells ({ frames := 3, cells := 1, slots := 64, locals := 49 } : Room).slots) := by
  refine MetFree.of_bodySF (plainFor_of_name own_pn0) hisR ?_
  intro p e s m args below meth c s₁ Bd hml0 hP hK
  obtain ⟨rfl, hZ, hh⟩ := hP
  have hx := Bd.exec
  have hby := Bd.bytes
  have hml : c.maxLocals = 5 := hml0
  have hown : s.vm.findClass "java/lang/String" = some m.cls := findClass_of_methodNamed Bd.named
  have hnm := (name_of_methodNamed Bd.named Bd.method).1
  have X0 : Stand p l e ({ frames := 3, cells := 1, slots := 64, locals := 49 } : Room) s m #[(.ref p0), (.ref p1), .null] below meth c s₁ [] 0 0 := Stand.of_body Bd
  have e0 : s₁.heap = h0 := by rw [← hh, Bd.state]; rfl
  have N0 := Fr.nil n0
  refine Go.start fun P hPend => ?_
  refine Go.st (fun _ k => castTop (own_ef_rm_sini2 m p0 p1) k) ?_
  show Go _ _ _ _ (s₁.setTop (mkF m 0 #[lR p0, lR p1, lN, lU, lU] []))
  refine Go.st (fun _ => XS.aloadN X0.here hx rfl (hb hby od29_0) rfl rfl) ?_
  show Go _ _ _ _ (s₁.setTop (mkF m 1 #[lR p0, lR p1, lN, lU, lU] [(.ref p0)]))
  obtain ⟨T1, X1, e1, st1⟩ := initO X0 hx hZ hown (ow hw 15 rfl) (ow hw 16 rfl) (ow hw 17 rfl) e0 (g := (mkF m 1 #[.val (.ref p0), .val (.ref p1), .val .null, .unset, .unset] [(.ref p0)])) rfl (by rw [hml]; rfl) rfl (hb hby od29_1) (by decide) (W := 0) (by show 2 * 0 + _ ≤ _; exact Nat.le_of_eq rfl) (by decide)
  refine Go.st st1 ?_
  show Go _ _ _ _ (T1.setTop (mkF m 4 #[lR p0, lR p1, lN, lU, lU] []))
  refine Go.st (fun _ => XS.aloadN X1.here hx rfl (hb hby od29_4) rfl rfl) ?_
  show Go _ _ _ _ (T1.setTop (mkF m 5 #[lR p0, lR p1, lN, lU, lU] [(.ref p1)]))
  obtain ⟨cq2, kq2, q2a, q2b, q2c⟩ := isOf hZ e1 hp4
  obtain ⟨_, _, ⟨T2, L2, k2, n2⟩, -, X2, ⟨Lc2, hQ2, l2, y2, z2⟩, st2⟩ := X1.virtualBack hx (y := (⟨"java/lang/AbstractStringBuilder", "getValue", "()[B"⟩ : MethodName)) (z := (⟨"java/lang/AbstractStringBuilder", "getValue", "()[B"⟩ : MethodName)) hown (mvT hZ (ow hw 170 rfl)) (mvT hZ (ow hw 171 rfl)) (notFace_of_selects (args := #[]) (mvT hZ (ow hw 173 rfl))) (mvT hZ (ow hw 173 rfl)) (mvT hZ (ow hw 172 rfl)) (by decide) (backOf (W := 0) (rm_getv l Z a0 hw [] g_CS S_CS nz_CS p1 arr h0 n0 X00 hp5) hZ (ow hw 174 rfl) (ow hw 77 rfl) (by decide) (by decide)) q2a q2c (g := (mkF m 5 #[.val (.ref p0), .val (.ref p1), .val .null, .unset, .unset] [(.ref p1)])) rfl (by rw [hml]; rfl) (Steps.refl _) (argsL := []) (rest := []) (lenOf own_pd17 rfl) rfl (by show 2 * 0 + _ ≤ _; exact Nat.le_of_eq rfl) (hb hby od29_5) (fun _ _ => ⟨rfl, e1, (by decide : 0 + 0 ≤ _), (by decide : 0 + 0 ≤ _)⟩)
  dsimp only [Pt.U, Pt.locs, Pt.cells, Pt.slots] at X2 l2 y2 z2 st2 hQ2
  subst y2 z2
  refine Go.tr st2 ?_
  obtain ⟨rfl, N2q, e2⟩ := hQ2
  have N2 : Fr n0 L2 := by rw [l2]; exact Fr.app N0 N2q
  show Go _ _ _ _ (T2.setTop (mkF m 8 #[lR p0, lR p1, lN, lU, lU] [(.ref arr)]))
  refine Go.st (fun _ => XS.astoreN X2.here hx rfl (hb hby od29_8) rfl rfl (l' := #[.val (.ref p0), .val (.ref p1), .val .null, .val (.ref arr), .unset]) rfl) ?_
  show Go _ _ _ _ (T2.setTop (mkF m 9 #[lR p0, lR p1, lN, lR arr, lU] []))
  refine Go.st (fun _ => XS.aloadN X2.here hx rfl (hb hby od29_9) rfl rfl) ?_
  show Go _ _ _ _ (T2.setTop (mkF m 10 #[lR p0, lR p1, lN, lR arr, lU] [(.ref p1)]))
  obtain ⟨cq3, kq3, q3a, q3b, q3c⟩ := isOf hZ e2 hp4
  obtain ⟨_, _, ⟨T3, L3, k3, n3⟩, -, X3, ⟨Lc3, hQ3, l3, y3, z3⟩, st3⟩ := X2.virtualBack hx (y := (⟨"java/lang/AbstractStringBuilder", "length", "()I"⟩ : MethodName)) (z := (⟨"java/lang/StringBuilder", "length", "()I"⟩ : MethodName)) hown (mvT hZ (ow hw 175 rfl)) (mvT hZ (ow hw 176 rfl)) (own_nf (args := #[]) (mvT hZ (ow hw 111 rfl)) rfl) (mvT hZ (ow hw 178 rfl)) (mvT hZ (ow hw 179 rfl)) (by decide) (backOf (W := 0) (rm_slen l Z a0 hw [] g_CS S_CS nz_CS p1 (Int32.ofNat pcs.length) h0 n0 X00 hp4 hp7) hZ (ow hw 180 rfl) (ow hw 69 rfl) (by decide) (by decide)) q3a q3c (g := (mkF m 10 #[.val (.ref p0), .val (.ref p1), .val .null, .val (.ref arr), .unset] [(.ref p1)])) rfl (by rw [hml]; rfl) (Steps.refl _) (argsL := []) (rest := []) (lenOf own_pd8 rfl) rfl (by show 2 * 0 + _ ≤ _; exact Nat.le_of_eq rfl) (hb hby od29_10) (fun _ _ => ⟨rfl, e2, (by decide : 0 + 0 ≤ _), (by decide : 0 + 0 ≤ _)⟩)
  dsimp only [Pt.U, Pt.locs, Pt.cells, Pt.slots] at X3 l3 y3 z3 st3 hQ3
  subst y3 z3
  refine Go.tr st3 ?_
  obtain ⟨rfl, N3q, e3⟩ := hQ3
  have N3 : Fr n0 L3 := by rw [l3]; exact Fr.app N2 N3q
  show Go _ _ _ _ (T3.setTop (mkF m 13 #[lR p0, lR p1, lN, lR arr, lU] [(.int (Int32.ofNat pcs.length))]))
  refine Go.st (fun _ => XS.istore X3.here hx rfl (hb hby od29_13) rfl (l' := #[.val (.ref p0), .val (.ref p1), .val .null, .val (.ref arr), .val (.int (Int32.ofNat pcs.length))]) rfl) ?_
  show Go _ _ _ _ (T3.setTop (mkF m 15 #[lR p0, lR p1, lN, lR arr, lI (Int32.ofNat pcs.length)] []))
  refine Go.st (fun _ => XS.aloadN X3.here hx rfl (hb hby od29_15) rfl rfl) ?_
  show Go _ _ _ _ (T3.setTop (mkF m 16 #[lR p0, lR p1, lN, lR arr, lI (Int32.ofNat pcs.length)] [(.ref p1)]))
  obtain ⟨cq4, kq4, q4a, q4b, q4c⟩ := isOf hZ e3 hp4
  obtain ⟨_, _, ⟨T4, L4, k4, n4⟩, -, X4, ⟨Lc4, hQ4, l4, y4, z4⟩, st4⟩ := X3.virtualBack hx (y := (⟨"java/lang/AbstractStringBuilder", "isLatin1", "()Z"⟩ : MethodName)) (z := (⟨"java/lang/AbstractStringBuilder", "isLatin1", "()Z"⟩ : MethodName)) hown (mvT hZ (ow hw 183 rfl)) (mvT hZ (ow hw 184 rfl)) (notFace_of_selects (args := #[]) (mvT hZ (ow hw 186 rfl))) (mvT hZ (ow hw 186 rfl)) (mvT hZ (ow hw 185 rfl)) (by decide) (backOf (W := 0) (rm_isl1 l Z a0 hw [] g_CS S_CS nz_CS p1 h0 n0 X00 hp6) hZ (ow hw 187 rfl) (ow hw 77 rfl) (by decide) (by decide)) q4a q4c (g := (mkF m 16 #[.val (.ref p0), .val (.ref p1), .val .null, .val (.ref arr), .val (.int (Int32.ofNat pcs.length))] [(.ref p1)])) rfl (by rw [hml]; rfl) (Steps.refl _) (argsL := []) (rest := []) (lenOf own_pd18 rfl) rfl (by show 2 * 0 + _ ≤ _; exact Nat.le_of_eq rfl) (hb hby od29_16) (fun _ _ => ⟨rfl, e3, (by decide : 0 + 0 ≤ _), (by decide : 0 + 0 ≤ _)⟩)
  dsimp only [Pt.U, Pt.locs, Pt.cells, Pt.slots] at X4 l4 y4 z4 st4 hQ4
  subst y4 z4
  refine Go.tr st4 ?_
  obtain ⟨rfl, N4q, e4⟩ := hQ4
  have N4 : Fr n0 L4 := by rw [l4]; exact Fr.app N3 N4q
  show Go _ _ _ _ (T4.setTop (mkF m 19 #[lR p0, lR p1, lN, lR arr, lI (Int32.ofNat pcs.length)] [(.int (1 : Int32))]))
  refine Go.st (fun _ => XS.ifNo X4.here hx rfl (hb hby od29_19) rfl ((if0 _ _).trans (feq (by decide)).1)) ?_
  show Go _ _ _ _ (T4.setTop (mkF m 22 #[lR p0, lR p1, lN, lR arr, lI (Int32.ofNat pcs.length)] []))
  refine Go.st (fun _ => XS.aloadN X4.here hx rfl (hb hby od29_22) rfl rfl) ?_
  show Go _ _ _ _ (T4.setTop (mkF m 23 #[lR p0, lR p1, lN, lR arr, lI (Int32.ofNat pcs.length)] [(.ref p0)]))
  refine Go.st (fun _ => XS.iconst X4.here hx rfl (hb hby od29_23)) ?_
  show Go _ _ _ _ (T4.setTop (mkF m 24 #[lR p0, lR p1, lN, lR arr, lI (Int32.ofNat pcs.length)] [(.int (0 : Int32)), (.ref p0)]))
  obtain ⟨T5, h5, X5, e5, W5, st5⟩ := putF X4 hx hZ hown (host := "") (Or.inl (ow hw 25 rfl)) Via.refl e4 hp2 hp0 (Or.inr ⟨(ow hw 21 rfl), rfl, hnm⟩) (ow hw 5 rfl) (ty := .byte) (by decide) rfl rfl (g := (mkF m 24 #[.val (.ref p0), .val (.ref p1), .val .null, .val (.ref arr), .val (.int (Int32.ofNat pcs.length))] [(.int (0 : Int32)), (.ref p0)])) rfl rfl (hb hby od29_24)
  refine Go.st st5 ?_
  have K5 : Keep h0 h5 [p0] := (Keep.refl h0 [p0]).wr W5 (Or.inl (List.mem_of_getElem? (i := 0) rfl))
  have O5 := X00.wr W5 hp3
  have N5 := Fr.snoc X5 N4 hp3
  have F5 := hp2.same W5
  show Go _ _ _ _ (T5.setTop (mkF m 27 #[lR p0, lR p1, lN, lR arr, lI (Int32.ofNat pcs.length)] []))
  refine Go.st (fun _ => XS.aloadN X5.here hx rfl (hb hby od29_27) rfl rfl) ?_
  show Go _ _ _ _ (T5.setTop (mkF m 28 #[lR p0, lR p1, lN, lR arr, lI (Int32.ofNat pcs.length)] [(.ref p0)]))
  refine Go.st (fun _ => XS.aloadN X5.here hx rfl (hb hby od29_28) rfl rfl) ?_
  show Go _ _ _ _ (T5.setTop (mkF m 29 #[lR p0, lR p1, lN, lR arr, lI (Int32.ofNat pcs.length)] [(.ref arr), (.ref p0)]))
  refine Go.st (fun _ => XS.iconst X5.here hx rfl (hb hby od29_29)) ?_
  show Go _ _ _ _ (T5.setTop (mkF m 30 #[lR p0, lR p1, lN, lR arr, lI (Int32.ofNat pcs.length)] [(.int (0 : Int32)), (.ref arr), (.ref p0)]))
  refine Go.st (fun _ => XS.iload X5.here hx rfl (hb hby od29_30) rfl) ?_
  show Go _ _ _ _ (T5.setTop (mkF m 32 #[lR p0, lR p1, lN, lR arr, lI (Int32.ofNat pcs.length)] [(.int (Int32.ofNat pcs.length)), (.int (0 : Int32)), (.ref arr), (.ref p0)]))
  have c7 := (hp8.wr W5)
  have c8 := (hp9.other W5 (Ne.symm (Exa.neArv hp0 hp9 (ow hw 5 rfl))))
  have c9 := (hp0.wr W5)
  have c10 := (hp4.wr W5)
  obtain ⟨_, _, ⟨T6, L6, k6, n6⟩, -, X6, ⟨Lc6, hQ6, l6, y6, z6⟩, st6⟩ := Jvm.LawKit.callS X5 hx (y := (⟨"java/util/Arrays", "copyOfRange", "([BII)[B"⟩ : MethodName)) hown (mvT hZ (ow hw 188 rfl)) (mvT hZ (ow hw 189 rfl)) (mvT hZ (ow hw 152 rfl)) (mvT hZ (ow hw 190 rfl)) (by decide) (backOf (W := 1) (rm_cpr l Z a0 hw [] g_CS S_CS nz_CS arr (Int32.ofNat pcs.length) ka za ((pcs.map StrChars.lo8).map Value.int) pcs.length h5 n0 O5 c7 c8 rfl (by rw [List.length_map, List.length_map]; exact Nat.le_refl _) hn64 hcap) hZ (ow hw 190 rfl) (ow hw 152 rfl) (by decide) (by decide)) (g := (mkF m 32 #[.val (.ref p0), .val (.ref p1), .val .null, .val (.ref arr), .val (.int (Int32.ofNat pcs.length))] [(.int (Int32.ofNat pcs.length)), (.int (0 : Int32)), (.ref arr), (.ref p0)])) rfl (by rw [hml]; rfl) (argsL := [(.ref arr), (.int (0 : Int32)), (.int (Int32.ofNat pcs.length))]) (rest := [(.ref p0)]) (lenOf own_pd16 rfl) rfl (by show 2 * 0 + _ ≤ _; exact Nat.le_of_eq rfl) (hb hby od29_32) (fun _ _ => ⟨rfl, e5, (by decide : 0 + 1 ≤ _), (by decide : 0 + 64 ≤ _)⟩)
  dsimp only [Pt.U, Pt.locs, Pt.cells, Pt.slots] at X6 l6 y6 z6 st6 hQ6
  subst y6 z6
  refine Go.st st6 ?_
  obtain ⟨ob_11, kb_12, rfl, N6q, K6q, q6_0, q6_1⟩ := hQ6
  have N6 : Fr n0 L6 := by rw [l6]; exact Fr.app N5 N6q
  have O6 := O5.keep K6q all0
  have K6 : Keep h0 T6.heap [p0] := K5.trans K6q all0
  have sz_ob_11 : h0.size ≤ ob_11 := Nat.le_trans K5.1 q6_0
  have g_ob_11 : n0 ≤ ob_11 := Nat.le_trans (own_oldsz X00) sz_ob_11
  show Go _ _ _ _ (T6.setTop (mkF m 35 #[lR p0, lR p1, lN, lR arr, lI (Int32.ofNat pcs.length)] [(.ref ob_11), (.ref p0)]))
  have c13 := ((hp1.other W5 (Or.inr (slot_ne (Or.inr (ow hw 20 rfl)) (Or.inr (ow hw 21 rfl)) (by decide) (t := (.array .byte)) (t' := .byte) (by decide) (by decide)))).keep K6q nin0)
  have c14 := (c9.keep K6q)
  obtain ⟨T15, h15, X15, e15, W15, st15⟩ := putF X6 hx hZ hown (host := "") (Or.inl (ow hw 24 rfl)) Via.refl rfl c13 c14 (Or.inr ⟨(ow hw 20 rfl), rfl, hnm⟩) (ow hw 5 rfl) (ty := (.array .byte)) (by decide) rfl rfl (g := (mkF m 35 #[.val (.ref p0), .val (.ref p1), .val .null, .val (.ref arr), .val (.int (Int32.ofNat pcs.length))] [(.ref ob_11), (.ref p0)])) rfl rfl (hb hby od29_35)
  refine Go.st st15 ?_
  have K15 : Keep h0 h15 [p0] := K6.wr W15 (Or.inl (List.mem_of_getElem? (i := 0) rfl))
  have O15 := O6.wr W15 hp3
  have N15 := Fr.snoc X15 N6 hp3
  have F15 := c13.same W15
  show Go _ _ _ _ (T15.setTop (mkF m 38 #[lR p0, lR p1, lN, lR arr, lI (Int32.ofNat pcs.length)] []))
  refine Go.st (fun _ => XS.goto X15.here hx rfl (pc0 := 38) (pc' := 97) rfl (hb hby od29_38) (by decide) (by decide)) ?_
  show Go _ _ _ _ (T15.setTop (mkF m 97 #[lR p0, lR p1, lN, lR arr, lI (Int32.ofNat pcs.length)] []))
  obtain ⟨fs, hr, hrun, hended, hW, hsame⟩ := X15.leave (v := none) (fun _ => rfl)
  refine ⟨_, ?_, hPend _ _ hrun hended ⟨_, _, rfl, ?_, ⟨_, rfl⟩, hW, hsame.mono (by decide) (by decide)⟩⟩
  · exact X15.returnOut hx Bd.returns (hb hby od29_97) hr
  · show Q_rm_sini2 Z _ _ _ _ _ _ _ h0 n0 _ T15.heap _
    rw [e15]
    have c16 := (c14.wr W15)
    have c17 := ((F5.keep K6q nin0).other W15 (Or.inr (slot_ne (Or.inr (ow hw 21 rfl)) (Or.inr (ow hw 20 rfl)) (by decide) (t := .byte) (t' := (.array .byte)) (by decide) (by decide))))
    have c18 := (q6_1.other W15 (Ne.symm (Nat.ne_of_lt (Nat.lt_of_lt_of_le c9.lt q6_0))))
    exact ⟨ob_11, kb_12, rfl, N15, K15, sz_ob_11, c16, c17, F15, c18⟩
theorem own_ef_rm_sini1 (m : MethodId) (x0 : Addr) (x1 : Addr) : entryFrame m #[(.ref x0), (.ref x1)] 2 = mkF m 0 #[.val (.ref x0), .val (.ref x1)] [] := by first | (simp [entryFrame, mkF, argsToLocals, Value.category]; done) | rfl
theorem od30_0 : decode jdk_42_method_53_code 0 = .ok (.aload_n 0, 1) := by decide +kernel
theorem od30_1 : decode jdk_42_method_53_code 1 = .ok (.aload_n 1, 1) := by decide +kernel
theorem od30_2 : decode jdk_42_method_53_code 2 = .ok (.aconst_null, 1) := by decide +kernel
theorem od30_3 : decode jdk_42_method_53_code 3 = .ok (.invokespecial 489, 3) := by decide +kernel
theorem own_pd19 : parseMethodDescriptor "(Ljava/lang/AbstractStringBuilder;Ljava/lang/Void;)V" = some ⟨[(.object "java/lang/AbstractStringBuilder"), (.object "java/lang/Void")], none⟩ := by decide +kernel
theorem od30_6 : decode jdk_42_method_53_code 6 = .ok (.return_, 1) := by decide +kernel
def Q_rm_sini1 (Z : State) (g_CS : Int32) (p0 : Addr) (p1 : Addr) (pcs : List Int32) (arr : Addr) (ka : ClassId) (za : Int32) (h0 : Heap) (n0 : Nat) (v : Option Value) (h : Heap) (L : List Loc) : Prop := ∃ (ob : Addr) (kb : ClassId), v = none ∧ Fr n0 L ∧ Keep h0 h [p0] ∧ h0.size ≤ ob ∧ Exa Z h p0 "java/lang/String" ∧ Fld Z h p0 "java/lang/String" "coder" "B" (.int (0 : Int32)) ∧ Fld Z h p0 "java/lang/String" "value" "[B" (.ref ob) ∧ Arv Z h ob kb .byte (Int32.ofNat pcs.length) ((pcs.map StrChars.lo8).map Value.int) (.int (0 : Int32))
set_option maxRecDepth 65536 in
set_option maxHeartbeats 40000000 in
theorem rm_sini1 (l : Launch) (Z : State) (a0 : Array Value) (hw : ∀ d ∈ tables_1, d.before a0 Z = true) (ws : List Jvm.Cond) (g_CS : Int32) (S_CS : Sta Z Z.heap "java/lang/String" "COMPACT_STRINGS" "Z" (.int g_CS)) (nz_CS : ¬ (g_CS = (0 : Int32))) (p0 : Addr) (p1 : Addr) (pcs : List Int32) (arr : Addr) (ka : ClassId) (za : Int32) (h0 : Heap) (n0 : Nat) (X00 : Old Z n0 h0) (hp0 : Exa Z h0 p0 "java/lang/String") (hp1 : Fld Z h0 p0 "java/lang/String" "value" "[B" .null) (hp2 : Fld Z h0 p0 "java/lang/String" "coder" "B" (.int (0 : Int32))) (hp3 : n0 ≤ p0) (hp4 : Exa Z h0 p1 "java/lang/StringBuilder") (hp5 : Fld Z h0 p1 "java/lang/AbstractStringBuilder" "value" "[B" (.ref arr)) (hp6 : Fld Z h0 p1 "java/lang/AbstractStringBuilder" "coder" "B" (.int (0 : Int32))) (hp7 : Fld Z h0 p1 "java/lang/AbstractStringBuilder" "count" "I" (.int (Int32.ofNat pcs.length))) (hp8 : Exa Z h0 arr "[B") (hp9 : Arv Z h0 arr ka .byte za ((pcs.map StrChars.lo8).map Value.int) (.int (0 : Int32))) (hcap : pcs.length ≤ za.toNatClampNeg) (hn64 : pcs.length ≤ 64) :
    MetFree l (⟨"java/lang/String", "<init>", "(Ljava/lang/StringBuilder;)V"⟩ : MethodName) (head1 (Jvm.Cond.code (⟨"java/lang/String", "<init>", "(Ljava/lang/StringBuilder;)V"⟩ : MethodName) jdk_42_method_53_code 2 none :: ws) ({ frames := 4, cells := 1, slots := 64, locals := 65 } : Room)) (fun a U => a = #[(.ref p0), (.ref p1)] ∧ Z.Warmed39 U.vm ∧ U.heap = h0) (fun _ _ _ _ _ => True) (fun _ U o U' => ∃ v L, o = .returned v ∧ Q_rm_sini1 Z g_CS p0 p1 pcs arr ka za h0 n0 v U'.heap L ∧ FrameEnd U o U' L ({ frames := 4, cells := 1, slots := 64, locals := 65 } : Room).cells ({ frames := 4, cells := 1, slots := 64, locals := 65 } : Room).slots) := by
  refine MetFree.of_bodySF (plainFor_of_name own_pn0) hisR ?_
  intro p e s m args below meth c s₁ Bd hml0 hP hK
  obtain ⟨rfl, hZ, hh⟩ := hP
  have hx := Bd.exec
  have hby := Bd.bytes
  have hml : c.maxLocals = 2 := hml0
  have hown : s.vm.findClass "java/lang/String" = some m.cls := findClass_of_methodNamed Bd.named
  have hnm := (name_of_methodNamed Bd.named Bd.method).1
  have X0 : Stand p l e ({ frames := 4, cells := 1, slots := 64, locals := 65 } : Room) s m #[(.ref p0), (.ref p1)] below meth c s₁ [] 0 0 := Stand.of_body Bd
  have e0 : s₁.heap = h0 := by rw [← hh, Bd.state]; rfl
  have N0 := Fr.nil n0
  refine Go.start fun P hPend => ?_
  refine Go.st (fun _ k => castTop (own_ef_rm_sini1 m p0 p1) k) ?_
  show Go _ _ _ _ (s₁.setTop (mkF m 0 #[lR p0, lR p1] []))
  refine Go.st (fun _ => XS.aloadN X0.here hx rfl (hb hby od30_0) rfl rfl) ?_
  show Go _ _ _ _ (s₁.setTop (mkF m 1 #[lR p0, lR p1] [(.ref p0)]))
  refine Go.st (fun _ => XS.aloadN X0.here hx rfl (hb hby od30_1) rfl rfl) ?_
  show Go _ _ _ _ (s₁.setTop (mkF m 2 #[lR p0, lR p1] [(.ref p1), (.ref p0)]))
  refine Go.st (fun _ => XS.aconstNull X0.here hx rfl (hb hby od30_2)) ?_
  show Go _ _ _ _ (s₁.setTop (mkF m 3 #[lR p0, lR p1] [.null, (.ref p1), (.ref p0)]))
  obtain ⟨_, _, ⟨T1, L1, k1, n1⟩, -, X1, ⟨Lc1, hQ1, l1, y1, z1⟩, st1⟩ := X0.specialBack hx (y := (⟨"java/lang/String", "<init>", "(Ljava/lang/AbstractStringBuilder;Ljava/lang/Void;)V"⟩ : MethodName)) rfl hown (mvT hZ (ow hw 167 rfl)) (mvT hZ (ow hw 168 rfl)) (mvT hZ (ow hw 169 rfl)) (by decide) (backOf (W := 0) (rm_sini2 l Z a0 hw [] g_CS S_CS nz_CS p0 p1 pcs arr ka za h0 n0 X00 hp0 hp1 hp2 hp3 hp4 hp5 hp6 hp7 hp8 hp9 hcap hn64) hZ (ow hw 169 rfl) (ow hw 6 rfl) (by decide) (by decide)) (g := (mkF m 3 #[.val (.ref p0), .val (.ref p1)] [.null, (.ref p1), (.ref p0)])) rfl (by rw [hml]; rfl) (Steps.refl _) (a := p0) (argsL := [(.ref p1), .null]) (rest := []) (lenOf own_pd19 rfl) rfl (by show 2 * 0 + _ ≤ _; exact Nat.le_of_eq rfl) (hb hby od30_3) (fun _ _ => ⟨rfl, e0, (by decide : 0 + 1 ≤ _), (by decide : 0 + 64 ≤ _)⟩)
  dsimp only [Pt.U, Pt.locs, Pt.cells, Pt.slots] at X1 l1 y1 z1 st1 hQ1
  subst y1 z1
  refine Go.tr st1 ?_
  obtain ⟨ob_2, kb_3, rfl, N1q, K1q, q1_0, q1_1, q1_2, q1_3, q1_4⟩ := hQ1
  have N1 : Fr n0 L1 := by rw [l1]; exact Fr.app N0 N1q
  have O1 := X00.keep K1q (allS hp3 all0)
  have K1 : Keep h0 T1.heap [p0] := (Keep.refl h0 [p0]).trans K1q (allS (Or.inl (List.mem_of_getElem? (i := 0) rfl)) all0)
  have sz_ob_2 : h0.size ≤ ob_2 := Nat.le_trans (Keep.refl h0 [p0]).1 q1_0
  have g_ob_2 : n0 ≤ ob_2 := Nat.le_trans (own_oldsz X00) sz_ob_2
  show Go _ _ _ _ (T1.setTop (mkF m 6 #[lR p0, lR p1] []))
  obtain ⟨fs, hr, hrun, hended, hW, hsame⟩ := X1.leave (v := none) (fun _ => rfl)
  refine ⟨_, ?_, hPend _ _ hrun hended ⟨_, _, rfl, ?_, ⟨_, rfl⟩, hW, hsame.mono (by decide) (by decide)⟩⟩
  · exact X1.returnOut hx Bd.returns (hb hby od30_6) hr
  · show Q_rm_sini1 Z _ _ _ _ _ _ _ h0 n0 _ T1.heap _
    exact ⟨ob_2, kb_3, rfl, N1, K1, sz_ob_2, q1_1, q1_2, q1_3, q1_4⟩
theorem own_ef_rm_tostr (m : MethodId) (x0 : Addr) : entryFrame m #[(.ref x0)] 1 = mkF m 0 #[.val (.ref x0)] [] := by first | (simp [entryFrame, mkF, argsToLocals, Value.category]; done) | rfl
theorem od31_0 : decode jdk_67_method_42_code 0 = .ok (.new 18, 3) := by decide +kernel
theorem od31_3 : decode jdk_67_method_42_code 3 = .ok (.dup, 1) := by decide +kernel
theorem od31_4 : decode jdk_67_method_42_code 4 = .ok (.aload_n 0, 1) := by decide +kernel
theorem od31_5 : decode jdk_67_method_42_code 5 = .ok (.invokespecial 137, 3) := by decide +kernel
theorem own_pd20 : parseMethodDescriptor "(Ljava/lang/StringBuilder;)V" = some ⟨[(.object "java/lang/StringBuilder")], none⟩ := by decide +kernel
theorem od31_8 : decode jdk_67_method_42_code 8 = .ok (.areturn, 1) := by decide +kernel
def Q_rm_tostr (Z : State) (g_CS : Int32) (p0 : Addr) (pcs : List Int32) (arr : Addr) (ka : ClassId) (za : Int32) (h0 : Heap) (n0 : Nat) (v : Option Value) (h : Heap) (L : List Loc) : Prop := ∃ (os : Addr) (ob : Addr) (kb : ClassId), v = some (.ref os) ∧ Fr n0 L ∧ Keep h0 h [] ∧ h0.size ≤ os ∧ h0.size ≤ ob ∧ Exa Z h os "java/lang/String" ∧ Fld Z h os "java/lang/String" "coder" "B" (.int (0 : Int32)) ∧ Fld Z h os "java/lang/String" "value" "[B" (.ref ob) ∧ Arv Z h ob kb .byte (Int32.ofNat pcs.length) ((pcs.map StrChars.lo8).map Value.int) (.int (0 : Int32))
set_option maxRecDepth 65536 in
set_option maxHeartbeats 40000000 in
theorem rm_tostr (l : Launch) (Z : State) (a0 : Array Value) (hw : ∀ d ∈ tables_1, d.before a0 Z = true) (ws : List Jvm.Cond) (g_CS : Int32) (S_CS : Sta Z Z.heap "java/lang/String" "COMPACT_STRINGS" "Z" (.int g_CS)) (nz_CS : ¬ (g_CS = (0 : Int32))) (p0 : Addr) (pcs : List Int32) (arr : Addr) (ka : ClassId) (za : Int32) (h0 : Heap) (n0 : Nat) (X00 : Old Z n0 h0) (hp0 : Exa Z h0 p0 "java/lang/StringBuilder") (hp1 : Fld Z h0 p0 "java/lang/AbstractStringBuilder" "value" "[B" (.ref arr)) (hp2 : Fld Z h0 p0 "java/lang/AbstractStringBuilder" "coder" "B" (.int (0 : Int32))) (hp3 : Fld Z h0 p0 "java/lang/AbstractStringBuilder" "count" "I" (.int (Int32.ofNat pcs.length))) (hp4 : Exa Z h0 arr "[B") (hp5 : Arv Z h0 arr ka .byte za ((pcs.map StrChars.lo8).map Value.int) (.int (0 : Int32))) (hcap : pcs.length ≤ za.toNatClampNeg) (hn64 : pcs.length ≤ 64) :
    MetFree l (⟨"java/lang/StringBuilder", "toString", "()Ljava/lang/String;"⟩ : MethodName) (head1 (Jvm.Cond.code (⟨"java/lang/StringBuilder", "toString", "()Ljava/lang/String;"⟩ : MethodName) jdk_67_method_42_code 1 (some (.object "java/lang/String")) :: ws) ({ frames := 5, cells := 2, slots := 68, locals := 79 } : Room)) (fun a U => a = #[(.ref p0)] ∧ Z.Warmed39 U.vm ∧ U.heap = h0) (fun _ _ _ _ _ => True) (fun _ U o U' => ∃ v L, o = .returned v ∧ Q_rm_tostr Z g_CS p0 pcs arr ka za h0 n0 v U'.heap L ∧ FrameEnd U o U' L ({ frames := 5, cells := 2, slots := 68, locals := 79 } : Room).cells ({ frames := 5, cells := 2, slots := 68, locals := 79 } : Room).slots) := by
  refine MetFree.of_bodySF (plainFor_of_name own_pn5) hisR ?_
  intro p e s m args below meth c s₁ Bd hml0 hP hK
  obtain ⟨rfl, hZ, hh⟩ := hP
  have hx := Bd.exec
  have hby := Bd.bytes
  have hml : c.maxLocals = 1 := hml0
  have hown : s.vm.findClass "java/lang/StringBuilder" = some m.cls := findClass_of_methodNamed Bd.named
  have hnm := (name_of_methodNamed Bd.named Bd.method).1
  have X0 : Stand p l e ({ frames := 5, cells := 2, slots := 68, locals := 79 } : Room) s m #[(.ref p0)] below meth c s₁ [] 0 0 := Stand.of_body Bd
  have e0 : s₁.heap = h0 := by rw [← hh, Bd.state]; rfl
  have N0 := Fr.nil n0
  refine Go.start fun P hPend => ?_
  refine Go.st (fun _ k => castTop (own_ef_rm_tostr m p0) k) ?_
  show Go _ _ _ _ (s₁.setTop (mkF m 0 #[lR p0] []))
  obtain ⟨T1, h1, X1, e1, E1, A1, D1, -, st1⟩ := newO X0 hx hZ hown (ow hw 163 rfl) (ow hw 5 rfl) (ow hw 6 rfl) e0 (g := (mkF m 0 #[.val (.ref p0)] [])) rfl (hb hby od31_0) (by decide) (by decide)
  obtain ⟨b1, g1⟩ : ∃ z, z = h0.size := ⟨_, rfl⟩
  rw [← g1] at A1 D1 st1
  refine Go.st st1 ?_
  have g_b1 : n0 ≤ b1 := Nat.le_trans (own_oldsz X00) (Nat.le_of_eq g1.symm)
  have sz_b1 : h0.size ≤ b1 := Nat.le_trans (Keep.refl h0 []).1 (Nat.le_of_eq g1.symm)
  have K1 : Keep h0 h1 [] := (Keep.refl h0 []).ext E1
  have O1 := X00.ext E1
  have F2 : Fld Z h1 b1 "java/lang/String" "value" "[B" .null := D1 (Or.inr (ow hw 20 rfl)) (ty := (.array .byte)) (by decide)
  have F3 : Fld Z h1 b1 "java/lang/String" "coder" "B" (.int (0 : Int32)) := D1 (Or.inr (ow hw 21 rfl)) (ty := .byte) (by decide)
  show Go _ _ _ _ (T1.setTop (mkF m 3 #[lR p0] [(.ref b1)]))
  refine Go.st (fun _ => XS.dup X1.here hx rfl (hb hby od31_3) rfl rfl) ?_
  show Go _ _ _ _ (T1.setTop (mkF m 4 #[lR p0] [(.ref b1), (.ref b1)]))
  refine Go.st (fun _ => XS.aloadN X1.here hx rfl (hb hby od31_4) rfl rfl) ?_
  show Go _ _ _ _ (T1.setTop (mkF m 5 #[lR p0] [(.ref p0), (.ref b1), (.ref b1)]))
  have c5 := (hp0.ext E1)
  have c6 := (hp1.ext E1)
  have c7 := (hp2.ext E1)
  have c8 := (hp3.ext E1)
  have c9 := (hp4.ext E1)
  have c10 := (hp5.ext E1)
  obtain ⟨_, _, ⟨T4, L4, k4, n4⟩, -, X4, ⟨Lc4, hQ4, l4, y4, z4⟩, st4⟩ := X1.specialBack hx (y := (⟨"java/lang/String", "<init>", "(Ljava/lang/StringBuilder;)V"⟩ : MethodName)) rfl hown (mvT hZ (ow hw 164 rfl)) (mvT hZ (ow hw 165 rfl)) (mvT hZ (ow hw 166 rfl)) (by decide) (backOf (W := 1) (rm_sini1 l Z a0 hw [] g_CS S_CS nz_CS b1 p0 pcs arr ka za h1 n0 O1 A1 F2 F3 g_b1 c5 c6 c7 c8 c9 c10 hcap hn64) hZ (ow hw 166 rfl) (ow hw 6 rfl) (by decide) (by decide)) (g := (mkF m 5 #[.val (.ref p0)] [(.ref p0), (.ref b1), (.ref b1)])) rfl (by rw [hml]; rfl) (Steps.refl _) (a := b1) (argsL := [(.ref p0)]) (rest := [(.ref b1)]) (lenOf own_pd20 rfl) rfl (by show 2 * 0 + _ ≤ _; exact Nat.le_of_eq rfl) (hb hby od31_5) (fun _ _ => ⟨rfl, e1, (by decide : 1 + 1 ≤ _), (by decide : 4 + 64 ≤ _)⟩)
  dsimp only [Pt.U, Pt.locs, Pt.cells, Pt.slots] at X4 l4 y4 z4 st4 hQ4
  subst y4 z4
  refine Go.tr st4 ?_
  obtain ⟨ob_11, kb_12, rfl, N4q, K4q, q4_0, q4_1, q4_2, q4_3, q4_4⟩ := hQ4
  have N4 : Fr n0 L4 := by rw [l4]; exact Fr.app N0 N4q
  have O4 := O1.keep K4q (allS g_b1 all0)
  have K4 : Keep h0 T4.heap [] := K1.trans K4q (allS (Or.inr sz_b1) all0)
  have sz_ob_11 : h0.size ≤ ob_11 := Nat.le_trans K1.1 q4_0
  have g_ob_11 : n0 ≤ ob_11 := Nat.le_trans (own_oldsz X00) sz_ob_11
  show Go _ _ _ _ (T4.setTop (mkF m 8 #[lR p0] [(.ref b1)]))
  obtain ⟨fs, hr, hrun, hended, hW, hsame⟩ := X4.leave (v := some (.ref b1)) (fun h => by rw [Bd.returns] at h; cases h)
  refine ⟨_, ?_, hPend _ _ hrun hended ⟨_, _, rfl, ?_, ⟨_, rfl⟩, hW, hsame.mono (by decide) (by decide)⟩⟩
  · exact retOut X4 hx (t := (.object "java/lang/String")) Bd.returns rfl (Or.inr (Or.inr (Or.inr (Or.inr ⟨rfl, rfl, rfl⟩)))) (hb hby od31_8) hr
  · show Q_rm_tostr Z _ _ _ _ _ _ h0 n0 _ T4.heap _
    exact ⟨b1, ob_11, kb_12, rfl, N4, K4, sz_b1, sz_ob_11, q4_1, q4_2, q4_3, q4_4⟩
theorem own_ef_rm_mk (m : MethodId) (x0 : Int32) : entryFrame m #[(.int x0)] 5 = mkF m 0 #[.val (.int x0), .unset, .unset, .unset, .unset] [] := by first | (simp [entryFrame, mkF, argsToLocals, Value.category]; done) | rfl
theorem own_pn8 : plainName "com/example/strikeboard/strikeboard/engine/UnusedToStringPinLaw" = true := by first | (simp [plainName, overriddenIn]; done) | decide +kernel
theorem od32_0 : decode method_2_code 0 = .ok (.iload_n 0, 1) := by decide +kernel
theorem od32_1 : decode method_2_code 1 = .ok (.iconst 3, 1) := by decide +kernel
theorem od32_2 : decode method_2_code 2 = .ok (.iand, 1) := by decide +kernel
theorem od32_3 : decode method_2_code 3 = .ok (.istore_n 1, 1) := by decide +kernel
theorem od32_4 : decode method_2_code 4 = .ok (.iload_n 0, 1) := by decide +kernel
theorem od32_5 : decode method_2_code 5 = .ok (.iconst 2, 1) := by decide +kernel
theorem od32_6 : decode method_2_code 6 = .ok (.iushr, 1) := by decide +kernel
theorem od32_7 : decode method_2_code 7 = .ok (.sipush 255, 3) := by decide +kernel
theorem od32_10 : decode method_2_code 10 = .ok (.iand, 1) := by decide +kernel
theorem od32_11 : decode method_2_code 11 = .ok (.i2c, 1) := by decide +kernel
theorem od32_12 : decode method_2_code 12 = .ok (.istore_n 2, 1) := by decide +kernel
theorem od32_13 : decode method_2_code 13 = .ok (.iload_n 0, 1) := by decide +kernel
theorem od32_14 : decode method_2_code 14 = .ok (.bipush 10, 2) := by decide +kernel
theorem od32_16 : decode method_2_code 16 = .ok (.iushr, 1) := by decide +kernel
theorem od32_17 : decode method_2_code 17 = .ok (.sipush 255, 3) := by decide +kernel
theorem od32_20 : decode method_2_code 20 = .ok (.iand, 1) := by decide +kernel
theorem od32_21 : decode method_2_code 21 = .ok (.i2c, 1) := by decide +kernel
theorem od32_22 : decode method_2_code 22 = .ok (.istore_n 3, 1) := by decide +kernel
theorem od32_23 : decode method_2_code 23 = .ok (.iload_n 0, 1) := by decide +kernel
theorem od32_24 : decode method_2_code 24 = .ok (.bipush 18, 2) := by decide +kernel
theorem od32_26 : decode method_2_code 26 = .ok (.iushr, 1) := by decide +kernel
theorem od32_27 : decode method_2_code 27 = .ok (.sipush 255, 3) := by decide +kernel
theorem od32_30 : decode method_2_code 30 = .ok (.iand, 1) := by decide +kernel
theorem od32_31 : decode method_2_code 31 = .ok (.i2c, 1) := by decide +kernel
theorem od32_32 : decode method_2_code 32 = .ok (.istore 4, 2) := by decide +kernel
theorem od32_34 : decode method_2_code 34 = .ok (.iload_n 1, 1) := by decide +kernel
theorem od32_35 : decode method_2_code 35 = .ok (.ifCond .ne 14, 3) := by decide +kernel
theorem od32_38 : decode method_2_code 38 = .ok (.new 7, 3) := by decide +kernel
theorem od32_41 : decode method_2_code 41 = .ok (.dup, 1) := by decide +kernel
theorem od32_42 : decode method_2_code 42 = .ok (.iconst 0, 1) := by decide +kernel
theorem od32_43 : decode method_2_code 43 = .ok (.newarray .char, 2) := by decide +kernel
theorem od32_45 : decode method_2_code 45 = .ok (.invokespecial 9, 3) := by decide +kernel
theorem own_pd21 : parseMethodDescriptor "([C)V" = some ⟨[(.array .char)], none⟩ := by decide +kernel
theorem od32_48 : decode method_2_code 48 = .ok (.areturn, 1) := by decide +kernel
theorem od32_49 : decode method_2_code 49 = .ok (.iload_n 1, 1) := by decide +kernel
theorem od32_50 : decode method_2_code 50 = .ok (.iconst 1, 1) := by decide +kernel
theorem od32_51 : decode method_2_code 51 = .ok (.if_icmp .ne 8, 3) := by decide +kernel
theorem od32_54 : decode method_2_code 54 = .ok (.iload_n 2, 1) := by decide +kernel
theorem od32_55 : decode method_2_code 55 = .ok (.invokestatic 12, 3) := by decide +kernel
theorem own_pd22 : parseMethodDescriptor "(C)Ljava/lang/String;" = some ⟨[.char], some (.object "java/lang/String")⟩ := by decide +kernel
theorem od32_58 : decode method_2_code 58 = .ok (.areturn, 1) := by decide +kernel
theorem od32_59 : decode method_2_code 59 = .ok (.iload_n 1, 1) := by decide +kernel
theorem od32_60 : decode method_2_code 60 = .ok (.iconst 2, 1) := by decide +kernel
theorem od32_61 : decode method_2_code 61 = .ok (.if_icmp .ne 22, 3) := by decide +kernel
theorem od32_64 : decode method_2_code 64 = .ok (.new 7, 3) := by decide +kernel
theorem od32_67 : decode method_2_code 67 = .ok (.dup, 1) := by decide +kernel
theorem od32_68 : decode method_2_code 68 = .ok (.iconst 2, 1) := by decide +kernel
theorem od32_69 : decode method_2_code 69 = .ok (.newarray .char, 2) := by decide +kernel
theorem od32_71 : decode method_2_code 71 = .ok (.dup, 1) := by decide +kernel
theorem od32_72 : decode method_2_code 72 = .ok (.iconst 0, 1) := by decide +kernel
theorem od32_73 : decode method_2_code 73 = .ok (.iload_n 2, 1) := by decide +kernel
theorem od32_74 : decode method_2_code 74 = .ok (.castore, 1) := by decide +kernel
theorem od32_75 : decode method_2_code 75 = .ok (.dup, 1) := by decide +kernel
theorem od32_76 : decode method_2_code 76 = .ok (.iconst 1, 1) := by decide +kernel
theorem od32_77 : decode method_2_code 77 = .ok (.iload_n 3, 1) := by decide +kernel
theorem od32_78 : decode method_2_code 78 = .ok (.castore, 1) := by decide +kernel
theorem od32_79 : decode method_2_code 79 = .ok (.invokespecial 9, 3) := by decide +kernel
theorem od32_82 : decode method_2_code 82 = .ok (.areturn, 1) := by decide +kernel
theorem od32_83 : decode method_2_code 83 = .ok (.new 7, 3) := by decide +kernel
theorem od32_86 : decode method_2_code 86 = .ok (.dup, 1) := by decide +kernel
theorem od32_87 : decode method_2_code 87 = .ok (.iconst 3, 1) := by decide +kernel
theorem od32_88 : decode method_2_code 88 = .ok (.newarray .char, 2) := by decide +kernel
theorem od32_90 : decode method_2_code 90 = .ok (.dup, 1) := by decide +kernel
theorem od32_91 : decode method_2_code 91 = .ok (.iconst 0, 1) := by decide +kernel
theorem od32_92 : decode method_2_code 92 = .ok (.iload_n 2, 1) := by decide +kernel
theorem od32_93 : decode method_2_code 93 = .ok (.castore, 1) := by decide +kernel
theorem od32_94 : decode method_2_code 94 = .ok (.dup, 1) := by decide +kernel
theorem od32_95 : decode method_2_code 95 = .ok (.iconst 1, 1) := by decide +kernel
theorem od32_96 : decode method_2_code 96 = .ok (.iload_n 3, 1) := by decide +kernel
theorem od32_97 : decode method_2_code 97 = .ok (.castore, 1) := by decide +kernel
theorem od32_98 : decode method_2_code 98 = .ok (.dup, 1) := by decide +kernel
theorem od32_99 : decode method_2_code 99 = .ok (.iconst 2, 1) := by decide +kernel
theorem od32_100 : decode method_2_code 100 = .ok (.iload 4, 2) := by decide +kernel
theorem od32_102 : decode method_2_code 102 = .ok (.castore, 1) := by decide +kernel
theorem od32_103 : decode method_2_code 103 = .ok (.invokespecial 9, 3) := by decide +kernel
theorem od32_106 : decode method_2_code 106 = .ok (.areturn, 1) := by decide +kernel
def Q_rm_mk (Z : State) (g_CS : Int32) (p0 : Int32) (h0 : Heap) (n0 : Nat) (v : Option Value) (h : Heap) (L : List Loc) : Prop := ∃ (os : Addr) (vb : Addr) (kb : ClassId) (cs : List Int32), v = some (.ref os) ∧ Fr n0 L ∧ Keep h0 h [] ∧ h0.size ≤ os ∧ Exa Z h os "java/lang/String" ∧ Fld Z h os "java/lang/String" "coder" "B" (.int (0 : Int32)) ∧ Fld Z h os "java/lang/String" "value" "[B" (.ref vb) ∧ Arv Z h vb kb .byte (Int32.ofNat cs.length) ((cs.map StrChars.lo8).map Value.int) (.int (0 : Int32)) ∧ (∀ c ∈ cs, ¬ c < 0 ∧ ¬ (255 : Int32) < c) ∧ (cs.length ≤ 3)
set_option maxRecDepth 65536 in
set_option maxHeartbeats 40000000 in
theorem rm_mk (l : Launch) (Z : State) (a0 : Array Value) (hw : ∀ d ∈ tables_1, d.before a0 Z = true) (ws : List Jvm.Cond) (g_CS : Int32) (S_CS : Sta Z Z.heap "java/lang/String" "COMPACT_STRINGS" "Z" (.int g_CS)) (nz_CS : ¬ (g_CS = (0 : Int32))) (p0 : Int32) (h0 : Heap) (n0 : Nat) (X00 : Old Z n0 h0)  :
    MetFree l (⟨"com/example/strikeboard/strikeboard/engine/UnusedToStringPinLaw", "mk", "(I)Ljava/lang/String;"⟩ : MethodName) (head1 (Jvm.Cond.code (⟨"com/example/strikeboard/strikeboard/engine/UnusedToStringPinLaw", "mk", "(I)Ljava/lang/String;"⟩ : MethodName) method_2_code 5 (some (.object "java/lang/String")) :: ws) ({ frames := 4, cells := 6, slots := 12, locals := 66 } : Room)) (fun a U => a = #[(.int p0)] ∧ Z.Warmed39 U.vm ∧ U.heap = h0 ∧ CHv Z consts_1 U.vm h0) (fun _ _ _ _ _ => True) (fun _ U o U' => ∃ v L, o = .returned v ∧ Q_rm_mk Z g_CS p0 h0 n0 v U'.heap L ∧ CHr Z consts_1 U.vm U.heap U'.vm U'.heap ∧ ReturnedEndW U o U' L ({ frames := 4, cells := 6, slots := 12, locals := 66 } : Room).cells ({ frames := 4, cells := 6, slots := 12, locals := 66 } : Room).slots) := by
  refine MetFree.of_bodySF (plainFor_of_name own_pn8) hisR ?_
  intro p e s m args below meth c s₁ Bd hml0 hP hK
  obtain ⟨rfl, hZ, hh, hCH⟩ := hP
  have hEL := own_EW Z a0 hw
  have CR0 : CHr Z consts_1 s.vm h0 s.vm h0 := CHr.refl hCH
  have hx := Bd.exec
  have hby := Bd.bytes
  have hml : c.maxLocals = 5 := hml0
  have hown : s.vm.findClass "com/example/strikeboard/strikeboard/engine/UnusedToStringPinLaw" = some m.cls := findClass_of_methodNamed Bd.named
  have hnm := (name_of_methodNamed Bd.named Bd.method).1
  have X0 : Stand p l e ({ frames := 4, cells := 6, slots := 12, locals := 66 } : Room) (s.setVm s.vm) m #[(.int p0)] below meth c s₁ [] 0 0 := Stand.of_body Bd
  have e0 : s₁.heap = h0 := by rw [← hh, Bd.state]; rfl
  have N0 := Fr.nil n0
  have hS0 : s.Since s.vm 0 := own_since s
  have hk0 : 0 ≤ h0.size := Nat.zero_le _
  have hZ : Z.Warmed39 (s.setVm s.vm).vm := hZ
  have hown : (s.setVm s.vm).vm.findClass "com/example/strikeboard/strikeboard/engine/UnusedToStringPinLaw" = some m.cls := hown
  refine Go.start fun P hPend => ?_
  refine Go.st (fun _ k => castTop (own_ef_rm_mk m p0) k) ?_
  show Go _ _ _ _ (s₁.setTop (mkF m 0 #[lI p0, lU, lU, lU, lU] []))
  refine Go.st (fun _ => XS.iloadN X0.here hx rfl (hb hby od32_0) rfl) ?_
  show Go _ _ _ _ (s₁.setTop (mkF m 1 #[lI p0, lU, lU, lU, lU] [(.int p0)]))
  refine Go.st (fun _ => XS.iconst X0.here hx rfl (hb hby od32_1)) ?_
  show Go _ _ _ _ (s₁.setTop (mkF m 2 #[lI p0, lU, lU, lU, lU] [(.int (3 : Int32)), (.int p0)]))
  refine Go.st (fun _ => XS.iand X0.here hx rfl (hb hby od32_2) rfl) ?_
  show Go _ _ _ _ (s₁.setTop (mkF m 3 #[lI p0, lU, lU, lU, lU] [(.int (p0 &&& (3 : Int32)))]))
  refine Go.st (fun _ => XS.istoreN X0.here hx rfl (hb hby od32_3) rfl (l' := #[.val (.int p0), .val (.int (p0 &&& (3 : Int32))), .unset, .unset, .unset]) rfl) ?_
  show Go _ _ _ _ (s₁.setTop (mkF m 4 #[lI p0, lI (p0 &&& (3 : Int32)), lU, lU, lU] []))
  refine Go.st (fun _ => XS.iloadN X0.here hx rfl (hb hby od32_4) rfl) ?_
  show Go _ _ _ _ (s₁.setTop (mkF m 5 #[lI p0, lI (p0 &&& (3 : Int32)), lU, lU, lU] [(.int p0)]))
  refine Go.st (fun _ => XS.iconst X0.here hx rfl (hb hby od32_5)) ?_
  show Go _ _ _ _ (s₁.setTop (mkF m 6 #[lI p0, lI (p0 &&& (3 : Int32)), lU, lU, lU] [(.int (2 : Int32)), (.int p0)]))
  refine Go.st (fun _ => XS.iushr X0.here hx rfl (hb hby od32_6) rfl) ?_
  show Go _ _ _ _ (s₁.setTop (mkF m 7 #[lI p0, lI (p0 &&& (3 : Int32)), lU, lU, lU] [(.int ((p0.toUInt32 >>> ((2 : Int32) &&& 31).toUInt32).toInt32))]))
  refine Go.st (fun _ => XS.sipush X0.here hx rfl (hb hby od32_7)) ?_
  show Go _ _ _ _ (s₁.setTop (mkF m 10 #[lI p0, lI (p0 &&& (3 : Int32)), lU, lU, lU] [(.int (255 : Int32)), (.int ((p0.toUInt32 >>> ((2 : Int32) &&& 31).toUInt32).toInt32))]))
  refine Go.st (fun _ => XS.iand X0.here hx rfl (hb hby od32_10) rfl) ?_
  show Go _ _ _ _ (s₁.setTop (mkF m 11 #[lI p0, lI (p0 &&& (3 : Int32)), lU, lU, lU] [(.int (((p0.toUInt32 >>> ((2 : Int32) &&& 31).toUInt32).toInt32) &&& (255 : Int32)))]))
  refine Go.st (fun _ => XS.i2c X0.here hx rfl (hb hby od32_11) rfl) ?_
  show Go _ _ _ _ (s₁.setTop (mkF m 12 #[lI p0, lI (p0 &&& (3 : Int32)), lU, lU, lU] [(.int ((((p0.toUInt32 >>> ((2 : Int32) &&& 31).toUInt32).toInt32) &&& (255 : Int32)).toUInt32.toUInt16.toUInt32.toInt32))]))
  rw [i2c_mask]
  show Go _ _ _ _ (s₁.setTop (mkF m 12 #[lI p0, lI (p0 &&& (3 : Int32)), lU, lU, lU] [(.int (((p0.toUInt32 >>> ((2 : Int32) &&& 31).toUInt32).toInt32) &&& (255 : Int32)))]))
  refine Go.st (fun _ => XS.istoreN X0.here hx rfl (hb hby od32_12) rfl (l' := #[.val (.int p0), .val (.int (p0 &&& (3 : Int32))), .val (.int (((p0.toUInt32 >>> ((2 : Int32) &&& 31).toUInt32).toInt32) &&& (255 : Int32))), .unset, .unset]) rfl) ?_
  show Go _ _ _ _ (s₁.setTop (mkF m 13 #[lI p0, lI (p0 &&& (3 : Int32)), lI (((p0.toUInt32 >>> ((2 : Int32) &&& 31).toUInt32).toInt32) &&& (255 : Int32)), lU, lU] []))
  refine Go.st (fun _ => XS.iloadN X0.here hx rfl (hb hby od32_13) rfl) ?_
  show Go _ _ _ _ (s₁.setTop (mkF m 14 #[lI p0, lI (p0 &&& (3 : Int32)), lI (((p0.toUInt32 >>> ((2 : Int32) &&& 31).toUInt32).toInt32) &&& (255 : Int32)), lU, lU] [(.int p0)]))
  refine Go.st (fun _ => XS.bipush X0.here hx rfl (hb hby od32_14)) ?_
  show Go _ _ _ _ (s₁.setTop (mkF m 16 #[lI p0, lI (p0 &&& (3 : Int32)), lI (((p0.toUInt32 >>> ((2 : Int32) &&& 31).toUInt32).toInt32) &&& (255 : Int32)), lU, lU] [(.int (10 : Int32)), (.int p0)]))
  refine Go.st (fun _ => XS.iushr X0.here hx rfl (hb hby od32_16) rfl) ?_
  show Go _ _ _ _ (s₁.setTop (mkF m 17 #[lI p0, lI (p0 &&& (3 : Int32)), lI (((p0.toUInt32 >>> ((2 : Int32) &&& 31).toUInt32).toInt32) &&& (255 : Int32)), lU, lU] [(.int ((p0.toUInt32 >>> ((10 : Int32) &&& 31).toUInt32).toInt32))]))
  refine Go.st (fun _ => XS.sipush X0.here hx rfl (hb hby od32_17)) ?_
  show Go _ _ _ _ (s₁.setTop (mkF m 20 #[lI p0, lI (p0 &&& (3 : Int32)), lI (((p0.toUInt32 >>> ((2 : Int32) &&& 31).toUInt32).toInt32) &&& (255 : Int32)), lU, lU] [(.int (255 : Int32)), (.int ((p0.toUInt32 >>> ((10 : Int32) &&& 31).toUInt32).toInt32))]))
  refine Go.st (fun _ => XS.iand X0.here hx rfl (hb hby od32_20) rfl) ?_
  show Go _ _ _ _ (s₁.setTop (mkF m 21 #[lI p0, lI (p0 &&& (3 : Int32)), lI (((p0.toUInt32 >>> ((2 : Int32) &&& 31).toUInt32).toInt32) &&& (255 : Int32)), lU, lU] [(.int (((p0.toUInt32 >>> ((10 : Int32) &&& 31).toUInt32).toInt32) &&& (255 : Int32)))]))
  refine Go.st (fun _ => XS.i2c X0.here hx rfl (hb hby od32_21) rfl) ?_
  show Go _ _ _ _ (s₁.setTop (mkF m 22 #[lI p0, lI (p0 &&& (3 : Int32)), lI (((p0.toUInt32 >>> ((2 : Int32) &&& 31).toUInt32).toInt32) &&& (255 : Int32)), lU, lU] [(.int ((((p0.toUInt32 >>> ((10 : Int32) &&& 31).toUInt32).toInt32) &&& (255 : Int32)).toUInt32.toUInt16.toUInt32.toInt32))]))
  rw [i2c_mask]
  show Go _ _ _ _ (s₁.setTop (mkF m 22 #[lI p0, lI (p0 &&& (3 : Int32)), lI (((p0.toUInt32 >>> ((2 : Int32) &&& 31).toUInt32).toInt32) &&& (255 : Int32)), lU, lU] [(.int (((p0.toUInt32 >>> ((10 : Int32) &&& 31).toUInt32).toInt32) &&& (255 : Int32)))]))
  refine Go.st (fun _ => XS.istoreN X0.here hx rfl (hb hby od32_22) rfl (l' := #[.val (.int p0), .val (.int (p0 &&& (3 : Int32))), .val (.int (((p0.toUInt32 >>> ((2 : Int32) &&& 31).toUInt32).toInt32) &&& (255 : Int32))), .val (.int (((p0.toUInt32 >>> ((10 : Int32) &&& 31).toUInt32).toInt32) &&& (255 : Int32))), .unset]) rfl) ?_
  show Go _ _ _ _ (s₁.setTop (mkF m 23 #[lI p0, lI (p0 &&& (3 : Int32)), lI (((p0.toUInt32 >>> ((2 : Int32) &&& 31).toUInt32).toInt32) &&& (255 : Int32)), lI (((p0.toUInt32 >>> ((10 : Int32) &&& 31).toUInt32).toInt32) &&& (255 : Int32)), lU] []))
  refine Go.st (fun _ => XS.iloadN X0.here hx rfl (hb hby od32_23) rfl) ?_
  show Go _ _ _ _ (s₁.setTop (mkF m 24 #[lI p0, lI (p0 &&& (3 : Int32)), lI (((p0.toUInt32 >>> ((2 : Int32) &&& 31).toUInt32).toInt32) &&& (255 : Int32)), lI (((p0.toUInt32 >>> ((10 : Int32) &&& 31).toUInt32).toInt32) &&& (255 : Int32)), lU] [(.int p0)]))
  refine Go.st (fun _ => XS.bipush X0.here hx rfl (hb hby od32_24)) ?_
  show Go _ _ _ _ (s₁.setTop (mkF m 26 #[lI p0, lI (p0 &&& (3 : Int32)), lI (((p0.toUInt32 >>> ((2 : Int32) &&& 31).toUInt32).toInt32) &&& (255 : Int32)), lI (((p0.toUInt32 >>> ((10 : Int32) &&& 31).toUInt32).toInt32) &&& (255 : Int32)), lU] [(.int (18 : Int32)), (.int p0)]))
  refine Go.st (fun _ => XS.iushr X0.here hx rfl (hb hby od32_26) rfl) ?_
  show Go _ _ _ _ (s₁.setTop (mkF m 27 #[lI p0, lI (p0 &&& (3 : Int32)), lI (((p0.toUInt32 >>> ((2 : Int32) &&& 31).toUInt32).toInt32) &&& (255 : Int32)), lI (((p0.toUInt32 >>> ((10 : Int32) &&& 31).toUInt32).toInt32) &&& (255 : Int32)), lU] [(.int ((p0.toUInt32 >>> ((18 : Int32) &&& 31).toUInt32).toInt32))]))
  refine Go.st (fun _ => XS.sipush X0.here hx rfl (hb hby od32_27)) ?_
  show Go _ _ _ _ (s₁.setTop (mkF m 30 #[lI p0, lI (p0 &&& (3 : Int32)), lI (((p0.toUInt32 >>> ((2 : Int32) &&& 31).toUInt32).toInt32) &&& (255 : Int32)), lI (((p0.toUInt32 >>> ((10 : Int32) &&& 31).toUInt32).toInt32) &&& (255 : Int32)), lU] [(.int (255 : Int32)), (.int ((p0.toUInt32 >>> ((18 : Int32) &&& 31).toUInt32).toInt32))]))
  refine Go.st (fun _ => XS.iand X0.here hx rfl (hb hby od32_30) rfl) ?_
  show Go _ _ _ _ (s₁.setTop (mkF m 31 #[lI p0, lI (p0 &&& (3 : Int32)), lI (((p0.toUInt32 >>> ((2 : Int32) &&& 31).toUInt32).toInt32) &&& (255 : Int32)), lI (((p0.toUInt32 >>> ((10 : Int32) &&& 31).toUInt32).toInt32) &&& (255 : Int32)), lU] [(.int (((p0.toUInt32 >>> ((18 : Int32) &&& 31).toUInt32).toInt32) &&& (255 : Int32)))]))
  refine Go.st (fun _ => XS.i2c X0.here hx rfl (hb hby od32_31) rfl) ?_
  show Go _ _ _ _ (s₁.setTop (mkF m 32 #[lI p0, lI (p0 &&& (3 : Int32)), lI (((p0.toUInt32 >>> ((2 : Int32) &&& 31).toUInt32).toInt32) &&& (255 : Int32)), lI (((p0.toUInt32 >>> ((10 : Int32) &&& 31).toUInt32).toInt32) &&& (255 : Int32)), lU] [(.int ((((p0.toUInt32 >>> ((18 : Int32) &&& 31).toUInt32).toInt32) &&& (255 : Int32)).toUInt32.toUInt16.toUInt32.toInt32))]))
  rw [i2c_mask]
  show Go _ _ _ _ (s₁.setTop (mkF m 32 #[lI p0, lI (p0 &&& (3 : Int32)), lI (((p0.toUInt32 >>> ((2 : Int32) &&& 31).toUInt32).toInt32) &&& (255 : Int32)), lI (((p0.toUInt32 >>> ((10 : Int32) &&& 31).toUInt32).toInt32) &&& (255 : Int32)), lU] [(.int (((p0.toUInt32 >>> ((18 : Int32) &&& 31).toUInt32).toInt32) &&& (255 : Int32)))]))
  refine Go.st (fun _ => XS.istore X0.here hx rfl (hb hby od32_32) rfl (l' := #[.val (.int p0), .val (.int (p0 &&& (3 : Int32))), .val (.int (((p0.toUInt32 >>> ((2 : Int32) &&& 31).toUInt32).toInt32) &&& (255 : Int32))), .val (.int (((p0.toUInt32 >>> ((10 : Int32) &&& 31).toUInt32).toInt32) &&& (255 : Int32))), .val (.int (((p0.toUInt32 >>> ((18 : Int32) &&& 31).toUInt32).toInt32) &&& (255 : Int32)))]) rfl) ?_
  show Go _ _ _ _ (s₁.setTop (mkF m 34 #[lI p0, lI (p0 &&& (3 : Int32)), lI (((p0.toUInt32 >>> ((2 : Int32) &&& 31).toUInt32).toInt32) &&& (255 : Int32)), lI (((p0.toUInt32 >>> ((10 : Int32) &&& 31).toUInt32).toInt32) &&& (255 : Int32)), lI (((p0.toUInt32 >>> ((18 : Int32) &&& 31).toUInt32).toInt32) &&& (255 : Int32))] []))
  refine Go.st (fun _ => XS.iloadN X0.here hx rfl (hb hby od32_34) rfl) ?_
  show Go _ _ _ _ (s₁.setTop (mkF m 35 #[lI p0, lI (p0 &&& (3 : Int32)), lI (((p0.toUInt32 >>> ((2 : Int32) &&& 31).toUInt32).toInt32) &&& (255 : Int32)), lI (((p0.toUInt32 >>> ((10 : Int32) &&& 31).toUInt32).toInt32) &&& (255 : Int32)), lI (((p0.toUInt32 >>> ((18 : Int32) &&& 31).toUInt32).toInt32) &&& (255 : Int32))] [(.int (p0 &&& (3 : Int32)))]))
  by_cases hc1 : (p0 &&& (3 : Int32)) = (0 : Int32)
  · skip
    refine Go.st (fun _ => XS.ifNo X0.here hx rfl (hb hby od32_35) rfl ((if0 _ _).trans (teq hc1).2)) ?_
    show Go _ _ _ _ (s₁.setTop (mkF m 38 #[lI p0, lI (p0 &&& (3 : Int32)), lI (((p0.toUInt32 >>> ((2 : Int32) &&& 31).toUInt32).toInt32) &&& (255 : Int32)), lI (((p0.toUInt32 >>> ((10 : Int32) &&& 31).toUInt32).toInt32) &&& (255 : Int32)), lI (((p0.toUInt32 >>> ((18 : Int32) &&& 31).toUInt32).toInt32) &&& (255 : Int32))] []))
    obtain ⟨T2, h2, X2, e2, E2, A2, D2, -, st2⟩ := newO X0 hx hZ hown (ow hw 4 rfl) (ow hw 5 rfl) (ow hw 6 rfl) e0 (g := (mkF m 38 #[.val (.int p0), .val (.int (p0 &&& (3 : Int32))), .val (.int (((p0.toUInt32 >>> ((2 : Int32) &&& 31).toUInt32).toInt32) &&& (255 : Int32))), .val (.int (((p0.toUInt32 >>> ((10 : Int32) &&& 31).toUInt32).toInt32) &&& (255 : Int32))), .val (.int (((p0.toUInt32 >>> ((18 : Int32) &&& 31).toUInt32).toInt32) &&& (255 : Int32)))] [])) rfl (hb hby od32_38) (by decide) (by decide)
    obtain ⟨b2, g2⟩ : ∃ z, z = h0.size := ⟨_, rfl⟩
    rw [← g2] at A2 D2 st2
    refine Go.st st2 ?_
    have g_b2 : n0 ≤ b2 := Nat.le_trans (own_oldsz X00) (Nat.le_of_eq g2.symm)
    have sz_b2 : h0.size ≤ b2 := Nat.le_trans (Keep.refl h0 []).1 (Nat.le_of_eq g2.symm)
    have K2 : Keep h0 h2 [] := (Keep.refl h0 []).ext E2
    have O2 := X00.ext E2
    have SF_b2 : Safe Z consts_1 s.vm h2 b2 := Safe.ext E2 CR0.1 (Safe.new (Nat.le_of_eq g2.symm))
    have CR2 := CR0.trans (CHr.ext E2 CR0.1)
    have F3 : Fld Z h2 b2 "java/lang/String" "value" "[B" .null := D2 (Or.inr (ow hw 20 rfl)) (ty := (.array .byte)) (by decide)
    have F4 : Fld Z h2 b2 "java/lang/String" "coder" "B" (.int (0 : Int32)) := D2 (Or.inr (ow hw 21 rfl)) (ty := .byte) (by decide)
    show Go _ _ _ _ (T2.setTop (mkF m 41 #[lI p0, lI (p0 &&& (3 : Int32)), lI (((p0.toUInt32 >>> ((2 : Int32) &&& 31).toUInt32).toInt32) &&& (255 : Int32)), lI (((p0.toUInt32 >>> ((10 : Int32) &&& 31).toUInt32).toInt32) &&& (255 : Int32)), lI (((p0.toUInt32 >>> ((18 : Int32) &&& 31).toUInt32).toInt32) &&& (255 : Int32))] [(.ref b2)]))
    refine Go.st (fun _ => XS.dup X2.here hx rfl (hb hby od32_41) rfl rfl) ?_
    show Go _ _ _ _ (T2.setTop (mkF m 42 #[lI p0, lI (p0 &&& (3 : Int32)), lI (((p0.toUInt32 >>> ((2 : Int32) &&& 31).toUInt32).toInt32) &&& (255 : Int32)), lI (((p0.toUInt32 >>> ((10 : Int32) &&& 31).toUInt32).toInt32) &&& (255 : Int32)), lI (((p0.toUInt32 >>> ((18 : Int32) &&& 31).toUInt32).toInt32) &&& (255 : Int32))] [(.ref b2), (.ref b2)]))
    refine Go.st (fun _ => XS.iconst X2.here hx rfl (hb hby od32_42)) ?_
    show Go _ _ _ _ (T2.setTop (mkF m 43 #[lI p0, lI (p0 &&& (3 : Int32)), lI (((p0.toUInt32 >>> ((2 : Int32) &&& 31).toUInt32).toInt32) &&& (255 : Int32)), lI (((p0.toUInt32 >>> ((10 : Int32) &&& 31).toUInt32).toInt32) &&& (255 : Int32)), lI (((p0.toUInt32 >>> ((18 : Int32) &&& 31).toUInt32).toInt32) &&& (255 : Int32))] [(.int (0 : Int32)), (.ref b2), (.ref b2)]))
    obtain ⟨T5, h5, k5, X5, e5, E5, A5, st5⟩ := newP X2 hx hZ (ow hw 7 rfl) e2 (g := (mkF m 43 #[.val (.int p0), .val (.int (p0 &&& (3 : Int32))), .val (.int (((p0.toUInt32 >>> ((2 : Int32) &&& 31).toUInt32).toInt32) &&& (255 : Int32))), .val (.int (((p0.toUInt32 >>> ((10 : Int32) &&& 31).toUInt32).toInt32) &&& (255 : Int32))), .val (.int (((p0.toUInt32 >>> ((18 : Int32) &&& 31).toUInt32).toInt32) &&& (255 : Int32)))] [(.int (0 : Int32)), (.ref b2), (.ref b2)])) rfl (hb hby od32_43) rfl (by decide) (cap := 0) (by decide) (by decide) (by decide) (by decide)
    obtain ⟨b5, g5⟩ : ∃ z, z = h2.size := ⟨_, rfl⟩
    rw [← g5] at A5 st5
    refine Go.st st5 ?_
    have g_b5 : n0 ≤ b5 := Nat.le_trans (own_oldsz O2) (Nat.le_of_eq g5.symm)
    have sz_b5 : h0.size ≤ b5 := Nat.le_trans K2.1 (Nat.le_of_eq g5.symm)
    have K5 : Keep h0 h5 [] := K2.ext E5
    have O5 := O2.ext E5
    have sf6 := Safe.ext E5 CR2.1 SF_b2
    have SF_b5 : Safe Z consts_1 s.vm h5 b5 := Safe.ext E5 CR2.1 (Safe.new (Nat.le_of_eq g5.symm))
    have CR5 := CR2.trans (CHr.ext E5 CR2.1)
    have V5 : Arv Z h5 b5 k5 .char (0 : Int32) [] (.int (0 : Int32)) := (Arv.new A5 (by decide)).pad (pad_rep [] (.int (0 : Int32)) 0)
    show Go _ _ _ _ (T5.setTop (mkF m 45 #[lI p0, lI (p0 &&& (3 : Int32)), lI (((p0.toUInt32 >>> ((2 : Int32) &&& 31).toUInt32).toInt32) &&& (255 : Int32)), lI (((p0.toUInt32 >>> ((10 : Int32) &&& 31).toUInt32).toInt32) &&& (255 : Int32)), lI (((p0.toUInt32 >>> ((18 : Int32) &&& 31).toUInt32).toInt32) &&& (255 : Int32))] [(.ref b5), (.ref b2), (.ref b2)]))
    have c8 := (A2.ext E5)
    have c9 := (F3.ext E5)
    have c10 := (F4.ext E5)
    obtain ⟨_, _, ⟨T7, L7, k7, n7⟩, -, X7, hS7, hg7, ⟨Lc7, hQ7, l7, y7, z7, hCR7⟩, st7⟩ := X5.specialBackS hx (y := (⟨"java/lang/String", "<init>", "([C)V"⟩ : MethodName)) rfl hown (mvT hZ (ow hw 8 rfl)) (mvT hZ (ow hw 9 rfl)) (mvT hZ (ow hw 10 rfl)) (by decide) (backOfSH (W := 1) (rm_emp1 l Z a0 hw [] g_CS S_CS nz_CS b2 b5 k5 h5 n0 O5 c8 c9 c10 g_b2 V5) hZ (ow hw 10 rfl) (ow hw 6 rfl) (by decide) (by decide) hEL CR5.1) (g := (mkF m 45 #[.val (.int p0), .val (.int (p0 &&& (3 : Int32))), .val (.int (((p0.toUInt32 >>> ((2 : Int32) &&& 31).toUInt32).toInt32) &&& (255 : Int32))), .val (.int (((p0.toUInt32 >>> ((10 : Int32) &&& 31).toUInt32).toInt32) &&& (255 : Int32))), .val (.int (((p0.toUInt32 >>> ((18 : Int32) &&& 31).toUInt32).toInt32) &&& (255 : Int32)))] [(.ref b5), (.ref b2), (.ref b2)])) rfl (by rw [hml]; rfl) (Steps.refl _) (a := b2) (argsL := [(.ref b5)]) (rest := [(.ref b2)]) (lenOf own_pd21 rfl) rfl (by show 2 * 0 + _ ≤ _; exact Nat.le_of_eq rfl) (hb hby od32_45) (fun _ _ => ⟨rfl, e5, (by decide : 2 + 4 ≤ _), (by decide : 4 + 8 ≤ _)⟩)
    dsimp only [Pt.U, Pt.locs, Pt.cells, Pt.slots] at X7 l7 y7 z7 st7 hQ7 hS7 hg7 hCR7
    subst y7 z7
    refine Go.tr st7 ?_
    obtain ⟨XX7, hSS7, hZ7, hown7⟩ := rebS hS0 (by rw [e5]; exact (Nat.le_trans (Nat.le_trans hk0 E2.1) E5.1)) X7 hS7 hg7 hZ hown
    obtain ⟨vb_11, kb_12, rfl, N7q, K7q, q7_0, q7_1, q7_2, q7_3⟩ := hQ7
    have N7 : Fr n0 L7 := by rw [l7]; exact Fr.app N0 N7q
    have sf13 := hCR7.safe c8.lt sf6
    have sf14 := hCR7.safe V5.lt SF_b5
    have CR7 := CR5.trans hCR7
    have O7 := O5.keep K7q (allS g_b2 all0)
    have K7 : Keep h0 T7.heap [] := K5.trans K7q (allS (Or.inr sz_b2) all0)
    show Go _ _ _ _ (T7.setTop (mkF m 48 #[lI p0, lI (p0 &&& (3 : Int32)), lI (((p0.toUInt32 >>> ((2 : Int32) &&& 31).toUInt32).toInt32) &&& (255 : Int32)), lI (((p0.toUInt32 >>> ((10 : Int32) &&& 31).toUInt32).toInt32) &&& (255 : Int32)), lI (((p0.toUInt32 >>> ((18 : Int32) &&& 31).toUInt32).toInt32) &&& (255 : Int32))] [(.ref b2)]))
    obtain ⟨fs, hr, hrun, hended, -, hW, hpair, hsame⟩ := XX7.leaveW hSS7 (Nat.le_refl _) (v := some (.ref b2)) (fun h => by rw [Bd.returns] at h; cases h)
    have hCRe := CR7.trans (CHv.at XX7 hZ7 hEL CR7.1)
    refine ⟨_, ?_, hPend _ _ hrun hended ⟨_, _, rfl, ?_, ?_, ⟨_, rfl⟩, hW, hpair, hsame.mono (by decide) (by decide)⟩⟩
    · exact retOut XX7 hx (t := (.object "java/lang/String")) Bd.returns rfl (Or.inr (Or.inr (Or.inr (Or.inr ⟨rfl, rfl, rfl⟩)))) (hb hby od32_48) hr
    · show Q_rm_mk Z _ _ h0 n0 _ T7.heap _
      exact ⟨b2, vb_11, kb_12, ([] : List Int32), rfl, N7, K7, sz_b2, q7_0, q7_1, q7_2, q7_3, (fun c hc => absurd hc (List.not_mem_nil)), (Nat.le_of_ble_eq_true rfl)⟩
    · show CHr Z consts_1 s.vm s.heap T7.vm T7.heap
      rw [hh]
      exact hCRe
  · skip
    refine Go.st (fun _ => XS.ifYes X0.here hx rfl (pc0 := 35) (pc' := 49) rfl (hb hby od32_35) rfl ((if0 _ _).trans (feq hc1).2) (by decide) (by decide)) ?_
    show Go _ _ _ _ (s₁.setTop (mkF m 49 #[lI p0, lI (p0 &&& (3 : Int32)), lI (((p0.toUInt32 >>> ((2 : Int32) &&& 31).toUInt32).toInt32) &&& (255 : Int32)), lI (((p0.toUInt32 >>> ((10 : Int32) &&& 31).toUInt32).toInt32) &&& (255 : Int32)), lI (((p0.toUInt32 >>> ((18 : Int32) &&& 31).toUInt32).toInt32) &&& (255 : Int32))] []))
    refine Go.st (fun _ => XS.iloadN X0.here hx rfl (hb hby od32_49) rfl) ?_
    show Go _ _ _ _ (s₁.setTop (mkF m 50 #[lI p0, lI (p0 &&& (3 : Int32)), lI (((p0.toUInt32 >>> ((2 : Int32) &&& 31).toUInt32).toInt32) &&& (255 : Int32)), lI (((p0.toUInt32 >>> ((10 : Int32) &&& 31).toUInt32).toInt32) &&& (255 : Int32)), lI (((p0.toUInt32 >>> ((18 : Int32) &&& 31).toUInt32).toInt32) &&& (255 : Int32))] [(.int (p0 &&& (3 : Int32)))]))
    refine Go.st (fun _ => XS.iconst X0.here hx rfl (hb hby od32_50)) ?_
    show Go _ _ _ _ (s₁.setTop (mkF m 51 #[lI p0, lI (p0 &&& (3 : Int32)), lI (((p0.toUInt32 >>> ((2 : Int32) &&& 31).toUInt32).toInt32) &&& (255 : Int32)), lI (((p0.toUInt32 >>> ((10 : Int32) &&& 31).toUInt32).toInt32) &&& (255 : Int32)), lI (((p0.toUInt32 >>> ((18 : Int32) &&& 31).toUInt32).toInt32) &&& (255 : Int32))] [(.int (1 : Int32)), (.int (p0 &&& (3 : Int32)))]))
    by_cases hc15 : (p0 &&& (3 : Int32)) = (1 : Int32)
    · skip
      refine Go.st (fun _ => XS.icmpNo X0.here hx rfl (hb hby od32_51) rfl (teq hc15).2) ?_
      show Go _ _ _ _ (s₁.setTop (mkF m 54 #[lI p0, lI (p0 &&& (3 : Int32)), lI (((p0.toUInt32 >>> ((2 : Int32) &&& 31).toUInt32).toInt32) &&& (255 : Int32)), lI (((p0.toUInt32 >>> ((10 : Int32) &&& 31).toUInt32).toInt32) &&& (255 : Int32)), lI (((p0.toUInt32 >>> ((18 : Int32) &&& 31).toUInt32).toInt32) &&& (255 : Int32))] []))
      refine Go.st (fun _ => XS.iloadN X0.here hx rfl (hb hby od32_54) rfl) ?_
      show Go _ _ _ _ (s₁.setTop (mkF m 55 #[lI p0, lI (p0 &&& (3 : Int32)), lI (((p0.toUInt32 >>> ((2 : Int32) &&& 31).toUInt32).toInt32) &&& (255 : Int32)), lI (((p0.toUInt32 >>> ((10 : Int32) &&& 31).toUInt32).toInt32) &&& (255 : Int32)), lI (((p0.toUInt32 >>> ((18 : Int32) &&& 31).toUInt32).toInt32) &&& (255 : Int32))] [(.int (((p0.toUInt32 >>> ((2 : Int32) &&& 31).toUInt32).toInt32) &&& (255 : Int32)))]))
      obtain ⟨_, _, ⟨T16, L16, k16, n16⟩, -, X16, ⟨Lc16, hQ16, l16, y16, z16⟩, st16⟩ := Jvm.LawKit.callS X0 hx (y := (⟨"java/lang/String", "valueOf", "(C)Ljava/lang/String;"⟩ : MethodName)) hown (mvT hZ (ow hw 226 rfl)) (mvT hZ (ow hw 227 rfl)) (mvT hZ (ow hw 6 rfl)) (mvT hZ (ow hw 228 rfl)) (by decide) (backOf (W := 0) (rm_valOf l Z a0 hw [] g_CS S_CS nz_CS (((p0.toUInt32 >>> ((2 : Int32) &&& 31).toUInt32).toInt32) &&& (255 : Int32)) h0 n0 X00 (own_and255 _)) hZ (ow hw 228 rfl) (ow hw 6 rfl) (by decide) (by decide)) (g := (mkF m 55 #[.val (.int p0), .val (.int (p0 &&& (3 : Int32))), .val (.int (((p0.toUInt32 >>> ((2 : Int32) &&& 31).toUInt32).toInt32) &&& (255 : Int32))), .val (.int (((p0.toUInt32 >>> ((10 : Int32) &&& 31).toUInt32).toInt32) &&& (255 : Int32))), .val (.int (((p0.toUInt32 >>> ((18 : Int32) &&& 31).toUInt32).toInt32) &&& (255 : Int32)))] [(.int (((p0.toUInt32 >>> ((2 : Int32) &&& 31).toUInt32).toInt32) &&& (255 : Int32)))])) rfl (by rw [hml]; rfl) (argsL := [(.int (((p0.toUInt32 >>> ((2 : Int32) &&& 31).toUInt32).toInt32) &&& (255 : Int32)))]) (rest := []) (lenOf own_pd22 rfl) rfl (by show 2 * 0 + _ ≤ _; exact Nat.le_of_eq rfl) (hb hby od32_55) (fun _ _ => ⟨rfl, e0, (by decide : 0 + 2 ≤ _), (by decide : 0 + 5 ≤ _)⟩)
      dsimp only [Pt.U, Pt.locs, Pt.cells, Pt.slots] at X16 l16 y16 z16 st16 hQ16
      subst y16 z16
      refine Go.st st16 ?_
      obtain ⟨ob_17, vb_18, kb_19, rfl, N16q, K16q, q16_0, q16_1, q16_2, q16_3, q16_4, q16_5⟩ := hQ16
      have N16 : Fr n0 L16 := by rw [l16]; exact Fr.app N0 N16q
      have SN16_0 : Safe Z consts_1 s.vm h0 ob_17 := Safe.new q16_0
      have SN16_1 : Safe Z consts_1 s.vm h0 vb_18 := Safe.new q16_1
      have O16 := X00.keep K16q all0
      have K16 : Keep h0 T16.heap [] := (Keep.refl h0 []).trans K16q all0
      have sf20 := Safe.keep K16q sf0 CR0.1 SN16_0
      have sf21 := Safe.keep K16q sf0 CR0.1 SN16_1
      have CR16 := CR0.trans (CHr.keep K16q sf0 CR0.1)
      have sz_ob_17 : h0.size ≤ ob_17 := Nat.le_trans (Keep.refl h0 []).1 q16_0
      have g_ob_17 : n0 ≤ ob_17 := Nat.le_trans (own_oldsz X00) sz_ob_17
      have sz_vb_18 : h0.size ≤ vb_18 := Nat.le_trans (Keep.refl h0 []).1 q16_1
      have g_vb_18 : n0 ≤ vb_18 := Nat.le_trans (own_oldsz X00) sz_vb_18
      show Go _ _ _ _ (T16.setTop (mkF m 58 #[lI p0, lI (p0 &&& (3 : Int32)), lI (((p0.toUInt32 >>> ((2 : Int32) &&& 31).toUInt32).toInt32) &&& (255 : Int32)), lI (((p0.toUInt32 >>> ((10 : Int32) &&& 31).toUInt32).toInt32) &&& (255 : Int32)), lI (((p0.toUInt32 >>> ((18 : Int32) &&& 31).toUInt32).toInt32) &&& (255 : Int32))] [(.ref ob_17)]))
      obtain ⟨fs, hr, hrun, hended, -, hW, hpair, hsame⟩ := X16.leaveW hS0 (Nat.le_trans hk0 K16q.1) (v := some (.ref ob_17)) (fun h => by rw [Bd.returns] at h; cases h)
      have hCRe := CR16.trans (CHv.at X16 hZ hEL CR16.1)
      refine ⟨_, ?_, hPend _ _ hrun hended ⟨_, _, rfl, ?_, ?_, ⟨_, rfl⟩, hW, hpair, hsame.mono (by decide) (by decide)⟩⟩
      · exact retOut X16 hx (t := (.object "java/lang/String")) Bd.returns rfl (Or.inr (Or.inr (Or.inr (Or.inr ⟨rfl, rfl, rfl⟩)))) (hb hby od32_58) hr
      · show Q_rm_mk Z _ _ h0 n0 _ T16.heap _
        exact ⟨ob_17, vb_18, kb_19, ([(((p0.toUInt32 >>> ((2 : Int32) &&& 31).toUInt32).toInt32) &&& (255 : Int32))] : List Int32), rfl, N16, K16, sz_ob_17, q16_2, q16_3, q16_4, q16_5, (own_one (own_and255 _)), (Nat.le_of_ble_eq_true rfl)⟩
      · show CHr Z consts_1 s.vm s.heap T16.vm T16.heap
        rw [hh]
        exact hCRe
    · skip
      refine Go.st (fun _ => XS.icmpYes X0.here hx rfl (pc0 := 51) (pc' := 59) rfl (hb hby od32_51) rfl (feq hc15).2 (by decide) (by decide)) ?_
      show Go _ _ _ _ (s₁.setTop (mkF m 59 #[lI p0, lI (p0 &&& (3 : Int32)), lI (((p0.toUInt32 >>> ((2 : Int32) &&& 31).toUInt32).toInt32) &&& (255 : Int32)), lI (((p0.toUInt32 >>> ((10 : Int32) &&& 31).toUInt32).toInt32) &&& (255 : Int32)), lI (((p0.toUInt32 >>> ((18 : Int32) &&& 31).toUInt32).toInt32) &&& (255 : Int32))] []))
      refine Go.st (fun _ => XS.iloadN X0.here hx rfl (hb hby od32_59) rfl) ?_
      show Go _ _ _ _ (s₁.setTop (mkF m 60 #[lI p0, lI (p0 &&& (3 : Int32)), lI (((p0.toUInt32 >>> ((2 : Int32) &&& 31).toUInt32).toInt32) &&& (255 : Int32)), lI (((p0.toUInt32 >>> ((10 : Int32) &&& 31).toUInt32).toInt32) &&& (255 : Int32)), lI (((p0.toUInt32 >>> ((18 : Int32) &&& 31).toUInt32).toInt32) &&& (255 : Int32))] [(.int (p0 &&& (3 : Int32)))]))
      refine Go.st (fun _ => XS.iconst X0.here hx rfl (hb hby od32_60)) ?_
      show Go _ _ _ _ (s₁.setTop (mkF m 61 #[lI p0, lI (p0 &&& (3 : Int32)), lI (((p0.toUInt32 >>> ((2 : Int32) &&& 31).toUInt32).toInt32) &&& (255 : Int32)), lI (((p0.toUInt32 >>> ((10 : Int32) &&& 31).toUInt32).toInt32) &&& (255 : Int32)), lI (((p0.toUInt32 >>> ((18 : Int32) &&& 31).toUInt32).toInt32) &&& (255 : Int32))] [(.int (2 : Int32)), (.int (p0 &&& (3 : Int32)))]))
      by_cases hc22 : (p0 &&& (3 : Int32)) = (2 : Int32)
      · skip
        refine Go.st (fun _ => XS.icmpNo X0.here hx rfl (hb hby od32_61) rfl (teq hc22).2) ?_
        show Go _ _ _ _ (s₁.setTop (mkF m 64 #[lI p0, lI (p0 &&& (3 : Int32)), lI (((p0.toUInt32 >>> ((2 : Int32) &&& 31).toUInt32).toInt32) &&& (255 : Int32)), lI (((p0.toUInt32 >>> ((10 : Int32) &&& 31).toUInt32).toInt32) &&& (255 : Int32)), lI (((p0.toUInt32 >>> ((18 : Int32) &&& 31).toUInt32).toInt32) &&& (255 : Int32))] []))
        obtain ⟨T23, h23, X23, e23, E23, A23, D23, -, st23⟩ := newO X0 hx hZ hown (ow hw 4 rfl) (ow hw 5 rfl) (ow hw 6 rfl) e0 (g := (mkF m 64 #[.val (.int p0), .val (.int (p0 &&& (3 : Int32))), .val (.int (((p0.toUInt32 >>> ((2 : Int32) &&& 31).toUInt32).toInt32) &&& (255 : Int32))), .val (.int (((p0.toUInt32 >>> ((10 : Int32) &&& 31).toUInt32).toInt32) &&& (255 : Int32))), .val (.int (((p0.toUInt32 >>> ((18 : Int32) &&& 31).toUInt32).toInt32) &&& (255 : Int32)))] [])) rfl (hb hby od32_64) (by decide) (by decide)
        obtain ⟨b23, g23⟩ : ∃ z, z = h0.size := ⟨_, rfl⟩
        rw [← g23] at A23 D23 st23
        refine Go.st st23 ?_
        have g_b23 : n0 ≤ b23 := Nat.le_trans (own_oldsz X00) (Nat.le_of_eq g23.symm)
        have sz_b23 : h0.size ≤ b23 := Nat.le_trans (Keep.refl h0 []).1 (Nat.le_of_eq g23.symm)
        have K23 : Keep h0 h23 [] := (Keep.refl h0 []).ext E23
        have O23 := X00.ext E23
        have SF_b23 : Safe Z consts_1 s.vm h23 b23 := Safe.ext E23 CR0.1 (Safe.new (Nat.le_of_eq g23.symm))
        have CR23 := CR0.trans (CHr.ext E23 CR0.1)
        have F24 : Fld Z h23 b23 "java/lang/String" "value" "[B" .null := D23 (Or.inr (ow hw 20 rfl)) (ty := (.array .byte)) (by decide)
        have F25 : Fld Z h23 b23 "java/lang/String" "coder" "B" (.int (0 : Int32)) := D23 (Or.inr (ow hw 21 rfl)) (ty := .byte) (by decide)
        show Go _ _ _ _ (T23.setTop (mkF m 67 #[lI p0, lI (p0 &&& (3 : Int32)), lI (((p0.toUInt32 >>> ((2 : Int32) &&& 31).toUInt32).toInt32) &&& (255 : Int32)), lI (((p0.toUInt32 >>> ((10 : Int32) &&& 31).toUInt32).toInt32) &&& (255 : Int32)), lI (((p0.toUInt32 >>> ((18 : Int32) &&& 31).toUInt32).toInt32) &&& (255 : Int32))] [(.ref b23)]))
        refine Go.st (fun _ => XS.dup X23.here hx rfl (hb hby od32_67) rfl rfl) ?_
        show Go _ _ _ _ (T23.setTop (mkF m 68 #[lI p0, lI (p0 &&& (3 : Int32)), lI (((p0.toUInt32 >>> ((2 : Int32) &&& 31).toUInt32).toInt32) &&& (255 : Int32)), lI (((p0.toUInt32 >>> ((10 : Int32) &&& 31).toUInt32).toInt32) &&& (255 : Int32)), lI (((p0.toUInt32 >>> ((18 : Int32) &&& 31).toUInt32).toInt32) &&& (255 : Int32))] [(.ref b23), (.ref b23)]))
        refine Go.st (fun _ => XS.iconst X23.here hx rfl (hb hby od32_68)) ?_
        show Go _ _ _ _ (T23.setTop (mkF m 69 #[lI p0, lI (p0 &&& (3 : Int32)), lI (((p0.toUInt32 >>> ((2 : Int32) &&& 31).toUInt32).toInt32) &&& (255 : Int32)), lI (((p0.toUInt32 >>> ((10 : Int32) &&& 31).toUInt32).toInt32) &&& (255 : Int32)), lI (((p0.toUInt32 >>> ((18 : Int32) &&& 31).toUInt32).toInt32) &&& (255 : Int32))] [(.int (2 : Int32)), (.ref b23), (.ref b23)]))
        obtain ⟨T26, h26, k26, X26, e26, E26, A26, st26⟩ := newP X23 hx hZ (ow hw 7 rfl) e23 (g := (mkF m 69 #[.val (.int p0), .val (.int (p0 &&& (3 : Int32))), .val (.int (((p0.toUInt32 >>> ((2 : Int32) &&& 31).toUInt32).toInt32) &&& (255 : Int32))), .val (.int (((p0.toUInt32 >>> ((10 : Int32) &&& 31).toUInt32).toInt32) &&& (255 : Int32))), .val (.int (((p0.toUInt32 >>> ((18 : Int32) &&& 31).toUInt32).toInt32) &&& (255 : Int32)))] [(.int (2 : Int32)), (.ref b23), (.ref b23)])) rfl (hb hby od32_69) rfl (by decide) (cap := 2) (by decide) (by decide) (by decide) (by decide)
        obtain ⟨b26, g26⟩ : ∃ z, z = h23.size := ⟨_, rfl⟩
        rw [← g26] at A26 st26
        refine Go.st st26 ?_
        have g_b26 : n0 ≤ b26 := Nat.le_trans (own_oldsz O23) (Nat.le_of_eq g26.symm)
        have sz_b26 : h0.size ≤ b26 := Nat.le_trans K23.1 (Nat.le_of_eq g26.symm)
        have K26 : Keep h0 h26 [] := K23.ext E26
        have O26 := O23.ext E26
        have sf27 := Safe.ext E26 CR23.1 SF_b23
        have SF_b26 : Safe Z consts_1 s.vm h26 b26 := Safe.ext E26 CR23.1 (Safe.new (Nat.le_of_eq g26.symm))
        have CR26 := CR23.trans (CHr.ext E26 CR23.1)
        have V26 : Arv Z h26 b26 k26 .char (2 : Int32) [(.int (0 : Int32)), (.int (0 : Int32))] (.int (0 : Int32)) := (Arv.new A26 (by decide)).pad (pad_rep [] (.int (0 : Int32)) 2)
        show Go _ _ _ _ (T26.setTop (mkF m 71 #[lI p0, lI (p0 &&& (3 : Int32)), lI (((p0.toUInt32 >>> ((2 : Int32) &&& 31).toUInt32).toInt32) &&& (255 : Int32)), lI (((p0.toUInt32 >>> ((10 : Int32) &&& 31).toUInt32).toInt32) &&& (255 : Int32)), lI (((p0.toUInt32 >>> ((18 : Int32) &&& 31).toUInt32).toInt32) &&& (255 : Int32))] [(.ref b26), (.ref b23), (.ref b23)]))
        refine Go.st (fun _ => XS.dup X26.here hx rfl (hb hby od32_71) rfl rfl) ?_
        show Go _ _ _ _ (T26.setTop (mkF m 72 #[lI p0, lI (p0 &&& (3 : Int32)), lI (((p0.toUInt32 >>> ((2 : Int32) &&& 31).toUInt32).toInt32) &&& (255 : Int32)), lI (((p0.toUInt32 >>> ((10 : Int32) &&& 31).toUInt32).toInt32) &&& (255 : Int32)), lI (((p0.toUInt32 >>> ((18 : Int32) &&& 31).toUInt32).toInt32) &&& (255 : Int32))] [(.ref b26), (.ref b26), (.ref b23), (.ref b23)]))
        refine Go.st (fun _ => XS.iconst X26.here hx rfl (hb hby od32_72)) ?_
        show Go _ _ _ _ (T26.setTop (mkF m 73 #[lI p0, lI (p0 &&& (3 : Int32)), lI (((p0.toUInt32 >>> ((2 : Int32) &&& 31).toUInt32).toInt32) &&& (255 : Int32)), lI (((p0.toUInt32 >>> ((10 : Int32) &&& 31).toUInt32).toInt32) &&& (255 : Int32)), lI (((p0.toUInt32 >>> ((18 : Int32) &&& 31).toUInt32).toInt32) &&& (255 : Int32))] [(.int (0 : Int32)), (.ref b26), (.ref b26), (.ref b23), (.ref b23)]))
        refine Go.st (fun _ => XS.iloadN X26.here hx rfl (hb hby od32_73) rfl) ?_
        show Go _ _ _ _ (T26.setTop (mkF m 74 #[lI p0, lI (p0 &&& (3 : Int32)), lI (((p0.toUInt32 >>> ((2 : Int32) &&& 31).toUInt32).toInt32) &&& (255 : Int32)), lI (((p0.toUInt32 >>> ((10 : Int32) &&& 31).toUInt32).toInt32) &&& (255 : Int32)), lI (((p0.toUInt32 >>> ((18 : Int32) &&& 31).toUInt32).toInt32) &&& (255 : Int32))] [(.int (((p0.toUInt32 >>> ((2 : Int32) &&& 31).toUInt32).toInt32) &&& (255 : Int32))), (.int (0 : Int32)), (.ref b26), (.ref b26), (.ref b23), (.ref b23)]))
        obtain ⟨T28, h28, X28, e28, W28, V28, st28⟩ := own_stC X26 hx hZ e26 V26 (j := (0 : Int32)) (i := 0) (by decide) (by decide) (Nat.le_of_ble_eq_true rfl) (g := (mkF m 74 #[.val (.int p0), .val (.int (p0 &&& (3 : Int32))), .val (.int (((p0.toUInt32 >>> ((2 : Int32) &&& 31).toUInt32).toInt32) &&& (255 : Int32))), .val (.int (((p0.toUInt32 >>> ((10 : Int32) &&& 31).toUInt32).toInt32) &&& (255 : Int32))), .val (.int (((p0.toUInt32 >>> ((18 : Int32) &&& 31).toUInt32).toInt32) &&& (255 : Int32)))] [(.int (((p0.toUInt32 >>> ((2 : Int32) &&& 31).toUInt32).toInt32) &&& (255 : Int32))), (.int (0 : Int32)), (.ref b26), (.ref b26), (.ref b23), (.ref b23)])) rfl rfl (hb hby od32_74)
        refine Go.st st28 ?_
        rw [show nar .char (((p0.toUInt32 >>> ((2 : Int32) &&& 31).toUInt32).toInt32) &&& (255 : Int32)) = (((p0.toUInt32 >>> ((2 : Int32) &&& 31).toUInt32).toInt32) &&& (255 : Int32)) from i2c_mask _] at V28
        have sf29 := Safe.wr W28 SF_b26 CR26.1 sf27
        have sf30 := Safe.wr W28 SF_b26 CR26.1 SF_b26
        have CR28 := CR26.trans (CHr.wr W28 SF_b26 CR26.1)
        have K28 : Keep h0 h28 [] := K26.wr W28 (Or.inr sz_b26)
        have O28 := O26.wr W28 g_b26
        have N28 := Fr.snoc X28 N0 g_b26
        have V28' : Arv Z h28 b26 k26 .char (2 : Int32) [(.int (((p0.toUInt32 >>> ((2 : Int32) &&& 31).toUInt32).toInt32) &&& (255 : Int32))), (.int (0 : Int32))] (.int (0 : Int32)) := V28
        show Go _ _ _ _ (T28.setTop (mkF m 75 #[lI p0, lI (p0 &&& (3 : Int32)), lI (((p0.toUInt32 >>> ((2 : Int32) &&& 31).toUInt32).toInt32) &&& (255 : Int32)), lI (((p0.toUInt32 >>> ((10 : Int32) &&& 31).toUInt32).toInt32) &&& (255 : Int32)), lI (((p0.toUInt32 >>> ((18 : Int32) &&& 31).toUInt32).toInt32) &&& (255 : Int32))] [(.ref b26), (.ref b23), (.ref b23)]))
        refine Go.st (fun _ => XS.dup X28.here hx rfl (hb hby od32_75) rfl rfl) ?_
        show Go _ _ _ _ (T28.setTop (mkF m 76 #[lI p0, lI (p0 &&& (3 : Int32)), lI (((p0.toUInt32 >>> ((2 : Int32) &&& 31).toUInt32).toInt32) &&& (255 : Int32)), lI (((p0.toUInt32 >>> ((10 : Int32) &&& 31).toUInt32).toInt32) &&& (255 : Int32)), lI (((p0.toUInt32 >>> ((18 : Int32) &&& 31).toUInt32).toInt32) &&& (255 : Int32))] [(.ref b26), (.ref b26), (.ref b23), (.ref b23)]))
        refine Go.st (fun _ => XS.iconst X28.here hx rfl (hb hby od32_76)) ?_
        show Go _ _ _ _ (T28.setTop (mkF m 77 #[lI p0, lI (p0 &&& (3 : Int32)), lI (((p0.toUInt32 >>> ((2 : Int32) &&& 31).toUInt32).toInt32) &&& (255 : Int32)), lI (((p0.toUInt32 >>> ((10 : Int32) &&& 31).toUInt32).toInt32) &&& (255 : Int32)), lI (((p0.toUInt32 >>> ((18 : Int32) &&& 31).toUInt32).toInt32) &&& (255 : Int32))] [(.int (1 : Int32)), (.ref b26), (.ref b26), (.ref b23), (.ref b23)]))
        refine Go.st (fun _ => XS.iloadN X28.here hx rfl (hb hby od32_77) rfl) ?_
        show Go _ _ _ _ (T28.setTop (mkF m 78 #[lI p0, lI (p0 &&& (3 : Int32)), lI (((p0.toUInt32 >>> ((2 : Int32) &&& 31).toUInt32).toInt32) &&& (255 : Int32)), lI (((p0.toUInt32 >>> ((10 : Int32) &&& 31).toUInt32).toInt32) &&& (255 : Int32)), lI (((p0.toUInt32 >>> ((18 : Int32) &&& 31).toUInt32).toInt32) &&& (255 : Int32))] [(.int (((p0.toUInt32 >>> ((10 : Int32) &&& 31).toUInt32).toInt32) &&& (255 : Int32))), (.int (1 : Int32)), (.ref b26), (.ref b26), (.ref b23), (.ref b23)]))
        obtain ⟨T31, h31, X31, e31, W31, V31, st31⟩ := own_stC X28 hx hZ e28 V28' (j := (1 : Int32)) (i := 1) (by decide) (by decide) (Nat.le_of_ble_eq_true rfl) (g := (mkF m 78 #[.val (.int p0), .val (.int (p0 &&& (3 : Int32))), .val (.int (((p0.toUInt32 >>> ((2 : Int32) &&& 31).toUInt32).toInt32) &&& (255 : Int32))), .val (.int (((p0.toUInt32 >>> ((10 : Int32) &&& 31).toUInt32).toInt32) &&& (255 : Int32))), .val (.int (((p0.toUInt32 >>> ((18 : Int32) &&& 31).toUInt32).toInt32) &&& (255 : Int32)))] [(.int (((p0.toUInt32 >>> ((10 : Int32) &&& 31).toUInt32).toInt32) &&& (255 : Int32))), (.int (1 : Int32)), (.ref b26), (.ref b26), (.ref b23), (.ref b23)])) rfl rfl (hb hby od32_78)
        refine Go.st st31 ?_
        rw [show nar .char (((p0.toUInt32 >>> ((10 : Int32) &&& 31).toUInt32).toInt32) &&& (255 : Int32)) = (((p0.toUInt32 >>> ((10 : Int32) &&& 31).toUInt32).toInt32) &&& (255 : Int32)) from i2c_mask _] at V31
        have sf32 := Safe.wr W31 sf30 CR28.1 sf29
        have sf33 := Safe.wr W31 sf30 CR28.1 sf30
        have CR31 := CR28.trans (CHr.wr W31 sf30 CR28.1)
        have K31 : Keep h0 h31 [] := K28.wr W31 (Or.inr sz_b26)
        have O31 := O28.wr W31 g_b26
        have N31 := Fr.snoc X31 N28 g_b26
        have V31' : Arv Z h31 b26 k26 .char (2 : Int32) [(.int (((p0.toUInt32 >>> ((2 : Int32) &&& 31).toUInt32).toInt32) &&& (255 : Int32))), (.int (((p0.toUInt32 >>> ((10 : Int32) &&& 31).toUInt32).toInt32) &&& (255 : Int32)))] (.int (0 : Int32)) := V31
        show Go _ _ _ _ (T31.setTop (mkF m 79 #[lI p0, lI (p0 &&& (3 : Int32)), lI (((p0.toUInt32 >>> ((2 : Int32) &&& 31).toUInt32).toInt32) &&& (255 : Int32)), lI (((p0.toUInt32 >>> ((10 : Int32) &&& 31).toUInt32).toInt32) &&& (255 : Int32)), lI (((p0.toUInt32 >>> ((18 : Int32) &&& 31).toUInt32).toInt32) &&& (255 : Int32))] [(.ref b26), (.ref b23), (.ref b23)]))
        have c35 := (((A23.ext E26).wr W28).wr W31)
        have c36 := (((F24.ext E26).other W28 (Or.inl (Nat.ne_of_lt (Nat.lt_of_lt_of_le A23.lt (Nat.le_of_eq g26.symm))))).other W31 (Or.inl (Nat.ne_of_lt (Nat.lt_of_lt_of_le A23.lt (Nat.le_of_eq g26.symm)))))
        have c37 := (((F25.ext E26).other W28 (Or.inl (Nat.ne_of_lt (Nat.lt_of_lt_of_le A23.lt (Nat.le_of_eq g26.symm))))).other W31 (Or.inl (Nat.ne_of_lt (Nat.lt_of_lt_of_le A23.lt (Nat.le_of_eq g26.symm)))))
        have hp34 : ∀ c ∈ ([(((p0.toUInt32 >>> ((2 : Int32) &&& 31).toUInt32).toInt32) &&& (255 : Int32)), (((p0.toUInt32 >>> ((10 : Int32) &&& 31).toUInt32).toInt32) &&& (255 : Int32))] : List Int32), ¬ c < 0 ∧ ¬ (255 : Int32) < c := by
          intro c hc
          simp only [List.mem_cons, List.not_mem_nil, or_false] at hc
          rcases hc with rfl | rfl
          · exact own_and255 _
          · exact own_and255 _
        obtain ⟨_, _, ⟨T34, L34, k34, n34⟩, -, X34, ⟨Lc34, hQ34, l34, y34, z34⟩, st34⟩ := X31.specialBack hx (y := (⟨"java/lang/String", "<init>", "([C)V"⟩ : MethodName)) rfl hown (mvT hZ (ow hw 8 rfl)) (mvT hZ (ow hw 9 rfl)) (mvT hZ (ow hw 10 rfl)) (by decide) (StrChars.Road.backV (W := 1) hZ (fun d hd => hw d (own_wNew d hd)) (kI := 4) (ow hw 5 rfl) (cs := ([(((p0.toUInt32 >>> ((2 : Int32) &&& 31).toUInt32).toInt32) &&& (255 : Int32)), (((p0.toUInt32 >>> ((10 : Int32) &&& 31).toUInt32).toInt32) &&& (255 : Int32))] : List Int32)) (bs := (([(((p0.toUInt32 >>> ((2 : Int32) &&& 31).toUInt32).toInt32) &&& (255 : Int32)), (((p0.toUInt32 >>> ((10 : Int32) &&& 31).toUInt32).toInt32) &&& (255 : Int32))] : List Int32)).map (fun c => c.toInt8.toInt32)) (n := 2) g_b23 (own_oldsz O31) c35 c36 c37 V31' (S_CS.ext O31.2) nz_CS rfl rfl (by decide) (by decide) hp34 rfl (by decide) (by decide)) (g := (mkF m 79 #[.val (.int p0), .val (.int (p0 &&& (3 : Int32))), .val (.int (((p0.toUInt32 >>> ((2 : Int32) &&& 31).toUInt32).toInt32) &&& (255 : Int32))), .val (.int (((p0.toUInt32 >>> ((10 : Int32) &&& 31).toUInt32).toInt32) &&& (255 : Int32))), .val (.int (((p0.toUInt32 >>> ((18 : Int32) &&& 31).toUInt32).toInt32) &&& (255 : Int32)))] [(.ref b26), (.ref b23), (.ref b23)])) rfl (by rw [hml]; rfl) (Steps.refl _) (a := b23) (argsL := [(.ref b26)]) (rest := [(.ref b23)]) (lenOf own_pd21 rfl) rfl (by show 2 * 0 + _ ≤ _; exact Nat.le_of_eq rfl) (hb hby od32_79) (fun _ _ => ⟨rfl, e31, (by decide : 2 + 1 ≤ _), (by decide : 6 + 2 ≤ _)⟩)
        dsimp only [Pt.U, Pt.locs, Pt.cells, Pt.slots] at X34 l34 y34 z34 st34 hQ34
        subst y34 z34
        refine Go.tr st34 ?_
        obtain ⟨rfl, N34q, K34q, E34x, C34x, t34, kb34, gt34, szt34, net34, V34x, A34x⟩ := hQ34
        have N34 : Fr n0 L34 := by rw [l34]; exact Fr.app N31 N34q
        have O34 := O31.keep K34q (allS g_b23 all0)
        have K34 : Keep h0 T34.heap [] := K31.trans K34q (allS (Or.inr sz_b23) all0)
        have sf38 := Safe.keep K34q (sfS sf32 sf0) CR31.1 sf32
        have sf39 := Safe.keep K34q (sfS sf32 sf0) CR31.1 sf33
        have CR34 := CR31.trans (CHr.keep K34q (sfS sf32 sf0) CR31.1)
        have sz_t34 : h0.size ≤ t34 := Nat.le_trans K31.1 szt34
        show Go _ _ _ _ (T34.setTop (mkF m 82 #[lI p0, lI (p0 &&& (3 : Int32)), lI (((p0.toUInt32 >>> ((2 : Int32) &&& 31).toUInt32).toInt32) &&& (255 : Int32)), lI (((p0.toUInt32 >>> ((10 : Int32) &&& 31).toUInt32).toInt32) &&& (255 : Int32)), lI (((p0.toUInt32 >>> ((18 : Int32) &&& 31).toUInt32).toInt32) &&& (255 : Int32))] [(.ref b23)]))
        obtain ⟨fs, hr, hrun, hended, -, hW, hpair, hsame⟩ := X34.leaveW hS0 (Nat.le_trans (Nat.le_trans (Nat.le_trans (Nat.le_trans (Nat.le_trans hk0 E23.1) E26.1) (Keep.of_wr W28).1) (Keep.of_wr W31).1) K34q.1) (v := some (.ref b23)) (fun h => by rw [Bd.returns] at h; cases h)
        have hCRe := CR34.trans (CHv.at X34 hZ hEL CR34.1)
        refine ⟨_, ?_, hPend _ _ hrun hended ⟨_, _, rfl, ?_, ?_, ⟨_, rfl⟩, hW, hpair, hsame.mono (by decide) (by decide)⟩⟩
        · exact retOut X34 hx (t := (.object "java/lang/String")) Bd.returns rfl (Or.inr (Or.inr (Or.inr (Or.inr ⟨rfl, rfl, rfl⟩)))) (hb hby od32_82) hr
        · show Q_rm_mk Z _ _ h0 n0 _ T34.heap _
          exact ⟨b23, t34, kb34, ([(((p0.toUInt32 >>> ((2 : Int32) &&& 31).toUInt32).toInt32) &&& (255 : Int32)), (((p0.toUInt32 >>> ((10 : Int32) &&& 31).toUInt32).toInt32) &&& (255 : Int32))] : List Int32), rfl, N34, K34, sz_b23, E34x, C34x, V34x, A34x, hp34, (Nat.le_of_ble_eq_true rfl)⟩
        · show CHr Z consts_1 s.vm s.heap T34.vm T34.heap
          rw [hh]
          exact hCRe
      · skip
        refine Go.st (fun _ => XS.icmpYes X0.here hx rfl (pc0 := 61) (pc' := 83) rfl (hb hby od32_61) rfl (feq hc22).2 (by decide) (by decide)) ?_
        show Go _ _ _ _ (s₁.setTop (mkF m 83 #[lI p0, lI (p0 &&& (3 : Int32)), lI (((p0.toUInt32 >>> ((2 : Int32) &&& 31).toUInt32).toInt32) &&& (255 : Int32)), lI (((p0.toUInt32 >>> ((10 : Int32) &&& 31).toUInt32).toInt32) &&& (255 : Int32)), lI (((p0.toUInt32 >>> ((18 : Int32) &&& 31).toUInt32).toInt32) &&& (255 : Int32))] []))
        obtain ⟨T40, h40, X40, e40, E40, A40, D40, -, st40⟩ := newO X0 hx hZ hown (ow hw 4 rfl) (ow hw 5 rfl) (ow hw 6 rfl) e0 (g := (mkF m 83 #[.val (.int p0), .val (.int (p0 &&& (3 : Int32))), .val (.int (((p0.toUInt32 >>> ((2 : Int32) &&& 31).toUInt32).toInt32) &&& (255 : Int32))), .val (.int (((p0.toUInt32 >>> ((10 : Int32) &&& 31).toUInt32).toInt32) &&& (255 : Int32))), .val (.int (((p0.toUInt32 >>> ((18 : Int32) &&& 31).toUInt32).toInt32) &&& (255 : Int32)))] [])) rfl (hb hby od32_83) (by decide) (by decide)
        obtain ⟨b40, g40⟩ : ∃ z, z = h0.size := ⟨_, rfl⟩
        rw [← g40] at A40 D40 st40
        refine Go.st st40 ?_
        have g_b40 : n0 ≤ b40 := Nat.le_trans (own_oldsz X00) (Nat.le_of_eq g40.symm)
        have sz_b40 : h0.size ≤ b40 := Nat.le_trans (Keep.refl h0 []).1 (Nat.le_of_eq g40.symm)
        have K40 : Keep h0 h40 [] := (Keep.refl h0 []).ext E40
        have O40 := X00.ext E40
        have SF_b40 : Safe Z consts_1 s.vm h40 b40 := Safe.ext E40 CR0.1 (Safe.new (Nat.le_of_eq g40.symm))
        have CR40 := CR0.trans (CHr.ext E40 CR0.1)
        have F41 : Fld Z h40 b40 "java/lang/String" "value" "[B" .null := D40 (Or.inr (ow hw 20 rfl)) (ty := (.array .byte)) (by decide)
        have F42 : Fld Z h40 b40 "java/lang/String" "coder" "B" (.int (0 : Int32)) := D40 (Or.inr (ow hw 21 rfl)) (ty := .byte) (by decide)
        show Go _ _ _ _ (T40.setTop (mkF m 86 #[lI p0, lI (p0 &&& (3 : Int32)), lI (((p0.toUInt32 >>> ((2 : Int32) &&& 31).toUInt32).toInt32) &&& (255 : Int32)), lI (((p0.toUInt32 >>> ((10 : Int32) &&& 31).toUInt32).toInt32) &&& (255 : Int32)), lI (((p0.toUInt32 >>> ((18 : Int32) &&& 31).toUInt32).toInt32) &&& (255 : Int32))] [(.ref b40)]))
        refine Go.st (fun _ => XS.dup X40.here hx rfl (hb hby od32_86) rfl rfl) ?_
        show Go _ _ _ _ (T40.setTop (mkF m 87 #[lI p0, lI (p0 &&& (3 : Int32)), lI (((p0.toUInt32 >>> ((2 : Int32) &&& 31).toUInt32).toInt32) &&& (255 : Int32)), lI (((p0.toUInt32 >>> ((10 : Int32) &&& 31).toUInt32).toInt32) &&& (255 : Int32)), lI (((p0.toUInt32 >>> ((18 : Int32) &&& 31).toUInt32).toInt32) &&& (255 : Int32))] [(.ref b40), (.ref b40)]))
        refine Go.st (fun _ => XS.iconst X40.here hx rfl (hb hby od32_87)) ?_
        show Go _ _ _ _ (T40.setTop (mkF m 88 #[lI p0, lI (p0 &&& (3 : Int32)), lI (((p0.toUInt32 >>> ((2 : Int32) &&& 31).toUInt32).toInt32) &&& (255 : Int32)), lI (((p0.toUInt32 >>> ((10 : Int32) &&& 31).toUInt32).toInt32) &&& (255 : Int32)), lI (((p0.toUInt32 >>> ((18 : Int32) &&& 31).toUInt32).toInt32) &&& (255 : Int32))] [(.int (3 : Int32)), (.ref b40), (.ref b40)]))
        obtain ⟨T43, h43, k43, X43, e43, E43, A43, st43⟩ := newP X40 hx hZ (ow hw 7 rfl) e40 (g := (mkF m 88 #[.val (.int p0), .val (.int (p0 &&& (3 : Int32))), .val (.int (((p0.toUInt32 >>> ((2 : Int32) &&& 31).toUInt32).toInt32) &&& (255 : Int32))), .val (.int (((p0.toUInt32 >>> ((10 : Int32) &&& 31).toUInt32).toInt32) &&& (255 : Int32))), .val (.int (((p0.toUInt32 >>> ((18 : Int32) &&& 31).toUInt32).toInt32) &&& (255 : Int32)))] [(.int (3 : Int32)), (.ref b40), (.ref b40)])) rfl (hb hby od32_88) rfl (by decide) (cap := 3) (by decide) (by decide) (by decide) (by decide)
        obtain ⟨b43, g43⟩ : ∃ z, z = h40.size := ⟨_, rfl⟩
        rw [← g43] at A43 st43
        refine Go.st st43 ?_
        have g_b43 : n0 ≤ b43 := Nat.le_trans (own_oldsz O40) (Nat.le_of_eq g43.symm)
        have sz_b43 : h0.size ≤ b43 := Nat.le_trans K40.1 (Nat.le_of_eq g43.symm)
        have K43 : Keep h0 h43 [] := K40.ext E43
        have O43 := O40.ext E43
        have sf44 := Safe.ext E43 CR40.1 SF_b40
        have SF_b43 : Safe Z consts_1 s.vm h43 b43 := Safe.ext E43 CR40.1 (Safe.new (Nat.le_of_eq g43.symm))
        have CR43 := CR40.trans (CHr.ext E43 CR40.1)
        have V43 : Arv Z h43 b43 k43 .char (3 : Int32) [(.int (0 : Int32)), (.int (0 : Int32)), (.int (0 : Int32))] (.int (0 : Int32)) := (Arv.new A43 (by decide)).pad (pad_rep [] (.int (0 : Int32)) 3)
        show Go _ _ _ _ (T43.setTop (mkF m 90 #[lI p0, lI (p0 &&& (3 : Int32)), lI (((p0.toUInt32 >>> ((2 : Int32) &&& 31).toUInt32).toInt32) &&& (255 : Int32)), lI (((p0.toUInt32 >>> ((10 : Int32) &&& 31).toUInt32).toInt32) &&& (255 : Int32)), lI (((p0.toUInt32 >>> ((18 : Int32) &&& 31).toUInt32).toInt32) &&& (255 : Int32))] [(.ref b43), (.ref b40), (.ref b40)]))
        refine Go.st (fun _ => XS.dup X43.here hx rfl (hb hby od32_90) rfl rfl) ?_
        show Go _ _ _ _ (T43.setTop (mkF m 91 #[lI p0, lI (p0 &&& (3 : Int32)), lI (((p0.toUInt32 >>> ((2 : Int32) &&& 31).toUInt32).toInt32) &&& (255 : Int32)), lI (((p0.toUInt32 >>> ((10 : Int32) &&& 31).toUInt32).toInt32) &&& (255 : Int32)), lI (((p0.toUInt32 >>> ((18 : Int32) &&& 31).toUInt32).toInt32) &&& (255 : Int32))] [(.ref b43), (.ref b43), (.ref b40), (.ref b40)]))
        refine Go.st (fun _ => XS.iconst X43.here hx rfl (hb hby od32_91)) ?_
        show Go _ _ _ _ (T43.setTop (mkF m 92 #[lI p0, lI (p0 &&& (3 : Int32)), lI (((p0.toUInt32 >>> ((2 : Int32) &&& 31).toUInt32).toInt32) &&& (255 : Int32)), lI (((p0.toUInt32 >>> ((10 : Int32) &&& 31).toUInt32).toInt32) &&& (255 : Int32)), lI (((p0.toUInt32 >>> ((18 : Int32) &&& 31).toUInt32).toInt32) &&& (255 : Int32))] [(.int (0 : Int32)), (.ref b43), (.ref b43), (.ref b40), (.ref b40)]))
        refine Go.st (fun _ => XS.iloadN X43.here hx rfl (hb hby od32_92) rfl) ?_
        show Go _ _ _ _ (T43.setTop (mkF m 93 #[lI p0, lI (p0 &&& (3 : Int32)), lI (((p0.toUInt32 >>> ((2 : Int32) &&& 31).toUInt32).toInt32) &&& (255 : Int32)), lI (((p0.toUInt32 >>> ((10 : Int32) &&& 31).toUInt32).toInt32) &&& (255 : Int32)), lI (((p0.toUInt32 >>> ((18 : Int32) &&& 31).toUInt32).toInt32) &&& (255 : Int32))] [(.int (((p0.toUInt32 >>> ((2 : Int32) &&& 31).toUInt32).toInt32) &&& (255 : Int32))), (.int (0 : Int32)), (.ref b43), (.ref b43), (.ref b40), (.ref b40)]))
        obtain ⟨T45, h45, X45, e45, W45, V45, st45⟩ := own_stC X43 hx hZ e43 V43 (j := (0 : Int32)) (i := 0) (by decide) (by decide) (Nat.le_of_ble_eq_true rfl) (g := (mkF m 93 #[.val (.int p0), .val (.int (p0 &&& (3 : Int32))), .val (.int (((p0.toUInt32 >>> ((2 : Int32) &&& 31).toUInt32).toInt32) &&& (255 : Int32))), .val (.int (((p0.toUInt32 >>> ((10 : Int32) &&& 31).toUInt32).toInt32) &&& (255 : Int32))), .val (.int (((p0.toUInt32 >>> ((18 : Int32) &&& 31).toUInt32).toInt32) &&& (255 : Int32)))] [(.int (((p0.toUInt32 >>> ((2 : Int32) &&& 31).toUInt32).toInt32) &&& (255 : Int32))), (.int (0 : Int32)), (.ref b43), (.ref b43), (.ref b40), (.ref b40)])) rfl rfl (hb hby od32_93)
        refine Go.st st45 ?_
        rw [show nar .char (((p0.toUInt32 >>> ((2 : Int32) &&& 31).toUInt32).toInt32) &&& (255 : Int32)) = (((p0.toUInt32 >>> ((2 : Int32) &&& 31).toUInt32).toInt32) &&& (255 : Int32)) from i2c_mask _] at V45
        have sf46 := Safe.wr W45 SF_b43 CR43.1 sf44
        have sf47 := Safe.wr W45 SF_b43 CR43.1 SF_b43
        have CR45 := CR43.trans (CHr.wr W45 SF_b43 CR43.1)
        have K45 : Keep h0 h45 [] := K43.wr W45 (Or.inr sz_b43)
        have O45 := O43.wr W45 g_b43
        have N45 := Fr.snoc X45 N0 g_b43
        have V45' : Arv Z h45 b43 k43 .char (3 : Int32) [(.int (((p0.toUInt32 >>> ((2 : Int32) &&& 31).toUInt32).toInt32) &&& (255 : Int32))), (.int (0 : Int32)), (.int (0 : Int32))] (.int (0 : Int32)) := V45
        show Go _ _ _ _ (T45.setTop (mkF m 94 #[lI p0, lI (p0 &&& (3 : Int32)), lI (((p0.toUInt32 >>> ((2 : Int32) &&& 31).toUInt32).toInt32) &&& (255 : Int32)), lI (((p0.toUInt32 >>> ((10 : Int32) &&& 31).toUInt32).toInt32) &&& (255 : Int32)), lI (((p0.toUInt32 >>> ((18 : Int32) &&& 31).toUInt32).toInt32) &&& (255 : Int32))] [(.ref b43), (.ref b40), (.ref b40)]))
        refine Go.st (fun _ => XS.dup X45.here hx rfl (hb hby od32_94) rfl rfl) ?_
        show Go _ _ _ _ (T45.setTop (mkF m 95 #[lI p0, lI (p0 &&& (3 : Int32)), lI (((p0.toUInt32 >>> ((2 : Int32) &&& 31).toUInt32).toInt32) &&& (255 : Int32)), lI (((p0.toUInt32 >>> ((10 : Int32) &&& 31).toUInt32).toInt32) &&& (255 : Int32)), lI (((p0.toUInt32 >>> ((18 : Int32) &&& 31).toUInt32).toInt32) &&& (255 : Int32))] [(.ref b43), (.ref b43), (.ref b40), (.ref b40)]))
        refine Go.st (fun _ => XS.iconst X45.here hx rfl (hb hby od32_95)) ?_
        show Go _ _ _ _ (T45.setTop (mkF m 96 #[lI p0, lI (p0 &&& (3 : Int32)), lI (((p0.toUInt32 >>> ((2 : Int32) &&& 31).toUInt32).toInt32) &&& (255 : Int32)), lI (((p0.toUInt32 >>> ((10 : Int32) &&& 31).toUInt32).toInt32) &&& (255 : Int32)), lI (((p0.toUInt32 >>> ((18 : Int32) &&& 31).toUInt32).toInt32) &&& (255 : Int32))] [(.int (1 : Int32)), (.ref b43), (.ref b43), (.ref b40), (.ref b40)]))
        refine Go.st (fun _ => XS.iloadN X45.here hx rfl (hb hby od32_96) rfl) ?_
        show Go _ _ _ _ (T45.setTop (mkF m 97 #[lI p0, lI (p0 &&& (3 : Int32)), lI (((p0.toUInt32 >>> ((2 : Int32) &&& 31).toUInt32).toInt32) &&& (255 : Int32)), lI (((p0.toUInt32 >>> ((10 : Int32) &&& 31).toUInt32).toInt32) &&& (255 : Int32)), lI (((p0.toUInt32 >>> ((18 : Int32) &&& 31).toUInt32).toInt32) &&& (255 : Int32))] [(.int (((p0.toUInt32 >>> ((10 : Int32) &&& 31).toUInt32).toInt32) &&& (255 : Int32))), (.int (1 : Int32)), (.ref b43), (.ref b43), (.ref b40), (.ref b40)]))
        obtain ⟨T48, h48, X48, e48, W48, V48, st48⟩ := own_stC X45 hx hZ e45 V45' (j := (1 : Int32)) (i := 1) (by decide) (by decide) (Nat.le_of_ble_eq_true rfl) (g := (mkF m 97 #[.val (.int p0), .val (.int (p0 &&& (3 : Int32))), .val (.int (((p0.toUInt32 >>> ((2 : Int32) &&& 31).toUInt32).toInt32) &&& (255 : Int32))), .val (.int (((p0.toUInt32 >>> ((10 : Int32) &&& 31).toUInt32).toInt32) &&& (255 : Int32))), .val (.int (((p0.toUInt32 >>> ((18 : Int32) &&& 31).toUInt32).toInt32) &&& (255 : Int32)))] [(.int (((p0.toUInt32 >>> ((10 : Int32) &&& 31).toUInt32).toInt32) &&& (255 : Int32))), (.int (1 : Int32)), (.ref b43), (.ref b43), (.ref b40), (.ref b40)])) rfl rfl (hb hby od32_97)
        refine Go.st st48 ?_
        rw [show nar .char (((p0.toUInt32 >>> ((10 : Int32) &&& 31).toUInt32).toInt32) &&& (255 : Int32)) = (((p0.toUInt32 >>> ((10 : Int32) &&& 31).toUInt32).toInt32) &&& (255 : Int32)) from i2c_mask _] at V48
        have sf49 := Safe.wr W48 sf47 CR45.1 sf46
        have sf50 := Safe.wr W48 sf47 CR45.1 sf47
        have CR48 := CR45.trans (CHr.wr W48 sf47 CR45.1)
        have K48 : Keep h0 h48 [] := K45.wr W48 (Or.inr sz_b43)
        have O48 := O45.wr W48 g_b43
        have N48 := Fr.snoc X48 N45 g_b43
        have V48' : Arv Z h48 b43 k43 .char (3 : Int32) [(.int (((p0.toUInt32 >>> ((2 : Int32) &&& 31).toUInt32).toInt32) &&& (255 : Int32))), (.int (((p0.toUInt32 >>> ((10 : Int32) &&& 31).toUInt32).toInt32) &&& (255 : Int32))), (.int (0 : Int32))] (.int (0 : Int32)) := V48
        show Go _ _ _ _ (T48.setTop (mkF m 98 #[lI p0, lI (p0 &&& (3 : Int32)), lI (((p0.toUInt32 >>> ((2 : Int32) &&& 31).toUInt32).toInt32) &&& (255 : Int32)), lI (((p0.toUInt32 >>> ((10 : Int32) &&& 31).toUInt32).toInt32) &&& (255 : Int32)), lI (((p0.toUInt32 >>> ((18 : Int32) &&& 31).toUInt32).toInt32) &&& (255 : Int32))] [(.ref b43), (.ref b40), (.ref b40)]))
        refine Go.st (fun _ => XS.dup X48.here hx rfl (hb hby od32_98) rfl rfl) ?_
        show Go _ _ _ _ (T48.setTop (mkF m 99 #[lI p0, lI (p0 &&& (3 : Int32)), lI (((p0.toUInt32 >>> ((2 : Int32) &&& 31).toUInt32).toInt32) &&& (255 : Int32)), lI (((p0.toUInt32 >>> ((10 : Int32) &&& 31).toUInt32).toInt32) &&& (255 : Int32)), lI (((p0.toUInt32 >>> ((18 : Int32) &&& 31).toUInt32).toInt32) &&& (255 : Int32))] [(.ref b43), (.ref b43), (.ref b40), (.ref b40)]))
        refine Go.st (fun _ => XS.iconst X48.here hx rfl (hb hby od32_99)) ?_
        show Go _ _ _ _ (T48.setTop (mkF m 100 #[lI p0, lI (p0 &&& (3 : Int32)), lI (((p0.toUInt32 >>> ((2 : Int32) &&& 31).toUInt32).toInt32) &&& (255 : Int32)), lI (((p0.toUInt32 >>> ((10 : Int32) &&& 31).toUInt32).toInt32) &&& (255 : Int32)), lI (((p0.toUInt32 >>> ((18 : Int32) &&& 31).toUInt32).toInt32) &&& (255 : Int32))] [(.int (2 : Int32)), (.ref b43), (.ref b43), (.ref b40), (.ref b40)]))
        refine Go.st (fun _ => XS.iload X48.here hx rfl (hb hby od32_100) rfl) ?_
        show Go _ _ _ _ (T48.setTop (mkF m 102 #[lI p0, lI (p0 &&& (3 : Int32)), lI (((p0.toUInt32 >>> ((2 : Int32) &&& 31).toUInt32).toInt32) &&& (255 : Int32)), lI (((p0.toUInt32 >>> ((10 : Int32) &&& 31).toUInt32).toInt32) &&& (255 : Int32)), lI (((p0.toUInt32 >>> ((18 : Int32) &&& 31).toUInt32).toInt32) &&& (255 : Int32))] [(.int (((p0.toUInt32 >>> ((18 : Int32) &&& 31).toUInt32).toInt32) &&& (255 : Int32))), (.int (2 : Int32)), (.ref b43), (.ref b43), (.ref b40), (.ref b40)]))
        obtain ⟨T51, h51, X51, e51, W51, V51, st51⟩ := own_stC X48 hx hZ e48 V48' (j := (2 : Int32)) (i := 2) (by decide) (by decide) (Nat.le_of_ble_eq_true rfl) (g := (mkF m 102 #[.val (.int p0), .val (.int (p0 &&& (3 : Int32))), .val (.int (((p0.toUInt32 >>> ((2 : Int32) &&& 31).toUInt32).toInt32) &&& (255 : Int32))), .val (.int (((p0.toUInt32 >>> ((10 : Int32) &&& 31).toUInt32).toInt32) &&& (255 : Int32))), .val (.int (((p0.toUInt32 >>> ((18 : Int32) &&& 31).toUInt32).toInt32) &&& (255 : Int32)))] [(.int (((p0.toUInt32 >>> ((18 : Int32) &&& 31).toUInt32).toInt32) &&& (255 : Int32))), (.int (2 : Int32)), (.ref b43), (.ref b43), (.ref b40), (.ref b40)])) rfl rfl (hb hby od32_102)
        refine Go.st st51 ?_
        rw [show nar .char (((p0.toUInt32 >>> ((18 : Int32) &&& 31).toUInt32).toInt32) &&& (255 : Int32)) = (((p0.toUInt32 >>> ((18 : Int32) &&& 31).toUInt32).toInt32) &&& (255 : Int32)) from i2c_mask _] at V51
        have sf52 := Safe.wr W51 sf50 CR48.1 sf49
        have sf53 := Safe.wr W51 sf50 CR48.1 sf50
        have CR51 := CR48.trans (CHr.wr W51 sf50 CR48.1)
        have K51 : Keep h0 h51 [] := K48.wr W51 (Or.inr sz_b43)
        have O51 := O48.wr W51 g_b43
        have N51 := Fr.snoc X51 N48 g_b43
        have V51' : Arv Z h51 b43 k43 .char (3 : Int32) [(.int (((p0.toUInt32 >>> ((2 : Int32) &&& 31).toUInt32).toInt32) &&& (255 : Int32))), (.int (((p0.toUInt32 >>> ((10 : Int32) &&& 31).toUInt32).toInt32) &&& (255 : Int32))), (.int (((p0.toUInt32 >>> ((18 : Int32) &&& 31).toUInt32).toInt32) &&& (255 : Int32)))] (.int (0 : Int32)) := V51
        show Go _ _ _ _ (T51.setTop (mkF m 103 #[lI p0, lI (p0 &&& (3 : Int32)), lI (((p0.toUInt32 >>> ((2 : Int32) &&& 31).toUInt32).toInt32) &&& (255 : Int32)), lI (((p0.toUInt32 >>> ((10 : Int32) &&& 31).toUInt32).toInt32) &&& (255 : Int32)), lI (((p0.toUInt32 >>> ((18 : Int32) &&& 31).toUInt32).toInt32) &&& (255 : Int32))] [(.ref b43), (.ref b40), (.ref b40)]))
        have c55 := ((((A40.ext E43).wr W45).wr W48).wr W51)
        have c56 := ((((F41.ext E43).other W45 (Or.inl (Nat.ne_of_lt (Nat.lt_of_lt_of_le A40.lt (Nat.le_of_eq g43.symm))))).other W48 (Or.inl (Nat.ne_of_lt (Nat.lt_of_lt_of_le A40.lt (Nat.le_of_eq g43.symm))))).other W51 (Or.inl (Nat.ne_of_lt (Nat.lt_of_lt_of_le A40.lt (Nat.le_of_eq g43.symm)))))
        have c57 := ((((F42.ext E43).other W45 (Or.inl (Nat.ne_of_lt (Nat.lt_of_lt_of_le A40.lt (Nat.le_of_eq g43.symm))))).other W48 (Or.inl (Nat.ne_of_lt (Nat.lt_of_lt_of_le A40.lt (Nat.le_of_eq g43.symm))))).other W51 (Or.inl (Nat.ne_of_lt (Nat.lt_of_lt_of_le A40.lt (Nat.le_of_eq g43.symm)))))
        have hp54 : ∀ c ∈ ([(((p0.toUInt32 >>> ((2 : Int32) &&& 31).toUInt32).toInt32) &&& (255 : Int32)), (((p0.toUInt32 >>> ((10 : Int32) &&& 31).toUInt32).toInt32) &&& (255 : Int32)), (((p0.toUInt32 >>> ((18 : Int32) &&& 31).toUInt32).toInt32) &&& (255 : Int32))] : List Int32), ¬ c < 0 ∧ ¬ (255 : Int32) < c := by
          intro c hc
          simp only [List.mem_cons, List.not_mem_nil, or_false] at hc
          rcases hc with rfl | rfl | rfl
          · exact own_and255 _
          · exact own_and255 _
          · exact own_and255 _
        obtain ⟨_, _, ⟨T54, L54, k54, n54⟩, -, X54, ⟨Lc54, hQ54, l54, y54, z54⟩, st54⟩ := X51.specialBack hx (y := (⟨"java/lang/String", "<init>", "([C)V"⟩ : MethodName)) rfl hown (mvT hZ (ow hw 8 rfl)) (mvT hZ (ow hw 9 rfl)) (mvT hZ (ow hw 10 rfl)) (by decide) (StrChars.Road.backV (W := 1) hZ (fun d hd => hw d (own_wNew d hd)) (kI := 4) (ow hw 5 rfl) (cs := ([(((p0.toUInt32 >>> ((2 : Int32) &&& 31).toUInt32).toInt32) &&& (255 : Int32)), (((p0.toUInt32 >>> ((10 : Int32) &&& 31).toUInt32).toInt32) &&& (255 : Int32)), (((p0.toUInt32 >>> ((18 : Int32) &&& 31).toUInt32).toInt32) &&& (255 : Int32))] : List Int32)) (bs := (([(((p0.toUInt32 >>> ((2 : Int32) &&& 31).toUInt32).toInt32) &&& (255 : Int32)), (((p0.toUInt32 >>> ((10 : Int32) &&& 31).toUInt32).toInt32) &&& (255 : Int32)), (((p0.toUInt32 >>> ((18 : Int32) &&& 31).toUInt32).toInt32) &&& (255 : Int32))] : List Int32)).map (fun c => c.toInt8.toInt32)) (n := 3) g_b40 (own_oldsz O51) c55 c56 c57 V51' (S_CS.ext O51.2) nz_CS rfl rfl (by decide) (by decide) hp54 rfl (by decide) (by decide)) (g := (mkF m 103 #[.val (.int p0), .val (.int (p0 &&& (3 : Int32))), .val (.int (((p0.toUInt32 >>> ((2 : Int32) &&& 31).toUInt32).toInt32) &&& (255 : Int32))), .val (.int (((p0.toUInt32 >>> ((10 : Int32) &&& 31).toUInt32).toInt32) &&& (255 : Int32))), .val (.int (((p0.toUInt32 >>> ((18 : Int32) &&& 31).toUInt32).toInt32) &&& (255 : Int32)))] [(.ref b43), (.ref b40), (.ref b40)])) rfl (by rw [hml]; rfl) (Steps.refl _) (a := b40) (argsL := [(.ref b43)]) (rest := [(.ref b40)]) (lenOf own_pd21 rfl) rfl (by show 2 * 0 + _ ≤ _; exact Nat.le_of_eq rfl) (hb hby od32_103) (fun _ _ => ⟨rfl, e51, (by decide : 2 + 1 ≤ _), (by decide : 7 + 3 ≤ _)⟩)
        dsimp only [Pt.U, Pt.locs, Pt.cells, Pt.slots] at X54 l54 y54 z54 st54 hQ54
        subst y54 z54
        refine Go.tr st54 ?_
        obtain ⟨rfl, N54q, K54q, E54x, C54x, t54, kb54, gt54, szt54, net54, V54x, A54x⟩ := hQ54
        have N54 : Fr n0 L54 := by rw [l54]; exact Fr.app N51 N54q
        have O54 := O51.keep K54q (allS g_b40 all0)
        have K54 : Keep h0 T54.heap [] := K51.trans K54q (allS (Or.inr sz_b40) all0)
        have sf58 := Safe.keep K54q (sfS sf52 sf0) CR51.1 sf52
        have sf59 := Safe.keep K54q (sfS sf52 sf0) CR51.1 sf53
        have CR54 := CR51.trans (CHr.keep K54q (sfS sf52 sf0) CR51.1)
        have sz_t54 : h0.size ≤ t54 := Nat.le_trans K51.1 szt54
        show Go _ _ _ _ (T54.setTop (mkF m 106 #[lI p0, lI (p0 &&& (3 : Int32)), lI (((p0.toUInt32 >>> ((2 : Int32) &&& 31).toUInt32).toInt32) &&& (255 : Int32)), lI (((p0.toUInt32 >>> ((10 : Int32) &&& 31).toUInt32).toInt32) &&& (255 : Int32)), lI (((p0.toUInt32 >>> ((18 : Int32) &&& 31).toUInt32).toInt32) &&& (255 : Int32))] [(.ref b40)]))
        obtain ⟨fs, hr, hrun, hended, -, hW, hpair, hsame⟩ := X54.leaveW hS0 (Nat.le_trans (Nat.le_trans (Nat.le_trans (Nat.le_trans (Nat.le_trans (Nat.le_trans hk0 E40.1) E43.1) (Keep.of_wr W45).1) (Keep.of_wr W48).1) (Keep.of_wr W51).1) K54q.1) (v := some (.ref b40)) (fun h => by rw [Bd.returns] at h; cases h)
        have hCRe := CR54.trans (CHv.at X54 hZ hEL CR54.1)
        refine ⟨_, ?_, hPend _ _ hrun hended ⟨_, _, rfl, ?_, ?_, ⟨_, rfl⟩, hW, hpair, hsame.mono (by decide) (by decide)⟩⟩
        · exact retOut X54 hx (t := (.object "java/lang/String")) Bd.returns rfl (Or.inr (Or.inr (Or.inr (Or.inr ⟨rfl, rfl, rfl⟩)))) (hb hby od32_106) hr
        · show Q_rm_mk Z _ _ h0 n0 _ T54.heap _
          exact ⟨b40, t54, kb54, ([(((p0.toUInt32 >>> ((2 : Int32) &&& 31).toUInt32).toInt32) &&& (255 : Int32)), (((p0.toUInt32 >>> ((10 : Int32) &&& 31).toUInt32).toInt32) &&& (255 : Int32)), (((p0.toUInt32 >>> ((18 : Int32) &&& 31).toUInt32).toInt32) &&& (255 : Int32))] : List Int32), rfl, N54, K54, sz_b40, E54x, C54x, V54x, A54x, hp54, (Nat.le_of_ble_eq_true rfl)⟩
        · show CHr Z consts_1 s.vm s.heap T54.vm T54.heap
          rw [hh]
          exact hCRe
theorem own_ef_rm_uinit (m : MethodId) (x0 : Addr) (x1 : Addr) (x2 : Addr) (x3 : Addr) : entryFrame m #[(.ref x0), (.ref x1), (.ref x2), (.ref x3)] 4 = mkF m 0 #[.val (.ref x0), .val (.ref x1), .val (.ref x2), .val (.ref x3)] [] := by first | (simp [entryFrame, mkF, argsToLocals, Value.category]; done) | rfl
theorem own_pn9 : plainName "com/example/strikeboard/strikeboard/engine/Explanation$Unused" = true := by first | (simp [plainName, overriddenIn]; done) | decide +kernel
theorem od33_0 : decode prog_26_method_1_code 0 = .ok (.aload_n 0, 1) := by decide +kernel
theorem od33_1 : decode prog_26_method_1_code 1 = .ok (.invokespecial 1, 3) := by decide +kernel
theorem own_pd23 : parseMethodDescriptor "()V" = some ⟨[], none⟩ := by decide +kernel
theorem od33_4 : decode prog_26_method_1_code 4 = .ok (.aload_n 1, 1) := by decide +kernel
theorem od33_5 : decode prog_26_method_1_code 5 = .ok (.ldc 7, 2) := by decide +kernel
theorem od33_7 : decode prog_26_method_1_code 7 = .ok (.invokestatic 9, 3) := by decide +kernel
theorem own_pd24 : parseMethodDescriptor "(Ljava/lang/Object;Ljava/lang/String;)Ljava/lang/Object;" = some ⟨[(.object "java/lang/Object"), (.object "java/lang/String")], some (.object "java/lang/Object")⟩ := by decide +kernel
theorem od33_10 : decode prog_26_method_1_code 10 = .ok (.pop, 1) := by decide +kernel
theorem od33_11 : decode prog_26_method_1_code 11 = .ok (.aload_n 2, 1) := by decide +kernel
theorem od33_12 : decode prog_26_method_1_code 12 = .ok (.ldc 15, 2) := by decide +kernel
theorem od33_14 : decode prog_26_method_1_code 14 = .ok (.invokestatic 9, 3) := by decide +kernel
theorem od33_17 : decode prog_26_method_1_code 17 = .ok (.pop, 1) := by decide +kernel
theorem od33_18 : decode prog_26_method_1_code 18 = .ok (.aload_n 3, 1) := by decide +kernel
theorem od33_19 : decode prog_26_method_1_code 19 = .ok (.ldc 17, 2) := by decide +kernel
theorem od33_21 : decode prog_26_method_1_code 21 = .ok (.invokestatic 9, 3) := by decide +kernel
theorem od33_24 : decode prog_26_method_1_code 24 = .ok (.pop, 1) := by decide +kernel
theorem od33_25 : decode prog_26_method_1_code 25 = .ok (.aload_n 0, 1) := by decide +kernel
theorem od33_26 : decode prog_26_method_1_code 26 = .ok (.aload_n 1, 1) := by decide +kernel
theorem od33_27 : decode prog_26_method_1_code 27 = .ok (.putfield 19, 3) := by decide +kernel
theorem od33_30 : decode prog_26_method_1_code 30 = .ok (.aload_n 0, 1) := by decide +kernel
theorem od33_31 : decode prog_26_method_1_code 31 = .ok (.aload_n 2, 1) := by decide +kernel
theorem od33_32 : decode prog_26_method_1_code 32 = .ok (.putfield 24, 3) := by decide +kernel
theorem od33_35 : decode prog_26_method_1_code 35 = .ok (.aload_n 0, 1) := by decide +kernel
theorem od33_36 : decode prog_26_method_1_code 36 = .ok (.aload_n 3, 1) := by decide +kernel
theorem od33_37 : decode prog_26_method_1_code 37 = .ok (.putfield 26, 3) := by decide +kernel
theorem od33_40 : decode prog_26_method_1_code 40 = .ok (.return_, 1) := by decide +kernel
def Q_rm_uinit (Z : State) (p0 : Addr) (p1 : Addr) (p2 : Addr) (p3 : Addr) (h0 : Heap) (n0 : Nat) (v : Option Value) (h : Heap) (L : List Loc) : Prop := v = none ∧ Fr n0 L ∧ Keep h0 h [p0] ∧ Exa Z h p0 "com/example/strikeboard/strikeboard/engine/Explanation$Unused" ∧ Fld Z h p0 "com/example/strikeboard/strikeboard/engine/Explanation$Unused" "modifier" "Ljava/lang/String;" (.ref p1) ∧ Fld Z h p0 "com/example/strikeboard/strikeboard/engine/Explanation$Unused" "offence" "Ljava/lang/String;" (.ref p2) ∧ Fld Z h p0 "com/example/strikeboard/strikeboard/engine/Explanation$Unused" "used" "Ljava/lang/String;" (.ref p3)
set_option maxRecDepth 65536 in
set_option maxHeartbeats 40000000 in
theorem rm_uinit (l : Launch) (Z : State) (a0 : Array Value) (hw : ∀ d ∈ tables_1, d.before a0 Z = true) (ws : List Jvm.Cond) (p0 : Addr) (p1 : Addr) (p2 : Addr) (p3 : Addr) (h0 : Heap) (n0 : Nat) (X00 : Old Z n0 h0) (hp0 : Exa Z h0 p0 "com/example/strikeboard/strikeboard/engine/Explanation$Unused") (hp1 : Fld Z h0 p0 "com/example/strikeboard/strikeboard/engine/Explanation$Unused" "modifier" "Ljava/lang/String;" .null) (hp2 : Fld Z h0 p0 "com/example/strikeboard/strikeboard/engine/Explanation$Unused" "offence" "Ljava/lang/String;" .null) (hp3 : Fld Z h0 p0 "com/example/strikeboard/strikeboard/engine/Explanation$Unused" "used" "Ljava/lang/String;" .null) (hp4 : n0 ≤ p0) :
    MetFree l (⟨"com/example/strikeboard/strikeboard/engine/Explanation$Unused", "<init>", "(Ljava/lang/String;Ljava/lang/String;Ljava/lang/String;)V"⟩ : MethodName) (head1 (Jvm.Cond.code (⟨"com/example/strikeboard/strikeboard/engine/Explanation$Unused", "<init>", "(Ljava/lang/String;Ljava/lang/String;Ljava/lang/String;)V"⟩ : MethodName) prog_26_method_1_code 4 none :: ws) ({ frames := 2, cells := 6, slots := 88, locals := 24 } : Room)) (fun a U => a = #[(.ref p0), (.ref p1), (.ref p2), (.ref p3)] ∧ Z.Warmed39 U.vm ∧ U.heap = h0 ∧ CHv Z consts_1 U.vm h0) (fun _ _ _ _ _ => True) (fun _ U o U' => ∃ v L, o = .returned v ∧ Q_rm_uinit Z p0 p1 p2 p3 h0 n0 v U'.heap L ∧ CHr Z consts_1 U.vm U.heap U'.vm U'.heap ∧ ReturnedEndW U o U' L ({ frames := 2, cells := 6, slots := 88, locals := 24 } : Room).cells ({ frames := 2, cells := 6, slots := 88, locals := 24 } : Room).slots) := by
  refine MetFree.of_bodySF (plainFor_of_name own_pn9) hisR ?_
  intro p e s m args below meth c s₁ Bd hml0 hP hK
  obtain ⟨rfl, hZ, hh, hCH⟩ := hP
  have hEL := own_EW Z a0 hw
  have CR0 : CHr Z consts_1 s.vm h0 s.vm h0 := CHr.refl hCH
  have hx := Bd.exec
  have hby := Bd.bytes
  have hml : c.maxLocals = 4 := hml0
  have hown : s.vm.findClass "com/example/strikeboard/strikeboard/engine/Explanation$Unused" = some m.cls := findClass_of_methodNamed Bd.named
  have hnm := (name_of_methodNamed Bd.named Bd.method).1
  have X0 : Stand p l e ({ frames := 2, cells := 6, slots := 88, locals := 24 } : Room) (s.setVm s.vm) m #[(.ref p0), (.ref p1), (.ref p2), (.ref p3)] below meth c s₁ [] 0 0 := Stand.of_body Bd
  have e0 : s₁.heap = h0 := by rw [← hh, Bd.state]; rfl
  have N0 := Fr.nil n0
  have hS0 : s.Since s.vm 0 := own_since s
  have hk0 : 0 ≤ h0.size := Nat.zero_le _
  have hZ : Z.Warmed39 (s.setVm s.vm).vm := hZ
  have hown : (s.setVm s.vm).vm.findClass "com/example/strikeboard/strikeboard/engine/Explanation$Unused" = some m.cls := hown
  refine Go.start fun P hPend => ?_
  refine Go.st (fun _ k => castTop (own_ef_rm_uinit m p0 p1 p2 p3) k) ?_
  show Go _ _ _ _ (s₁.setTop (mkF m 0 #[lR p0, lR p1, lR p2, lR p3] []))
  refine Go.st (fun _ => XS.aloadN X0.here hx rfl (hb hby od33_0) rfl rfl) ?_
  show Go _ _ _ _ (s₁.setTop (mkF m 1 #[lR p0, lR p1, lR p2, lR p3] [(.ref p0)]))
  obtain ⟨_, _, ⟨T1, L1, k1, n1⟩, -, X1, ⟨Lc1, hQ1, l1, y1, z1⟩, st1⟩ := X0.specialBack hx (y := (⟨"java/lang/Record", "<init>", "()V"⟩ : MethodName)) rfl hown (mvT hZ (ow hw 43 rfl)) (mvT hZ (ow hw 44 rfl)) (mvT hZ (ow hw 47 rfl)) (by decide) (backOf (W := 0) (rm_rec l Z a0 hw [] p0 h0 n0 X00 ) hZ (ow hw 47 rfl) (ow hw 46 rfl) (by decide) (by decide)) (g := (mkF m 1 #[.val (.ref p0), .val (.ref p1), .val (.ref p2), .val (.ref p3)] [(.ref p0)])) rfl (by rw [hml]; rfl) (Steps.refl _) (a := p0) (argsL := []) (rest := []) (lenOf own_pd23 rfl) rfl (by show 2 * 0 + _ ≤ _; exact Nat.le_of_eq rfl) (hb hby od33_1) (fun _ _ => ⟨rfl, e0, (by decide : 0 + 0 ≤ _), (by decide : 0 + 0 ≤ _)⟩)
  dsimp only [Pt.U, Pt.locs, Pt.cells, Pt.slots] at X1 l1 y1 z1 st1 hQ1
  subst y1 z1
  refine Go.tr st1 ?_
  obtain ⟨rfl, N1q, e1⟩ := hQ1
  have N1 : Fr n0 L1 := by rw [l1]; exact Fr.app N0 N1q
  show Go _ _ _ _ (T1.setTop (mkF m 4 #[lR p0, lR p1, lR p2, lR p3] []))
  refine Go.st (fun _ => XS.aloadN X1.here hx rfl (hb hby od33_4) rfl rfl) ?_
  show Go _ _ _ _ (T1.setTop (mkF m 5 #[lR p0, lR p1, lR p2, lR p3] [(.ref p1)]))
  obtain ⟨a2, T2, h2, kk2, X2, e2, E2, hS2, hk2, hZ2, hown2, hCR2, Li2, st2⟩ := ldcOH X1 hx hZ hown (ow hw 49 rfl) (fun a ha => hw a (own_strAtoms a ha)) e1 hS0 hk0 hEL CR0.1 (g := (mkF m 5 #[.val (.ref p0), .val (.ref p1), .val (.ref p2), .val (.ref p3)] [(.ref p1)])) rfl (hb hby od33_5) (n := 32) (by decide +kernel) (by decide) (by decide) (by decide)
  refine Go.st st2 ?_
  have K2 : Keep h0 h2 [p0] := (Keep.refl h0 [p0]).ext E2
  have O2 := X00.ext E2
  have CR2 := CR0.trans hCR2
  show Go _ _ _ _ (T2.setTop (mkF m 7 #[lR p0, lR p1, lR p2, lR p3] [(.ref a2), (.ref p1)]))
  obtain ⟨_, _, ⟨T3, L3, k3, n3⟩, -, X3, ⟨Lc3, hQ3, l3, y3, z3⟩, st3⟩ := Jvm.LawKit.callS X2 hx (y := (⟨"java/util/Objects", "requireNonNull", "(Ljava/lang/Object;Ljava/lang/String;)Ljava/lang/Object;"⟩ : MethodName)) hown2 (mvT hZ2 (ow hw 50 rfl)) (mvT hZ2 (ow hw 51 rfl)) (mvT hZ2 (ow hw 52 rfl)) (mvT hZ2 (ow hw 53 rfl)) (by decide) (backOf (W := 0) (rm_rnn l Z a0 hw [] p1 a2 h2 n0 O2 ) hZ2 (ow hw 53 rfl) (ow hw 52 rfl) (by decide) (by decide)) (g := (mkF m 7 #[.val (.ref p0), .val (.ref p1), .val (.ref p2), .val (.ref p3)] [(.ref a2), (.ref p1)])) rfl (by rw [hml]; rfl) (argsL := [(.ref p1), (.ref a2)]) (rest := []) (lenOf own_pd24 rfl) rfl (by show 2 * 0 + _ ≤ _; exact Nat.le_of_eq rfl) (hb hby od33_7) (fun _ _ => ⟨rfl, e2, (by decide : 2 + 0 ≤ _), (by decide : 36 + 0 ≤ _)⟩)
  dsimp only [Pt.U, Pt.locs, Pt.cells, Pt.slots] at X3 l3 y3 z3 st3 hQ3
  subst y3 z3
  refine Go.st st3 ?_
  obtain ⟨rfl, N3q, e3⟩ := hQ3
  have N3 : Fr n0 L3 := by rw [l3]; exact Fr.app N1 N3q
  show Go _ _ _ _ (T3.setTop (mkF m 10 #[lR p0, lR p1, lR p2, lR p3] [(.ref p1)]))
  refine Go.st (fun _ => XS.pop X3.here hx rfl (hb hby od33_10) rfl rfl) ?_
  show Go _ _ _ _ (T3.setTop (mkF m 11 #[lR p0, lR p1, lR p2, lR p3] []))
  refine Go.st (fun _ => XS.aloadN X3.here hx rfl (hb hby od33_11) rfl rfl) ?_
  show Go _ _ _ _ (T3.setTop (mkF m 12 #[lR p0, lR p1, lR p2, lR p3] [(.ref p2)]))
  have c5 := (hp0.ext E2)
  obtain ⟨a4, T4, h4, kk4, X4, e4, E4, hS4, hk4, hZ4, hown4, hCR4, Li4, st4⟩ := ldcOH X3 hx hZ2 hown2 (ow hw 54 rfl) (fun a ha => hw a (own_strAtoms a ha)) e3 hS2 hk2 hEL CR2.1 (g := (mkF m 12 #[.val (.ref p0), .val (.ref p1), .val (.ref p2), .val (.ref p3)] [(.ref p2)])) rfl (hb hby od33_12) (n := 28) (by decide +kernel) (by decide) (by decide) (by decide)
  refine Go.st st4 ?_
  have K4 : Keep h0 h4 [p0] := K2.ext E4
  have O4 := O2.ext E4
  have CR4 := CR2.trans hCR4
  show Go _ _ _ _ (T4.setTop (mkF m 14 #[lR p0, lR p1, lR p2, lR p3] [(.ref a4), (.ref p2)]))
  obtain ⟨_, _, ⟨T6, L6, k6, n6⟩, -, X6, ⟨Lc6, hQ6, l6, y6, z6⟩, st6⟩ := Jvm.LawKit.callS X4 hx (y := (⟨"java/util/Objects", "requireNonNull", "(Ljava/lang/Object;Ljava/lang/String;)Ljava/lang/Object;"⟩ : MethodName)) hown4 (mvT hZ4 (ow hw 50 rfl)) (mvT hZ4 (ow hw 51 rfl)) (mvT hZ4 (ow hw 52 rfl)) (mvT hZ4 (ow hw 53 rfl)) (by decide) (backOf (W := 0) (rm_rnn l Z a0 hw [] p2 a4 h4 n0 O4 ) hZ4 (ow hw 53 rfl) (ow hw 52 rfl) (by decide) (by decide)) (g := (mkF m 14 #[.val (.ref p0), .val (.ref p1), .val (.ref p2), .val (.ref p3)] [(.ref a4), (.ref p2)])) rfl (by rw [hml]; rfl) (argsL := [(.ref p2), (.ref a4)]) (rest := []) (lenOf own_pd24 rfl) rfl (by show 2 * 0 + _ ≤ _; exact Nat.le_of_eq rfl) (hb hby od33_14) (fun _ _ => ⟨rfl, e4, (by decide : 4 + 0 ≤ _), (by decide : 68 + 0 ≤ _)⟩)
  dsimp only [Pt.U, Pt.locs, Pt.cells, Pt.slots] at X6 l6 y6 z6 st6 hQ6
  subst y6 z6
  refine Go.st st6 ?_
  obtain ⟨rfl, N6q, e6⟩ := hQ6
  have N6 : Fr n0 L6 := by rw [l6]; exact Fr.app N3 N6q
  show Go _ _ _ _ (T6.setTop (mkF m 17 #[lR p0, lR p1, lR p2, lR p3] [(.ref p2)]))
  refine Go.st (fun _ => XS.pop X6.here hx rfl (hb hby od33_17) rfl rfl) ?_
  show Go _ _ _ _ (T6.setTop (mkF m 18 #[lR p0, lR p1, lR p2, lR p3] []))
  refine Go.st (fun _ => XS.aloadN X6.here hx rfl (hb hby od33_18) rfl rfl) ?_
  show Go _ _ _ _ (T6.setTop (mkF m 19 #[lR p0, lR p1, lR p2, lR p3] [(.ref p3)]))
  have c8 := (c5.ext E4)
  obtain ⟨a7, T7, h7, kk7, X7, e7, E7, hS7, hk7, hZ7, hown7, hCR7, Li7, st7⟩ := ldcOH X6 hx hZ4 hown4 (ow hw 55 rfl) (fun a ha => hw a (own_strAtoms a ha)) e6 hS4 hk4 hEL CR4.1 (g := (mkF m 19 #[.val (.ref p0), .val (.ref p1), .val (.ref p2), .val (.ref p3)] [(.ref p3)])) rfl (hb hby od33_19) (n := 16) (by decide +kernel) (by decide) (by decide) (by decide)
  refine Go.st st7 ?_
  have K7 : Keep h0 h7 [p0] := K4.ext E7
  have O7 := O4.ext E7
  have CR7 := CR4.trans hCR7
  show Go _ _ _ _ (T7.setTop (mkF m 21 #[lR p0, lR p1, lR p2, lR p3] [(.ref a7), (.ref p3)]))
  obtain ⟨_, _, ⟨T9, L9, k9, n9⟩, -, X9, ⟨Lc9, hQ9, l9, y9, z9⟩, st9⟩ := Jvm.LawKit.callS X7 hx (y := (⟨"java/util/Objects", "requireNonNull", "(Ljava/lang/Object;Ljava/lang/String;)Ljava/lang/Object;"⟩ : MethodName)) hown7 (mvT hZ7 (ow hw 50 rfl)) (mvT hZ7 (ow hw 51 rfl)) (mvT hZ7 (ow hw 52 rfl)) (mvT hZ7 (ow hw 53 rfl)) (by decide) (backOf (W := 0) (rm_rnn l Z a0 hw [] p3 a7 h7 n0 O7 ) hZ7 (ow hw 53 rfl) (ow hw 52 rfl) (by decide) (by decide)) (g := (mkF m 21 #[.val (.ref p0), .val (.ref p1), .val (.ref p2), .val (.ref p3)] [(.ref a7), (.ref p3)])) rfl (by rw [hml]; rfl) (argsL := [(.ref p3), (.ref a7)]) (rest := []) (lenOf own_pd24 rfl) rfl (by show 2 * 0 + _ ≤ _; exact Nat.le_of_eq rfl) (hb hby od33_21) (fun _ _ => ⟨rfl, e7, (by decide : 6 + 0 ≤ _), (by decide : 88 + 0 ≤ _)⟩)
  dsimp only [Pt.U, Pt.locs, Pt.cells, Pt.slots] at X9 l9 y9 z9 st9 hQ9
  subst y9 z9
  refine Go.st st9 ?_
  obtain ⟨rfl, N9q, e9⟩ := hQ9
  have N9 : Fr n0 L9 := by rw [l9]; exact Fr.app N6 N9q
  show Go _ _ _ _ (T9.setTop (mkF m 24 #[lR p0, lR p1, lR p2, lR p3] [(.ref p3)]))
  refine Go.st (fun _ => XS.pop X9.here hx rfl (hb hby od33_24) rfl rfl) ?_
  show Go _ _ _ _ (T9.setTop (mkF m 25 #[lR p0, lR p1, lR p2, lR p3] []))
  refine Go.st (fun _ => XS.aloadN X9.here hx rfl (hb hby od33_25) rfl rfl) ?_
  show Go _ _ _ _ (T9.setTop (mkF m 26 #[lR p0, lR p1, lR p2, lR p3] [(.ref p0)]))
  refine Go.st (fun _ => XS.aloadN X9.here hx rfl (hb hby od33_26) rfl rfl) ?_
  show Go _ _ _ _ (T9.setTop (mkF m 27 #[lR p0, lR p1, lR p2, lR p3] [(.ref p1), (.ref p0)]))
  have c11 := (c8.ext E7)
  have sf10 : Safe Z consts_1 T7.vm h7 p0 := (Safe.exa hZ7.alike c11 (by decide) (by decide))
  have c12 := (((hp1.ext E2).ext E4).ext E7)
  obtain ⟨T13, h13, X13, e13, W13, st13⟩ := putF X9 hx hZ7 hown7 (host := "") (Or.inl (ow hw 56 rfl)) Via.refl e9 c12 c11 (Or.inr ⟨(ow hw 57 rfl), rfl, hnm⟩) (ow hw 38 rfl) (ty := (.object "java/lang/String")) (by decide) rfl rfl (g := (mkF m 27 #[.val (.ref p0), .val (.ref p1), .val (.ref p2), .val (.ref p3)] [(.ref p1), (.ref p0)])) rfl rfl (hb hby od33_27)
  refine Go.st st13 ?_
  have sf14 := Safe.wr W13 sf10 CR7.1 sf10
  have CR13 := CR7.trans (CHr.wr W13 sf10 CR7.1)
  have K13 : Keep h0 h13 [p0] := K7.wr W13 (Or.inl (List.mem_of_getElem? (i := 0) rfl))
  have O13 := O7.wr W13 hp4
  have N13 := Fr.snoc X13 N9 hp4
  have F13 := c12.same W13
  show Go _ _ _ _ (T13.setTop (mkF m 30 #[lR p0, lR p1, lR p2, lR p3] []))
  refine Go.st (fun _ => XS.aloadN X13.here hx rfl (hb hby od33_30) rfl rfl) ?_
  show Go _ _ _ _ (T13.setTop (mkF m 31 #[lR p0, lR p1, lR p2, lR p3] [(.ref p0)]))
  refine Go.st (fun _ => XS.aloadN X13.here hx rfl (hb hby od33_31) rfl rfl) ?_
  show Go _ _ _ _ (T13.setTop (mkF m 32 #[lR p0, lR p1, lR p2, lR p3] [(.ref p2), (.ref p0)]))
  have c15 := ((((hp2.ext E2).ext E4).ext E7).other W13 (Or.inr (slot_ne (Or.inr (ow hw 59 rfl)) (Or.inr (ow hw 57 rfl)) (by decide) (t := (.object "java/lang/String")) (t' := (.object "java/lang/String")) (by decide) (by decide))))
  have c16 := (c11.wr W13)
  obtain ⟨T17, h17, X17, e17, W17, st17⟩ := putF X13 hx hZ7 hown7 (host := "") (Or.inl (ow hw 58 rfl)) Via.refl e13 c15 c16 (Or.inr ⟨(ow hw 59 rfl), rfl, hnm⟩) (ow hw 38 rfl) (ty := (.object "java/lang/String")) (by decide) rfl rfl (g := (mkF m 32 #[.val (.ref p0), .val (.ref p1), .val (.ref p2), .val (.ref p3)] [(.ref p2), (.ref p0)])) rfl rfl (hb hby od33_32)
  refine Go.st st17 ?_
  have sf18 := Safe.wr W17 sf14 CR13.1 sf14
  have CR17 := CR13.trans (CHr.wr W17 sf14 CR13.1)
  have K17 : Keep h0 h17 [p0] := K13.wr W17 (Or.inl (List.mem_of_getElem? (i := 0) rfl))
  have O17 := O13.wr W17 hp4
  have N17 := Fr.snoc X17 N13 hp4
  have F17 := c15.same W17
  show Go _ _ _ _ (T17.setTop (mkF m 35 #[lR p0, lR p1, lR p2, lR p3] []))
  refine Go.st (fun _ => XS.aloadN X17.here hx rfl (hb hby od33_35) rfl rfl) ?_
  show Go _ _ _ _ (T17.setTop (mkF m 36 #[lR p0, lR p1, lR p2, lR p3] [(.ref p0)]))
  refine Go.st (fun _ => XS.aloadN X17.here hx rfl (hb hby od33_36) rfl rfl) ?_
  show Go _ _ _ _ (T17.setTop (mkF m 37 #[lR p0, lR p1, lR p2, lR p3] [(.ref p3), (.ref p0)]))
  have c19 := (((((hp3.ext E2).ext E4).ext E7).other W13 (Or.inr (slot_ne (Or.inr (ow hw 61 rfl)) (Or.inr (ow hw 57 rfl)) (by decide) (t := (.object "java/lang/String")) (t' := (.object "java/lang/String")) (by decide) (by decide)))).other W17 (Or.inr (slot_ne (Or.inr (ow hw 61 rfl)) (Or.inr (ow hw 59 rfl)) (by decide) (t := (.object "java/lang/String")) (t' := (.object "java/lang/String")) (by decide) (by decide))))
  have c20 := (c16.wr W17)
  obtain ⟨T21, h21, X21, e21, W21, st21⟩ := putF X17 hx hZ7 hown7 (host := "") (Or.inl (ow hw 60 rfl)) Via.refl e17 c19 c20 (Or.inr ⟨(ow hw 61 rfl), rfl, hnm⟩) (ow hw 38 rfl) (ty := (.object "java/lang/String")) (by decide) rfl rfl (g := (mkF m 37 #[.val (.ref p0), .val (.ref p1), .val (.ref p2), .val (.ref p3)] [(.ref p3), (.ref p0)])) rfl rfl (hb hby od33_37)
  refine Go.st st21 ?_
  have sf22 := Safe.wr W21 sf18 CR17.1 sf18
  have CR21 := CR17.trans (CHr.wr W21 sf18 CR17.1)
  have K21 : Keep h0 h21 [p0] := K17.wr W21 (Or.inl (List.mem_of_getElem? (i := 0) rfl))
  have O21 := O17.wr W21 hp4
  have N21 := Fr.snoc X21 N17 hp4
  have F21 := c19.same W21
  show Go _ _ _ _ (T21.setTop (mkF m 40 #[lR p0, lR p1, lR p2, lR p3] []))
  obtain ⟨fs, hr, hrun, hended, -, hW, hpair, hsame⟩ := X21.leaveW hS7 (by rw [e21]; exact (Nat.le_trans (Nat.le_trans (Nat.le_trans hk7 (Keep.of_wr W13).1) (Keep.of_wr W17).1) (Keep.of_wr W21).1)) (v := none) (fun _ => rfl)
  have hCRe := CR21.trans (CHv.at X21 hZ7 hEL CR21.1)
  refine ⟨_, ?_, hPend _ _ hrun hended ⟨_, _, rfl, ?_, ?_, ⟨_, rfl⟩, hW, hpair, hsame.mono (by decide) (by decide)⟩⟩
  · exact X21.returnOut hx Bd.returns (hb hby od33_40) hr
  · show Q_rm_uinit Z _ _ _ _ h0 n0 _ T21.heap _
    rw [e21]
    have c23 := (c20.wr W21)
    have c24 := ((F13.other W17 (Or.inr (slot_ne (Or.inr (ow hw 57 rfl)) (Or.inr (ow hw 59 rfl)) (by decide) (t := (.object "java/lang/String")) (t' := (.object "java/lang/String")) (by decide) (by decide)))).other W21 (Or.inr (slot_ne (Or.inr (ow hw 57 rfl)) (Or.inr (ow hw 61 rfl)) (by decide) (t := (.object "java/lang/String")) (t' := (.object "java/lang/String")) (by decide) (by decide))))
    have c25 := (F17.other W21 (Or.inr (slot_ne (Or.inr (ow hw 59 rfl)) (Or.inr (ow hw 61 rfl)) (by decide) (t := (.object "java/lang/String")) (t' := (.object "java/lang/String")) (by decide) (by decide))))
    exact ⟨rfl, N21, K21, c23, c24, c25, F21⟩
  · show CHr Z consts_1 s.vm s.heap T21.vm T21.heap
    rw [hh, e21]
    exact hCRe
theorem own_ef_rm_utos (m : MethodId) (x0 : Addr) : entryFrame m #[(.ref x0)] 1 = mkF m 0 #[.val (.ref x0)] [] := by first | (simp [entryFrame, mkF, argsToLocals, Value.category]; done) | rfl
theorem od34_0 : decode prog_26_method_2_code 0 = .ok (.new 28, 3) := by decide +kernel
theorem od34_3 : decode prog_26_method_2_code 3 = .ok (.dup, 1) := by decide +kernel
theorem od34_4 : decode prog_26_method_2_code 4 = .ok (.invokespecial 30, 3) := by decide +kernel
theorem od34_7 : decode prog_26_method_2_code 7 = .ok (.ldc 31, 2) := by decide +kernel
theorem od34_9 : decode prog_26_method_2_code 9 = .ok (.invokevirtual 33, 3) := by decide +kernel
theorem own_pd25 : parseMethodDescriptor "(Ljava/lang/String;)Ljava/lang/StringBuilder;" = some ⟨[(.object "java/lang/String")], some (.object "java/lang/StringBuilder")⟩ := by decide +kernel
theorem od34_12 : decode prog_26_method_2_code 12 = .ok (.aload_n 0, 1) := by decide +kernel
theorem od34_13 : decode prog_26_method_2_code 13 = .ok (.getfield 19, 3) := by decide +kernel
theorem od34_16 : decode prog_26_method_2_code 16 = .ok (.invokevirtual 33, 3) := by decide +kernel
theorem od34_19 : decode prog_26_method_2_code 19 = .ok (.ldc 37, 2) := by decide +kernel
theorem od34_21 : decode prog_26_method_2_code 21 = .ok (.invokevirtual 33, 3) := by decide +kernel
theorem od34_24 : decode prog_26_method_2_code 24 = .ok (.aload_n 0, 1) := by decide +kernel
theorem od34_25 : decode prog_26_method_2_code 25 = .ok (.getfield 24, 3) := by decide +kernel
theorem od34_28 : decode prog_26_method_2_code 28 = .ok (.invokevirtual 33, 3) := by decide +kernel
theorem od34_31 : decode prog_26_method_2_code 31 = .ok (.ldc 39, 2) := by decide +kernel
theorem od34_33 : decode prog_26_method_2_code 33 = .ok (.invokevirtual 33, 3) := by decide +kernel
theorem od34_36 : decode prog_26_method_2_code 36 = .ok (.aload_n 0, 1) := by decide +kernel
theorem od34_37 : decode prog_26_method_2_code 37 = .ok (.getfield 26, 3) := by decide +kernel
theorem od34_40 : decode prog_26_method_2_code 40 = .ok (.invokevirtual 33, 3) := by decide +kernel
theorem od34_43 : decode prog_26_method_2_code 43 = .ok (.invokevirtual 41, 3) := by decide +kernel
theorem own_pd26 : parseMethodDescriptor "()Ljava/lang/String;" = some ⟨[], some (.object "java/lang/String")⟩ := by decide +kernel
theorem od34_46 : decode prog_26_method_2_code 46 = .ok (.areturn, 1) := by decide +kernel
def Q_rm_utos (Z : State) (g_CS : Int32) (p0 : Addr) (sm : Addr) (so : Addr) (su : Addr) (mcs : List Int32) (mv : Addr) (mk : ClassId) (ocs : List Int32) (ov : Addr) (ok : ClassId) (ucs : List Int32) (uv : Addr) (uk : ClassId) (h0 : Heap) (n0 : Nat) (v : Option Value) (h : Heap) (L : List Loc) : Prop := ∃ (os : Addr) (ob : Addr) (kb : ClassId), v = some (.ref os) ∧ Fr n0 L ∧ Keep h0 h [] ∧ h0.size ≤ os ∧ Exa Z h os "java/lang/String" ∧ Fld Z h os "java/lang/String" "coder" "B" (.int (0 : Int32)) ∧ Fld Z h os "java/lang/String" "value" "[B" (.ref ob) ∧ Arv Z h ob kb .byte (Int32.ofNat (own_R mcs ocs ucs).length) (((own_R mcs ocs ucs).map StrChars.lo8).map Value.int) (.int (0 : Int32))
set_option maxRecDepth 65536 in
set_option maxHeartbeats 40000000 in
theorem rm_utos (l : Launch) (Z : State) (a0 : Array Value) (hw : ∀ d ∈ tables_1, d.before a0 Z = true) (ws : List Jvm.Cond) (g_CS : Int32) (S_CS : Sta Z Z.heap "java/lang/String" "COMPACT_STRINGS" "Z" (.int g_CS)) (nz_CS : ¬ (g_CS = (0 : Int32))) (p0 : Addr) (sm : Addr) (so : Addr) (su : Addr) (mcs : List Int32) (mv : Addr) (mk : ClassId) (ocs : List Int32) (ov : Addr) (ok : ClassId) (ucs : List Int32) (uv : Addr) (uk : ClassId) (h0 : Heap) (n0 : Nat) (X00 : Old Z n0 h0) (hp0 : Exa Z h0 p0 "com/example/strikeboard/strikeboard/engine/Explanation$Unused") (hp1 : Fld Z h0 p0 "com/example/strikeboard/strikeboard/engine/Explanation$Unused" "modifier" "Ljava/lang/String;" (.ref sm)) (hp2 : Fld Z h0 p0 "com/example/strikeboard/strikeboard/engine/Explanation$Unused" "offence" "Ljava/lang/String;" (.ref so)) (hp3 : Fld Z h0 p0 "com/example/strikeboard/strikeboard/engine/Explanation$Unused" "used" "Ljava/lang/String;" (.ref su)) (hp4 : Exa Z h0 sm "java/lang/String") (hp5 : Fld Z h0 sm "java/lang/String" "coder" "B" (.int (0 : Int32))) (hp6 : Fld Z h0 sm "java/lang/String" "value" "[B" (.ref mv)) (hp7 : Arv Z h0 mv mk .byte (Int32.ofNat mcs.length) ((mcs.map StrChars.lo8).map Value.int) (.int (0 : Int32))) (hpcm : ∀ c ∈ mcs, ¬ c < 0 ∧ ¬ (255 : Int32) < c) (hlem : mcs.length ≤ 4000) (hp10 : Exa Z h0 so "java/lang/String") (hp11 : Fld Z h0 so "java/lang/String" "coder" "B" (.int (0 : Int32))) (hp12 : Fld Z h0 so "java/lang/String" "value" "[B" (.ref ov)) (hp13 : Arv Z h0 ov ok .byte (Int32.ofNat ocs.length) ((ocs.map StrChars.lo8).map Value.int) (.int (0 : Int32))) (hpco : ∀ c ∈ ocs, ¬ c < 0 ∧ ¬ (255 : Int32) < c) (hleo : ocs.length ≤ 4000) (hp16 : Exa Z h0 su "java/lang/String") (hp17 : Fld Z h0 su "java/lang/String" "coder" "B" (.int (0 : Int32))) (hp18 : Fld Z h0 su "java/lang/String" "value" "[B" (.ref uv)) (hp19 : Arv Z h0 uv uk .byte (Int32.ofNat ucs.length) ((ucs.map StrChars.lo8).map Value.int) (.int (0 : Int32))) (hpcu : ∀ c ∈ ucs, ¬ c < 0 ∧ ¬ (255 : Int32) < c) (hleu : ucs.length ≤ 4000) (hlm : mcs.length ≤ 3) (hlo : ocs.length ≤ 3) (hlu : ucs.length ≤ 3) :
    MetFree l (⟨"com/example/strikeboard/strikeboard/engine/Explanation$Unused", "toString", "()Ljava/lang/String;"⟩ : MethodName) (head1 (Jvm.Cond.code (⟨"com/example/strikeboard/strikeboard/engine/Explanation$Unused", "toString", "()Ljava/lang/String;"⟩ : MethodName) prog_26_method_2_code 1 (some (.object "java/lang/String")) :: ws) ({ frames := 6, cells := 11, slots := 186, locals := 91 } : Room)) (fun a U => a = #[(.ref p0)] ∧ Z.Warmed39 U.vm ∧ U.heap = h0 ∧ CHv Z consts_1 U.vm h0) (fun _ _ _ _ _ => True) (fun _ U o U' => ∃ v L, o = .returned v ∧ Q_rm_utos Z g_CS p0 sm so su mcs mv mk ocs ov ok ucs uv uk h0 n0 v U'.heap L ∧ CHr Z consts_1 U.vm U.heap U'.vm U'.heap ∧ ReturnedEndW U o U' L ({ frames := 6, cells := 11, slots := 186, locals := 91 } : Room).cells ({ frames := 6, cells := 11, slots := 186, locals := 91 } : Room).slots) := by
  refine MetFree.of_bodySF (plainFor_of_name own_pn9) hisR ?_
  intro p e s m args below meth c s₁ Bd hml0 hP hK
  obtain ⟨rfl, hZ, hh, hCH⟩ := hP
  have hEL := own_EW Z a0 hw
  have CR0 : CHr Z consts_1 s.vm h0 s.vm h0 := CHr.refl hCH
  have hx := Bd.exec
  have hby := Bd.bytes
  have hml : c.maxLocals = 1 := hml0
  have hown : s.vm.findClass "com/example/strikeboard/strikeboard/engine/Explanation$Unused" = some m.cls := findClass_of_methodNamed Bd.named
  have hnm := (name_of_methodNamed Bd.named Bd.method).1
  have X0 : Stand p l e ({ frames := 6, cells := 11, slots := 186, locals := 91 } : Room) (s.setVm s.vm) m #[(.ref p0)] below meth c s₁ [] 0 0 := Stand.of_body Bd
  have e0 : s₁.heap = h0 := by rw [← hh, Bd.state]; rfl
  have N0 := Fr.nil n0
  have hS0 : s.Since s.vm 0 := own_since s
  have hk0 : 0 ≤ h0.size := Nat.zero_le _
  have hZ : Z.Warmed39 (s.setVm s.vm).vm := hZ
  have hown : (s.setVm s.vm).vm.findClass "com/example/strikeboard/strikeboard/engine/Explanation$Unused" = some m.cls := hown
  refine Go.start fun P hPend => ?_
  refine Go.st (fun _ k => castTop (own_ef_rm_utos m p0) k) ?_
  show Go _ _ _ _ (s₁.setTop (mkF m 0 #[lR p0] []))
  obtain ⟨T1, h1, X1, e1, E1, A1, D1, -, st1⟩ := newO X0 hx hZ hown (ow hw 67 rfl) (ow hw 68 rfl) (ow hw 69 rfl) e0 (g := (mkF m 0 #[.val (.ref p0)] [])) rfl (hb hby od34_0) (by decide) (by decide)
  obtain ⟨b1, g1⟩ : ∃ z, z = h0.size := ⟨_, rfl⟩
  rw [← g1] at A1 D1 st1
  refine Go.st st1 ?_
  have g_b1 : n0 ≤ b1 := Nat.le_trans (own_oldsz X00) (Nat.le_of_eq g1.symm)
  have sz_b1 : h0.size ≤ b1 := Nat.le_trans (Keep.refl h0 []).1 (Nat.le_of_eq g1.symm)
  have K1 : Keep h0 h1 [] := (Keep.refl h0 []).ext E1
  have O1 := X00.ext E1
  have SF_b1 : Safe Z consts_1 s.vm h1 b1 := Safe.ext E1 CR0.1 (Safe.new (Nat.le_of_eq g1.symm))
  have CR1 := CR0.trans (CHr.ext E1 CR0.1)
  have F2 : Fld Z h1 b1 "java/lang/AbstractStringBuilder" "value" "[B" .null := D1 (Or.inl (ow hw 82 rfl)) (ty := (.array .byte)) (by decide)
  have F3 : Fld Z h1 b1 "java/lang/AbstractStringBuilder" "coder" "B" (.int (0 : Int32)) := D1 (Or.inl (ow hw 84 rfl)) (ty := .byte) (by decide)
  have F4 : Fld Z h1 b1 "java/lang/AbstractStringBuilder" "count" "I" (.int (0 : Int32)) := D1 (Or.inl (ow hw 107 rfl)) (ty := .int) (by decide)
  show Go _ _ _ _ (T1.setTop (mkF m 3 #[lR p0] [(.ref b1)]))
  refine Go.st (fun _ => XS.dup X1.here hx rfl (hb hby od34_3) rfl rfl) ?_
  show Go _ _ _ _ (T1.setTop (mkF m 4 #[lR p0] [(.ref b1), (.ref b1)]))
  have c6 := (hp0.ext E1)
  have c7 := (hp4.ext E1)
  have c8 := (hp7.ext E1)
  have c9 := (hp10.ext E1)
  have c10 := (hp13.ext E1)
  have c11 := (hp16.ext E1)
  have c12 := (hp19.ext E1)
  obtain ⟨_, _, ⟨T5, L5, k5, n5⟩, -, X5, ⟨Lc5, hQ5, l5, y5, z5⟩, st5⟩ := X1.specialBack hx (y := (⟨"java/lang/StringBuilder", "<init>", "()V"⟩ : MethodName)) rfl hown (mvT hZ (ow hw 70 rfl)) (mvT hZ (ow hw 71 rfl)) (mvT hZ (ow hw 72 rfl)) (by decide) (backOf (W := 1) (rm_sbinit l Z a0 hw [] g_CS S_CS nz_CS b1 h1 n0 O1 A1 F2 F3 F4 g_b1) hZ (ow hw 72 rfl) (ow hw 69 rfl) (by decide) (by decide)) (g := (mkF m 4 #[.val (.ref p0)] [(.ref b1), (.ref b1)])) rfl (by rw [hml]; rfl) (Steps.refl _) (a := b1) (argsL := []) (rest := [(.ref b1)]) (lenOf own_pd23 rfl) rfl (by show 2 * 0 + _ ≤ _; exact Nat.le_of_eq rfl) (hb hby od34_4) (fun _ _ => ⟨rfl, e1, (by decide : 1 + 1 ≤ _), (by decide : 4 + 16 ≤ _)⟩)
  dsimp only [Pt.U, Pt.locs, Pt.cells, Pt.slots] at X5 l5 y5 z5 st5 hQ5
  subst y5 z5
  refine Go.tr st5 ?_
  obtain ⟨ob_13, kb_14, rfl, N5q, K5q, q5_0, q5_1, q5_2, q5_3, q5_4, q5_5, q5_6⟩ := hQ5
  have N5 : Fr n0 L5 := by rw [l5]; exact Fr.app N0 N5q
  have SN5_0 : Safe Z consts_1 s.vm h1 ob_13 := Safe.new q5_0
  have O5 := O1.keep K5q (allS g_b1 all0)
  have K5 : Keep h0 T5.heap [] := K1.trans K5q (allS (Or.inr sz_b1) all0)
  have sf15 := Safe.keep K5q (sfS SF_b1 sf0) CR1.1 SF_b1
  have sf16 := Safe.keep K5q (sfS SF_b1 sf0) CR1.1 SN5_0
  have CR5 := CR1.trans (CHr.keep K5q (sfS SF_b1 sf0) CR1.1)
  have sz_ob_13 : h0.size ≤ ob_13 := Nat.le_trans K1.1 q5_0
  have g_ob_13 : n0 ≤ ob_13 := Nat.le_trans (own_oldsz X00) sz_ob_13
  show Go _ _ _ _ (T5.setTop (mkF m 7 #[lR p0] [(.ref b1)]))
  have c18 := (c6.keep K5q)
  have c19 := (c7.keep K5q)
  have c20 := (c8.keep K5q (ninS (Nat.ne_of_lt (Nat.lt_of_lt_of_le hp7.lt (Nat.le_of_eq g1.symm))) nin0))
  have c21 := (c9.keep K5q)
  have c22 := (c10.keep K5q (ninS (Nat.ne_of_lt (Nat.lt_of_lt_of_le hp13.lt (Nat.le_of_eq g1.symm))) nin0))
  have c23 := (c11.keep K5q)
  have c24 := (c12.keep K5q (ninS (Nat.ne_of_lt (Nat.lt_of_lt_of_le hp19.lt (Nat.le_of_eq g1.symm))) nin0))
  obtain ⟨a17, T17, h17, kk17, b17, kb17, X17, e17, E17, hS17, hk17, hZ17, hown17, Ea17, Ca17, Va17, Ab17, alt17, blt17, hCR17, Li17, hne17, st17⟩ := ldcCH X5 hx hZ hown (ow hw 85 rfl) (fun a ha => hw a (own_strAtoms a ha)) rfl hS0 (Nat.le_trans (Nat.le_trans hk0 E1.1) K5q.1) hEL (by decide +kernel) CR5.1 (vs := [(.int (117 : Int32)), (.int (110 : Int32)), (.int (117 : Int32)), (.int (115 : Int32)), (.int (101 : Int32)), (.int (100 : Int32)), (.int (32 : Int32))]) (z := (7 : Int32)) (by decide +kernel) (by decide) rfl (g := (mkF m 7 #[.val (.ref p0)] [(.ref b1)])) rfl (hb hby od34_7) (n := 28) (by decide +kernel) (by decide) (by decide) (by decide)
  refine Go.st st17 ?_
  have K17 : Keep h0 h17 [] := K5.ext E17
  have O17 := O5.ext E17
  have sf25 := hCR17.safe q5_1.lt sf15
  have sf26 := hCR17.safe q5_5.lt sf16
  have CR17 := CR5.trans hCR17
  have c27 := (c18.ext E17)
  have ne28 := hne17 p0 (Safe.exa hZ17.alike c27 (by decide) (by decide))
  have ne29 := hne17 b1 sf25
  have ne30 := hne17 ob_13 sf26
  show Go _ _ _ _ (T17.setTop (mkF m 9 #[lR p0] [(.ref a17), (.ref b1)]))
  have c32 := (q5_1.ext E17)
  have c33 := (q5_2.ext E17)
  have c34 := (q5_3.ext E17)
  have c35 := (q5_4.ext E17)
  have c36 := (q5_5.ext E17)
  have c37 := (q5_6.ext E17)
  have c38 := (c19.ext E17)
  have c39 := (c20.ext E17)
  have c40 := (c21.ext E17)
  have c41 := (c22.ext E17)
  have c42 := (c23.ext E17)
  have c43 := (c24.ext E17)
  obtain ⟨cq31, kq31, q31a, q31b, q31c⟩ := isOf hZ17 e17 c32
  obtain ⟨_, _, ⟨T31, L31, k31, n31⟩, -, X31, ⟨Lc31, hQ31, l31, y31, z31⟩, st31⟩ := X17.virtualBack hx (y := (⟨"java/lang/StringBuilder", "append", "(Ljava/lang/String;)Ljava/lang/StringBuilder;"⟩ : MethodName)) (z := (⟨"java/lang/StringBuilder", "append", "(Ljava/lang/String;)Ljava/lang/StringBuilder;"⟩ : MethodName)) hown17 (mvT hZ17 (ow hw 86 rfl)) (mvT hZ17 (ow hw 87 rfl)) (notFace_of_selects (args := #[]) (mvT hZ17 (ow hw 89 rfl))) (mvT hZ17 (ow hw 89 rfl)) (mvT hZ17 (ow hw 88 rfl)) (by decide) (backOf (W := 0) (rm_sapr l Z a0 hw [] g_CS S_CS nz_CS b1 a17 ([] : List Int32) ob_13 kb_14 (16 : Int32) ([(117 : Int32), (110 : Int32), (117 : Int32), (115 : Int32), (101 : Int32), (100 : Int32), (32 : Int32)] : List Int32) b17 kb17 h17 n0 O17 c32 c33 c34 c35 c36 c37 g_b1 g_ob_13 Ea17 Ca17 Va17 (by rw [own_litU]; exact Ab17) (show ∀ c ∈ ([(117 : Int32), (110 : Int32), (117 : Int32), (115 : Int32), (101 : Int32), (100 : Int32), (32 : Int32)] : List Int32), ¬ c < 0 ∧ ¬ (255 : Int32) < c by decide) (Nat.le_of_ble_eq_true rfl) (by rw [own_c16]; simp only [List.length_append, List.length_cons, List.length_nil]; omega)) hZ17 (ow hw 90 rfl) (ow hw 69 rfl) (by decide) (by decide)) q31a q31c (g := (mkF m 9 #[.val (.ref p0)] [(.ref a17), (.ref b1)])) rfl (by rw [hml]; rfl) (Steps.refl _) (argsL := [(.ref a17)]) (rest := []) (lenOf own_pd25 rfl) rfl (by show 2 * 0 + _ ≤ _; exact Nat.le_of_eq rfl) (hb hby od34_9) (fun _ _ => ⟨rfl, e17, (by decide : 4 + 0 ≤ _), (by decide : 52 + 0 ≤ _)⟩)
  dsimp only [Pt.U, Pt.locs, Pt.cells, Pt.slots] at X31 l31 y31 z31 st31 hQ31
  subst y31 z31
  refine Go.tr st31 ?_
  obtain ⟨rfl, N31q, K31q, q31_0, q31_1, q31_2, q31_3, q31_4, q31_5⟩ := hQ31
  have N31 : Fr n0 L31 := by rw [l31]; exact Fr.app N5 N31q
  have O31 := O17.keep K31q (allS g_b1 (allS g_ob_13 all0))
  have K31 : Keep h0 T31.heap [] := K17.trans K31q (allS (Or.inr sz_b1) (allS (Or.inr sz_ob_13) all0))
  have sf44 := Safe.keep K31q (sfS sf25 (sfS sf26 sf0)) CR17.1 sf25
  have sf45 := Safe.keep K31q (sfS sf25 (sfS sf26 sf0)) CR17.1 sf26
  have CR31 := CR17.trans (CHr.keep K31q (sfS sf25 (sfS sf26 sf0)) CR17.1)
  show Go _ _ _ _ (T31.setTop (mkF m 12 #[lR p0] [(.ref b1)]))
  refine Go.st (fun _ => XS.aloadN X31.here hx rfl (hb hby od34_12) rfl rfl) ?_
  show Go _ _ _ _ (T31.setTop (mkF m 13 #[lR p0] [(.ref p0), (.ref b1)]))
  have c46 := ((((hp1.ext E1).keep K5q (ninS (Nat.ne_of_lt (Nat.lt_of_lt_of_le hp0.lt (Nat.le_of_eq g1.symm))) nin0)).ext E17).keep K31q (ninS (Nat.ne_of_lt (Nat.lt_of_lt_of_le hp0.lt (Nat.le_of_eq g1.symm))) (ninS (Nat.ne_of_lt (Nat.lt_of_lt_of_le c6.lt q5_0)) nin0)))
  obtain ⟨T47, X47, e47, st47⟩ := getF X31 hx hZ17 hown17 (host := "") (Or.inl (ow hw 56 rfl)) Via.refl rfl c46 (g := (mkF m 13 #[.val (.ref p0)] [(.ref p0), (.ref b1)])) rfl rfl (hb hby od34_13)
  refine Go.st st47 ?_
  show Go _ _ _ _ (T47.setTop (mkF m 16 #[lR p0] [(.ref sm), (.ref b1)]))
  have c49 := (c38.keep K31q)
  have c50 := ((((hp5.ext E1).keep K5q (ninS (Nat.ne_of_lt (Nat.lt_of_lt_of_le hp4.lt (Nat.le_of_eq g1.symm))) nin0)).ext E17).keep K31q (ninS (Nat.ne_of_lt (Nat.lt_of_lt_of_le hp4.lt (Nat.le_of_eq g1.symm))) (ninS (Nat.ne_of_lt (Nat.lt_of_lt_of_le c7.lt q5_0)) nin0)))
  have c51 := ((((hp6.ext E1).keep K5q (ninS (Nat.ne_of_lt (Nat.lt_of_lt_of_le hp4.lt (Nat.le_of_eq g1.symm))) nin0)).ext E17).keep K31q (ninS (Nat.ne_of_lt (Nat.lt_of_lt_of_le hp4.lt (Nat.le_of_eq g1.symm))) (ninS (Nat.ne_of_lt (Nat.lt_of_lt_of_le c7.lt q5_0)) nin0)))
  have c52 := (c39.keep K31q (ninS (Nat.ne_of_lt (Nat.lt_of_lt_of_le hp7.lt (Nat.le_of_eq g1.symm))) (ninS (Nat.ne_of_lt (Nat.lt_of_lt_of_le c8.lt q5_0)) nin0)))
  have c53 := (c27.keep K31q)
  have c54 := (c40.keep K31q)
  have c55 := (c41.keep K31q (ninS (Nat.ne_of_lt (Nat.lt_of_lt_of_le hp13.lt (Nat.le_of_eq g1.symm))) (ninS (Nat.ne_of_lt (Nat.lt_of_lt_of_le c10.lt q5_0)) nin0)))
  have c56 := (c42.keep K31q)
  have c57 := (c43.keep K31q (ninS (Nat.ne_of_lt (Nat.lt_of_lt_of_le hp19.lt (Nat.le_of_eq g1.symm))) (ninS (Nat.ne_of_lt (Nat.lt_of_lt_of_le c12.lt q5_0)) nin0)))
  have c58 := (Ea17.keep K31q)
  have c59 := (Ab17.keep K31q (ninS (Ne.symm ne29.2) (ninS (Ne.symm ne30.2) nin0)))
  obtain ⟨cq48, kq48, q48a, q48b, q48c⟩ := isOf hZ17 e47 q31_0
  obtain ⟨_, _, ⟨T48, L48, k48, n48⟩, -, X48, ⟨Lc48, hQ48, l48, y48, z48⟩, st48⟩ := X47.virtualBack hx (y := (⟨"java/lang/StringBuilder", "append", "(Ljava/lang/String;)Ljava/lang/StringBuilder;"⟩ : MethodName)) (z := (⟨"java/lang/StringBuilder", "append", "(Ljava/lang/String;)Ljava/lang/StringBuilder;"⟩ : MethodName)) hown17 (mvT hZ17 (ow hw 86 rfl)) (mvT hZ17 (ow hw 87 rfl)) (notFace_of_selects (args := #[]) (mvT hZ17 (ow hw 89 rfl))) (mvT hZ17 (ow hw 89 rfl)) (mvT hZ17 (ow hw 88 rfl)) (by decide) (backOf (W := 0) (rm_sapr l Z a0 hw [] g_CS S_CS nz_CS b1 sm (([] : List Int32) ++ ([(117 : Int32), (110 : Int32), (117 : Int32), (115 : Int32), (101 : Int32), (100 : Int32), (32 : Int32)] : List Int32)) ob_13 kb_14 (16 : Int32) mcs mv mk T31.heap n0 O31 q31_0 q31_1 q31_2 q31_3 q31_4 q31_5 g_b1 g_ob_13 c49 c50 c51 c52 hpcm hlem (by rw [own_c16]; simp only [List.length_append, List.length_cons, List.length_nil]; omega)) hZ17 (ow hw 90 rfl) (ow hw 69 rfl) (by decide) (by decide)) q48a q48c (g := (mkF m 16 #[.val (.ref p0)] [(.ref sm), (.ref b1)])) rfl (by rw [hml]; rfl) (Steps.refl _) (argsL := [(.ref sm)]) (rest := []) (lenOf own_pd25 rfl) rfl (by show 2 * 0 + _ ≤ _; exact Nat.le_of_eq rfl) (hb hby od34_16) (fun _ _ => ⟨rfl, e47, (by decide : 4 + 0 ≤ _), (by decide : 52 + 0 ≤ _)⟩)
  dsimp only [Pt.U, Pt.locs, Pt.cells, Pt.slots] at X48 l48 y48 z48 st48 hQ48
  subst y48 z48
  refine Go.tr st48 ?_
  obtain ⟨rfl, N48q, K48q, q48_0, q48_1, q48_2, q48_3, q48_4, q48_5⟩ := hQ48
  have N48 : Fr n0 L48 := by rw [l48]; exact Fr.app N31 N48q
  have O48 := O31.keep K48q (allS g_b1 (allS g_ob_13 all0))
  have K48 : Keep h0 T48.heap [] := K31.trans K48q (allS (Or.inr sz_b1) (allS (Or.inr sz_ob_13) all0))
  have sf60 := Safe.keep K48q (sfS sf44 (sfS sf45 sf0)) CR31.1 sf44
  have sf61 := Safe.keep K48q (sfS sf44 (sfS sf45 sf0)) CR31.1 sf45
  have CR48 := CR31.trans (CHr.keep K48q (sfS sf44 (sfS sf45 sf0)) CR31.1)
  show Go _ _ _ _ (T48.setTop (mkF m 19 #[lR p0] [(.ref b1)]))
  have c63 := (c53.keep K48q)
  have c64 := (c49.keep K48q)
  have c65 := (c52.keep K48q (ninS (Nat.ne_of_lt (Nat.lt_of_lt_of_le hp7.lt (Nat.le_of_eq g1.symm))) (ninS (Nat.ne_of_lt (Nat.lt_of_lt_of_le c8.lt q5_0)) nin0)))
  have c66 := (c54.keep K48q)
  have c67 := (c55.keep K48q (ninS (Nat.ne_of_lt (Nat.lt_of_lt_of_le hp13.lt (Nat.le_of_eq g1.symm))) (ninS (Nat.ne_of_lt (Nat.lt_of_lt_of_le c10.lt q5_0)) nin0)))
  have c68 := (c56.keep K48q)
  have c69 := (c57.keep K48q (ninS (Nat.ne_of_lt (Nat.lt_of_lt_of_le hp19.lt (Nat.le_of_eq g1.symm))) (ninS (Nat.ne_of_lt (Nat.lt_of_lt_of_le c12.lt q5_0)) nin0)))
  have c70 := (c58.keep K48q)
  have c71 := (c59.keep K48q (ninS (Ne.symm ne29.2) (ninS (Ne.symm ne30.2) nin0)))
  obtain ⟨a62, T62, h62, kk62, b62, kb62, X62, e62, E62, hS62, hk62, hZ62, hown62, Ea62, Ca62, Va62, Ab62, alt62, blt62, hCR62, Li62, hne62, st62⟩ := ldcCH X48 hx hZ17 hown17 (ow hw 133 rfl) (fun a ha => hw a (own_strAtoms a ha)) rfl hS17 (Nat.le_trans (Nat.le_trans hk17 K31q.1) K48q.1) hEL (by decide +kernel) CR48.1 (vs := [(.int (32 : Int32))]) (z := (1 : Int32)) (by decide +kernel) (by decide) rfl (g := (mkF m 19 #[.val (.ref p0)] [(.ref b1)])) rfl (hb hby od34_19) (n := 4) (by decide +kernel) (by decide) (by decide) (by decide)
  refine Go.st st62 ?_
  have K62 : Keep h0 h62 [] := K48.ext E62
  have O62 := O48.ext E62
  have sf72 := hCR62.safe q48_0.lt sf60
  have sf73 := hCR62.safe q48_4.lt sf61
  have CR62 := CR48.trans hCR62
  have c74 := (c63.ext E62)
  have ne75 := hne62 p0 (Safe.exa hZ62.alike c74 (by decide) (by decide))
  have ne76 := hne62 b1 sf72
  have ne77 := hne62 ob_13 sf73
  show Go _ _ _ _ (T62.setTop (mkF m 21 #[lR p0] [(.ref a62), (.ref b1)]))
  have c79 := (q48_0.ext E62)
  have c80 := (q48_1.ext E62)
  have c81 := (q48_2.ext E62)
  have c82 := (q48_3.ext E62)
  have c83 := (q48_4.ext E62)
  have c84 := (q48_5.ext E62)
  have c85 := (c64.ext E62)
  have c86 := (c65.ext E62)
  have c87 := (c66.ext E62)
  have c88 := (c67.ext E62)
  have c89 := (c68.ext E62)
  have c90 := (c69.ext E62)
  have c91 := (c70.ext E62)
  have c92 := (c71.ext E62)
  obtain ⟨cq78, kq78, q78a, q78b, q78c⟩ := isOf hZ62 e62 c79
  obtain ⟨_, _, ⟨T78, L78, k78, n78⟩, -, X78, ⟨Lc78, hQ78, l78, y78, z78⟩, st78⟩ := X62.virtualBack hx (y := (⟨"java/lang/StringBuilder", "append", "(Ljava/lang/String;)Ljava/lang/StringBuilder;"⟩ : MethodName)) (z := (⟨"java/lang/StringBuilder", "append", "(Ljava/lang/String;)Ljava/lang/StringBuilder;"⟩ : MethodName)) hown62 (mvT hZ62 (ow hw 86 rfl)) (mvT hZ62 (ow hw 87 rfl)) (notFace_of_selects (args := #[]) (mvT hZ62 (ow hw 89 rfl))) (mvT hZ62 (ow hw 89 rfl)) (mvT hZ62 (ow hw 88 rfl)) (by decide) (backOf (W := 0) (rm_sapr l Z a0 hw [] g_CS S_CS nz_CS b1 a62 ((([] : List Int32) ++ ([(117 : Int32), (110 : Int32), (117 : Int32), (115 : Int32), (101 : Int32), (100 : Int32), (32 : Int32)] : List Int32)) ++ mcs) ob_13 kb_14 (16 : Int32) ([(32 : Int32)] : List Int32) b62 kb62 h62 n0 O62 c79 c80 c81 c82 c83 c84 g_b1 g_ob_13 Ea62 Ca62 Va62 (by rw [own_litS]; exact Ab62) (show ∀ c ∈ ([(32 : Int32)] : List Int32), ¬ c < 0 ∧ ¬ (255 : Int32) < c by decide) (Nat.le_of_ble_eq_true rfl) (by rw [own_c16]; simp only [List.length_append, List.length_cons, List.length_nil]; omega)) hZ62 (ow hw 90 rfl) (ow hw 69 rfl) (by decide) (by decide)) q78a q78c (g := (mkF m 21 #[.val (.ref p0)] [(.ref a62), (.ref b1)])) rfl (by rw [hml]; rfl) (Steps.refl _) (argsL := [(.ref a62)]) (rest := []) (lenOf own_pd25 rfl) rfl (by show 2 * 0 + _ ≤ _; exact Nat.le_of_eq rfl) (hb hby od34_21) (fun _ _ => ⟨rfl, e62, (by decide : 6 + 0 ≤ _), (by decide : 60 + 0 ≤ _)⟩)
  dsimp only [Pt.U, Pt.locs, Pt.cells, Pt.slots] at X78 l78 y78 z78 st78 hQ78
  subst y78 z78
  refine Go.tr st78 ?_
  obtain ⟨rfl, N78q, K78q, q78_0, q78_1, q78_2, q78_3, q78_4, q78_5⟩ := hQ78
  have N78 : Fr n0 L78 := by rw [l78]; exact Fr.app N48 N78q
  have O78 := O62.keep K78q (allS g_b1 (allS g_ob_13 all0))
  have K78 : Keep h0 T78.heap [] := K62.trans K78q (allS (Or.inr sz_b1) (allS (Or.inr sz_ob_13) all0))
  have sf93 := Safe.keep K78q (sfS sf72 (sfS sf73 sf0)) CR62.1 sf72
  have sf94 := Safe.keep K78q (sfS sf72 (sfS sf73 sf0)) CR62.1 sf73
  have CR78 := CR62.trans (CHr.keep K78q (sfS sf72 (sfS sf73 sf0)) CR62.1)
  show Go _ _ _ _ (T78.setTop (mkF m 24 #[lR p0] [(.ref b1)]))
  refine Go.st (fun _ => XS.aloadN X78.here hx rfl (hb hby od34_24) rfl rfl) ?_
  show Go _ _ _ _ (T78.setTop (mkF m 25 #[lR p0] [(.ref p0), (.ref b1)]))
  have c95 := (((((((hp2.ext E1).keep K5q (ninS (Nat.ne_of_lt (Nat.lt_of_lt_of_le hp0.lt (Nat.le_of_eq g1.symm))) nin0)).ext E17).keep K31q (ninS (Nat.ne_of_lt (Nat.lt_of_lt_of_le hp0.lt (Nat.le_of_eq g1.symm))) (ninS (Nat.ne_of_lt (Nat.lt_of_lt_of_le c6.lt q5_0)) nin0))).keep K48q (ninS (Nat.ne_of_lt (Nat.lt_of_lt_of_le hp0.lt (Nat.le_of_eq g1.symm))) (ninS (Nat.ne_of_lt (Nat.lt_of_lt_of_le c6.lt q5_0)) nin0))).ext E62).keep K78q (ninS (Nat.ne_of_lt (Nat.lt_of_lt_of_le hp0.lt (Nat.le_of_eq g1.symm))) (ninS (Nat.ne_of_lt (Nat.lt_of_lt_of_le c6.lt q5_0)) nin0)))
  obtain ⟨T96, X96, e96, st96⟩ := getF X78 hx hZ62 hown62 (host := "") (Or.inl (ow hw 58 rfl)) Via.refl rfl c95 (g := (mkF m 25 #[.val (.ref p0)] [(.ref p0), (.ref b1)])) rfl rfl (hb hby od34_25)
  refine Go.st st96 ?_
  show Go _ _ _ _ (T96.setTop (mkF m 28 #[lR p0] [(.ref so), (.ref b1)]))
  have c98 := (c87.keep K78q)
  have c99 := (((((((hp11.ext E1).keep K5q (ninS (Nat.ne_of_lt (Nat.lt_of_lt_of_le hp10.lt (Nat.le_of_eq g1.symm))) nin0)).ext E17).keep K31q (ninS (Nat.ne_of_lt (Nat.lt_of_lt_of_le hp10.lt (Nat.le_of_eq g1.symm))) (ninS (Nat.ne_of_lt (Nat.lt_of_lt_of_le c9.lt q5_0)) nin0))).keep K48q (ninS (Nat.ne_of_lt (Nat.lt_of_lt_of_le hp10.lt (Nat.le_of_eq g1.symm))) (ninS (Nat.ne_of_lt (Nat.lt_of_lt_of_le c9.lt q5_0)) nin0))).ext E62).keep K78q (ninS (Nat.ne_of_lt (Nat.lt_of_lt_of_le hp10.lt (Nat.le_of_eq g1.symm))) (ninS (Nat.ne_of_lt (Nat.lt_of_lt_of_le c9.lt q5_0)) nin0)))
  have c100 := (((((((hp12.ext E1).keep K5q (ninS (Nat.ne_of_lt (Nat.lt_of_lt_of_le hp10.lt (Nat.le_of_eq g1.symm))) nin0)).ext E17).keep K31q (ninS (Nat.ne_of_lt (Nat.lt_of_lt_of_le hp10.lt (Nat.le_of_eq g1.symm))) (ninS (Nat.ne_of_lt (Nat.lt_of_lt_of_le c9.lt q5_0)) nin0))).keep K48q (ninS (Nat.ne_of_lt (Nat.lt_of_lt_of_le hp10.lt (Nat.le_of_eq g1.symm))) (ninS (Nat.ne_of_lt (Nat.lt_of_lt_of_le c9.lt q5_0)) nin0))).ext E62).keep K78q (ninS (Nat.ne_of_lt (Nat.lt_of_lt_of_le hp10.lt (Nat.le_of_eq g1.symm))) (ninS (Nat.ne_of_lt (Nat.lt_of_lt_of_le c9.lt q5_0)) nin0)))
  have c101 := (c88.keep K78q (ninS (Nat.ne_of_lt (Nat.lt_of_lt_of_le hp13.lt (Nat.le_of_eq g1.symm))) (ninS (Nat.ne_of_lt (Nat.lt_of_lt_of_le c10.lt q5_0)) nin0)))
  have c102 := (c74.keep K78q)
  have c103 := (c85.keep K78q)
  have c104 := (c86.keep K78q (ninS (Nat.ne_of_lt (Nat.lt_of_lt_of_le hp7.lt (Nat.le_of_eq g1.symm))) (ninS (Nat.ne_of_lt (Nat.lt_of_lt_of_le c8.lt q5_0)) nin0)))
  have c105 := (c89.keep K78q)
  have c106 := (c90.keep K78q (ninS (Nat.ne_of_lt (Nat.lt_of_lt_of_le hp19.lt (Nat.le_of_eq g1.symm))) (ninS (Nat.ne_of_lt (Nat.lt_of_lt_of_le c12.lt q5_0)) nin0)))
  have c107 := (c91.keep K78q)
  have c108 := (c92.keep K78q (ninS (Ne.symm ne29.2) (ninS (Ne.symm ne30.2) nin0)))
  have c109 := (Ea62.keep K78q)
  have c110 := (Ab62.keep K78q (ninS (Ne.symm ne76.2) (ninS (Ne.symm ne77.2) nin0)))
  obtain ⟨cq97, kq97, q97a, q97b, q97c⟩ := isOf hZ62 e96 q78_0
  obtain ⟨_, _, ⟨T97, L97, k97, n97⟩, -, X97, ⟨Lc97, hQ97, l97, y97, z97⟩, st97⟩ := X96.virtualBack hx (y := (⟨"java/lang/StringBuilder", "append", "(Ljava/lang/String;)Ljava/lang/StringBuilder;"⟩ : MethodName)) (z := (⟨"java/lang/StringBuilder", "append", "(Ljava/lang/String;)Ljava/lang/StringBuilder;"⟩ : MethodName)) hown62 (mvT hZ62 (ow hw 86 rfl)) (mvT hZ62 (ow hw 87 rfl)) (notFace_of_selects (args := #[]) (mvT hZ62 (ow hw 89 rfl))) (mvT hZ62 (ow hw 89 rfl)) (mvT hZ62 (ow hw 88 rfl)) (by decide) (backOf (W := 0) (rm_sapr l Z a0 hw [] g_CS S_CS nz_CS b1 so (((([] : List Int32) ++ ([(117 : Int32), (110 : Int32), (117 : Int32), (115 : Int32), (101 : Int32), (100 : Int32), (32 : Int32)] : List Int32)) ++ mcs) ++ ([(32 : Int32)] : List Int32)) ob_13 kb_14 (16 : Int32) ocs ov ok T78.heap n0 O78 q78_0 q78_1 q78_2 q78_3 q78_4 q78_5 g_b1 g_ob_13 c98 c99 c100 c101 hpco hleo (by rw [own_c16]; simp only [List.length_append, List.length_cons, List.length_nil]; omega)) hZ62 (ow hw 90 rfl) (ow hw 69 rfl) (by decide) (by decide)) q97a q97c (g := (mkF m 28 #[.val (.ref p0)] [(.ref so), (.ref b1)])) rfl (by rw [hml]; rfl) (Steps.refl _) (argsL := [(.ref so)]) (rest := []) (lenOf own_pd25 rfl) rfl (by show 2 * 0 + _ ≤ _; exact Nat.le_of_eq rfl) (hb hby od34_28) (fun _ _ => ⟨rfl, e96, (by decide : 6 + 0 ≤ _), (by decide : 60 + 0 ≤ _)⟩)
  dsimp only [Pt.U, Pt.locs, Pt.cells, Pt.slots] at X97 l97 y97 z97 st97 hQ97
  subst y97 z97
  refine Go.tr st97 ?_
  obtain ⟨rfl, N97q, K97q, q97_0, q97_1, q97_2, q97_3, q97_4, q97_5⟩ := hQ97
  have N97 : Fr n0 L97 := by rw [l97]; exact Fr.app N78 N97q
  have O97 := O78.keep K97q (allS g_b1 (allS g_ob_13 all0))
  have K97 : Keep h0 T97.heap [] := K78.trans K97q (allS (Or.inr sz_b1) (allS (Or.inr sz_ob_13) all0))
  have sf111 := Safe.keep K97q (sfS sf93 (sfS sf94 sf0)) CR78.1 sf93
  have sf112 := Safe.keep K97q (sfS sf93 (sfS sf94 sf0)) CR78.1 sf94
  have CR97 := CR78.trans (CHr.keep K97q (sfS sf93 (sfS sf94 sf0)) CR78.1)
  show Go _ _ _ _ (T97.setTop (mkF m 31 #[lR p0] [(.ref b1)]))
  have c114 := (c102.keep K97q)
  have c115 := (c103.keep K97q)
  have c116 := (c104.keep K97q (ninS (Nat.ne_of_lt (Nat.lt_of_lt_of_le hp7.lt (Nat.le_of_eq g1.symm))) (ninS (Nat.ne_of_lt (Nat.lt_of_lt_of_le c8.lt q5_0)) nin0)))
  have c117 := (c98.keep K97q)
  have c118 := (c101.keep K97q (ninS (Nat.ne_of_lt (Nat.lt_of_lt_of_le hp13.lt (Nat.le_of_eq g1.symm))) (ninS (Nat.ne_of_lt (Nat.lt_of_lt_of_le c10.lt q5_0)) nin0)))
  have c119 := (c105.keep K97q)
  have c120 := (c106.keep K97q (ninS (Nat.ne_of_lt (Nat.lt_of_lt_of_le hp19.lt (Nat.le_of_eq g1.symm))) (ninS (Nat.ne_of_lt (Nat.lt_of_lt_of_le c12.lt q5_0)) nin0)))
  have c121 := (c107.keep K97q)
  have c122 := (c108.keep K97q (ninS (Ne.symm ne29.2) (ninS (Ne.symm ne30.2) nin0)))
  have c123 := (c109.keep K97q)
  have c124 := (c110.keep K97q (ninS (Ne.symm ne76.2) (ninS (Ne.symm ne77.2) nin0)))
  obtain ⟨a113, T113, h113, kk113, b113, kb113, X113, e113, E113, hS113, hk113, hZ113, hown113, Ea113, Ca113, Va113, Ab113, alt113, blt113, hCR113, Li113, hne113, st113⟩ := ldcCH X97 hx hZ62 hown62 (ow hw 134 rfl) (fun a ha => hw a (own_strAtoms a ha)) rfl hS62 (Nat.le_trans (Nat.le_trans hk62 K78q.1) K97q.1) hEL (by decide +kernel) CR97.1 (vs := [(.int (32 : Int32)), (.int (102 : Int32)), (.int (111 : Int32)), (.int (114 : Int32)), (.int (32 : Int32))]) (z := (5 : Int32)) (by decide +kernel) (by decide) rfl (g := (mkF m 31 #[.val (.ref p0)] [(.ref b1)])) rfl (hb hby od34_31) (n := 20) (by decide +kernel) (by decide) (by decide) (by decide)
  refine Go.st st113 ?_
  have K113 : Keep h0 h113 [] := K97.ext E113
  have O113 := O97.ext E113
  have sf125 := hCR113.safe q97_0.lt sf111
  have sf126 := hCR113.safe q97_4.lt sf112
  have CR113 := CR97.trans hCR113
  have c127 := (c114.ext E113)
  have ne128 := hne113 p0 (Safe.exa hZ113.alike c127 (by decide) (by decide))
  have ne129 := hne113 b1 sf125
  have ne130 := hne113 ob_13 sf126
  show Go _ _ _ _ (T113.setTop (mkF m 33 #[lR p0] [(.ref a113), (.ref b1)]))
  by_cases hg5 : mcs.length + ocs.length ≤ 3
  · skip
    show Go _ _ _ _ (T113.setTop (mkF m 33 #[lR p0] [(.ref a113), (.ref b1)]))
    have c132 := (q97_0.ext E113)
    have c133 := (q97_1.ext E113)
    have c134 := (q97_2.ext E113)
    have c135 := (q97_3.ext E113)
    have c136 := (q97_4.ext E113)
    have c137 := (q97_5.ext E113)
    have c138 := (c115.ext E113)
    have c139 := (c116.ext E113)
    have c140 := (c117.ext E113)
    have c141 := (c118.ext E113)
    have c142 := (c119.ext E113)
    have c143 := (c120.ext E113)
    have c144 := (c121.ext E113)
    have c145 := (c122.ext E113)
    have c146 := (c123.ext E113)
    have c147 := (c124.ext E113)
    obtain ⟨cq131, kq131, q131a, q131b, q131c⟩ := isOf hZ113 e113 c132
    obtain ⟨_, _, ⟨T131, L131, k131, n131⟩, -, X131, ⟨Lc131, hQ131, l131, y131, z131⟩, st131⟩ := X113.virtualBack hx (y := (⟨"java/lang/StringBuilder", "append", "(Ljava/lang/String;)Ljava/lang/StringBuilder;"⟩ : MethodName)) (z := (⟨"java/lang/StringBuilder", "append", "(Ljava/lang/String;)Ljava/lang/StringBuilder;"⟩ : MethodName)) hown113 (mvT hZ113 (ow hw 86 rfl)) (mvT hZ113 (ow hw 87 rfl)) (notFace_of_selects (args := #[]) (mvT hZ113 (ow hw 89 rfl))) (mvT hZ113 (ow hw 89 rfl)) (mvT hZ113 (ow hw 88 rfl)) (by decide) (backOf (W := 0) (rm_sapr l Z a0 hw [] g_CS S_CS nz_CS b1 a113 ((((([] : List Int32) ++ ([(117 : Int32), (110 : Int32), (117 : Int32), (115 : Int32), (101 : Int32), (100 : Int32), (32 : Int32)] : List Int32)) ++ mcs) ++ ([(32 : Int32)] : List Int32)) ++ ocs) ob_13 kb_14 (16 : Int32) ([(32 : Int32), (102 : Int32), (111 : Int32), (114 : Int32), (32 : Int32)] : List Int32) b113 kb113 h113 n0 O113 c132 c133 c134 c135 c136 c137 g_b1 g_ob_13 Ea113 Ca113 Va113 (by rw [own_litF]; exact Ab113) (show ∀ c ∈ ([(32 : Int32), (102 : Int32), (111 : Int32), (114 : Int32), (32 : Int32)] : List Int32), ¬ c < 0 ∧ ¬ (255 : Int32) < c by decide) (Nat.le_of_ble_eq_true rfl) (by rw [own_c16]; simp only [List.length_append, List.length_cons, List.length_nil]; omega)) hZ113 (ow hw 90 rfl) (ow hw 69 rfl) (by decide) (by decide)) q131a q131c (g := (mkF m 33 #[.val (.ref p0)] [(.ref a113), (.ref b1)])) rfl (by rw [hml]; rfl) (Steps.refl _) (argsL := [(.ref a113)]) (rest := []) (lenOf own_pd25 rfl) rfl (by show 2 * 0 + _ ≤ _; exact Nat.le_of_eq rfl) (hb hby od34_33) (fun _ _ => ⟨rfl, e113, (by decide : 8 + 0 ≤ _), (by decide : 84 + 0 ≤ _)⟩)
    dsimp only [Pt.U, Pt.locs, Pt.cells, Pt.slots] at X131 l131 y131 z131 st131 hQ131
    subst y131 z131
    refine Go.tr st131 ?_
    obtain ⟨rfl, N131q, K131q, q131_0, q131_1, q131_2, q131_3, q131_4, q131_5⟩ := hQ131
    have N131 : Fr n0 L131 := by rw [l131]; exact Fr.app N97 N131q
    have O131 := O113.keep K131q (allS g_b1 (allS g_ob_13 all0))
    have K131 : Keep h0 T131.heap [] := K113.trans K131q (allS (Or.inr sz_b1) (allS (Or.inr sz_ob_13) all0))
    have sf148 := Safe.keep K131q (sfS sf125 (sfS sf126 sf0)) CR113.1 sf125
    have sf149 := Safe.keep K131q (sfS sf125 (sfS sf126 sf0)) CR113.1 sf126
    have CR131 := CR113.trans (CHr.keep K131q (sfS sf125 (sfS sf126 sf0)) CR113.1)
    show Go _ _ _ _ (T131.setTop (mkF m 36 #[lR p0] [(.ref b1)]))
    refine Go.st (fun _ => XS.aloadN X131.here hx rfl (hb hby od34_36) rfl rfl) ?_
    show Go _ _ _ _ (T131.setTop (mkF m 37 #[lR p0] [(.ref p0), (.ref b1)]))
    have c150 := ((((((((((hp3.ext E1).keep K5q (ninS (Nat.ne_of_lt (Nat.lt_of_lt_of_le hp0.lt (Nat.le_of_eq g1.symm))) nin0)).ext E17).keep K31q (ninS (Nat.ne_of_lt (Nat.lt_of_lt_of_le hp0.lt (Nat.le_of_eq g1.symm))) (ninS (Nat.ne_of_lt (Nat.lt_of_lt_of_le c6.lt q5_0)) nin0))).keep K48q (ninS (Nat.ne_of_lt (Nat.lt_of_lt_of_le hp0.lt (Nat.le_of_eq g1.symm))) (ninS (Nat.ne_of_lt (Nat.lt_of_lt_of_le c6.lt q5_0)) nin0))).ext E62).keep K78q (ninS (Nat.ne_of_lt (Nat.lt_of_lt_of_le hp0.lt (Nat.le_of_eq g1.symm))) (ninS (Nat.ne_of_lt (Nat.lt_of_lt_of_le c6.lt q5_0)) nin0))).keep K97q (ninS (Nat.ne_of_lt (Nat.lt_of_lt_of_le hp0.lt (Nat.le_of_eq g1.symm))) (ninS (Nat.ne_of_lt (Nat.lt_of_lt_of_le c6.lt q5_0)) nin0))).ext E113).keep K131q (ninS (Nat.ne_of_lt (Nat.lt_of_lt_of_le hp0.lt (Nat.le_of_eq g1.symm))) (ninS (Nat.ne_of_lt (Nat.lt_of_lt_of_le c6.lt q5_0)) nin0)))
    obtain ⟨T151, X151, e151, st151⟩ := getF X131 hx hZ113 hown113 (host := "") (Or.inl (ow hw 60 rfl)) Via.refl rfl c150 (g := (mkF m 37 #[.val (.ref p0)] [(.ref p0), (.ref b1)])) rfl rfl (hb hby od34_37)
    refine Go.st st151 ?_
    show Go _ _ _ _ (T151.setTop (mkF m 40 #[lR p0] [(.ref su), (.ref b1)]))
    by_cases hg6 : mcs.length + ocs.length + ucs.length ≤ 3
    · skip
      show Go _ _ _ _ (T151.setTop (mkF m 40 #[lR p0] [(.ref su), (.ref b1)]))
      have c153 := (c142.keep K131q)
      have c154 := ((((((((((hp17.ext E1).keep K5q (ninS (Nat.ne_of_lt (Nat.lt_of_lt_of_le hp16.lt (Nat.le_of_eq g1.symm))) nin0)).ext E17).keep K31q (ninS (Nat.ne_of_lt (Nat.lt_of_lt_of_le hp16.lt (Nat.le_of_eq g1.symm))) (ninS (Nat.ne_of_lt (Nat.lt_of_lt_of_le c11.lt q5_0)) nin0))).keep K48q (ninS (Nat.ne_of_lt (Nat.lt_of_lt_of_le hp16.lt (Nat.le_of_eq g1.symm))) (ninS (Nat.ne_of_lt (Nat.lt_of_lt_of_le c11.lt q5_0)) nin0))).ext E62).keep K78q (ninS (Nat.ne_of_lt (Nat.lt_of_lt_of_le hp16.lt (Nat.le_of_eq g1.symm))) (ninS (Nat.ne_of_lt (Nat.lt_of_lt_of_le c11.lt q5_0)) nin0))).keep K97q (ninS (Nat.ne_of_lt (Nat.lt_of_lt_of_le hp16.lt (Nat.le_of_eq g1.symm))) (ninS (Nat.ne_of_lt (Nat.lt_of_lt_of_le c11.lt q5_0)) nin0))).ext E113).keep K131q (ninS (Nat.ne_of_lt (Nat.lt_of_lt_of_le hp16.lt (Nat.le_of_eq g1.symm))) (ninS (Nat.ne_of_lt (Nat.lt_of_lt_of_le c11.lt q5_0)) nin0)))
      have c155 := ((((((((((hp18.ext E1).keep K5q (ninS (Nat.ne_of_lt (Nat.lt_of_lt_of_le hp16.lt (Nat.le_of_eq g1.symm))) nin0)).ext E17).keep K31q (ninS (Nat.ne_of_lt (Nat.lt_of_lt_of_le hp16.lt (Nat.le_of_eq g1.symm))) (ninS (Nat.ne_of_lt (Nat.lt_of_lt_of_le c11.lt q5_0)) nin0))).keep K48q (ninS (Nat.ne_of_lt (Nat.lt_of_lt_of_le hp16.lt (Nat.le_of_eq g1.symm))) (ninS (Nat.ne_of_lt (Nat.lt_of_lt_of_le c11.lt q5_0)) nin0))).ext E62).keep K78q (ninS (Nat.ne_of_lt (Nat.lt_of_lt_of_le hp16.lt (Nat.le_of_eq g1.symm))) (ninS (Nat.ne_of_lt (Nat.lt_of_lt_of_le c11.lt q5_0)) nin0))).keep K97q (ninS (Nat.ne_of_lt (Nat.lt_of_lt_of_le hp16.lt (Nat.le_of_eq g1.symm))) (ninS (Nat.ne_of_lt (Nat.lt_of_lt_of_le c11.lt q5_0)) nin0))).ext E113).keep K131q (ninS (Nat.ne_of_lt (Nat.lt_of_lt_of_le hp16.lt (Nat.le_of_eq g1.symm))) (ninS (Nat.ne_of_lt (Nat.lt_of_lt_of_le c11.lt q5_0)) nin0)))
      have c156 := (c143.keep K131q (ninS (Nat.ne_of_lt (Nat.lt_of_lt_of_le hp19.lt (Nat.le_of_eq g1.symm))) (ninS (Nat.ne_of_lt (Nat.lt_of_lt_of_le c12.lt q5_0)) nin0)))
      have c157 := (c127.keep K131q)
      have c158 := (c138.keep K131q)
      have c159 := (c139.keep K131q (ninS (Nat.ne_of_lt (Nat.lt_of_lt_of_le hp7.lt (Nat.le_of_eq g1.symm))) (ninS (Nat.ne_of_lt (Nat.lt_of_lt_of_le c8.lt q5_0)) nin0)))
      have c160 := (c140.keep K131q)
      have c161 := (c141.keep K131q (ninS (Nat.ne_of_lt (Nat.lt_of_lt_of_le hp13.lt (Nat.le_of_eq g1.symm))) (ninS (Nat.ne_of_lt (Nat.lt_of_lt_of_le c10.lt q5_0)) nin0)))
      have c162 := (c144.keep K131q)
      have c163 := (c145.keep K131q (ninS (Ne.symm ne29.2) (ninS (Ne.symm ne30.2) nin0)))
      have c164 := (c146.keep K131q)
      have c165 := (c147.keep K131q (ninS (Ne.symm ne76.2) (ninS (Ne.symm ne77.2) nin0)))
      have c166 := (Ea113.keep K131q)
      have c167 := (Ab113.keep K131q (ninS (Ne.symm ne129.2) (ninS (Ne.symm ne130.2) nin0)))
      obtain ⟨cq152, kq152, q152a, q152b, q152c⟩ := isOf hZ113 e151 q131_0
      obtain ⟨_, _, ⟨T152, L152, k152, n152⟩, -, X152, ⟨Lc152, hQ152, l152, y152, z152⟩, st152⟩ := X151.virtualBack hx (y := (⟨"java/lang/StringBuilder", "append", "(Ljava/lang/String;)Ljava/lang/StringBuilder;"⟩ : MethodName)) (z := (⟨"java/lang/StringBuilder", "append", "(Ljava/lang/String;)Ljava/lang/StringBuilder;"⟩ : MethodName)) hown113 (mvT hZ113 (ow hw 86 rfl)) (mvT hZ113 (ow hw 87 rfl)) (notFace_of_selects (args := #[]) (mvT hZ113 (ow hw 89 rfl))) (mvT hZ113 (ow hw 89 rfl)) (mvT hZ113 (ow hw 88 rfl)) (by decide) (backOf (W := 0) (rm_sapr l Z a0 hw [] g_CS S_CS nz_CS b1 su (((((([] : List Int32) ++ ([(117 : Int32), (110 : Int32), (117 : Int32), (115 : Int32), (101 : Int32), (100 : Int32), (32 : Int32)] : List Int32)) ++ mcs) ++ ([(32 : Int32)] : List Int32)) ++ ocs) ++ ([(32 : Int32), (102 : Int32), (111 : Int32), (114 : Int32), (32 : Int32)] : List Int32)) ob_13 kb_14 (16 : Int32) ucs uv uk T131.heap n0 O131 q131_0 q131_1 q131_2 q131_3 q131_4 q131_5 g_b1 g_ob_13 c153 c154 c155 c156 hpcu hleu (by rw [own_c16]; simp only [List.length_append, List.length_cons, List.length_nil]; omega)) hZ113 (ow hw 90 rfl) (ow hw 69 rfl) (by decide) (by decide)) q152a q152c (g := (mkF m 40 #[.val (.ref p0)] [(.ref su), (.ref b1)])) rfl (by rw [hml]; rfl) (Steps.refl _) (argsL := [(.ref su)]) (rest := []) (lenOf own_pd25 rfl) rfl (by show 2 * 0 + _ ≤ _; exact Nat.le_of_eq rfl) (hb hby od34_40) (fun _ _ => ⟨rfl, e151, (by decide : 8 + 0 ≤ _), (by decide : 84 + 0 ≤ _)⟩)
      dsimp only [Pt.U, Pt.locs, Pt.cells, Pt.slots] at X152 l152 y152 z152 st152 hQ152
      subst y152 z152
      refine Go.tr st152 ?_
      obtain ⟨rfl, N152q, K152q, q152_0, q152_1, q152_2, q152_3, q152_4, q152_5⟩ := hQ152
      have N152 : Fr n0 L152 := by rw [l152]; exact Fr.app N131 N152q
      have O152 := O131.keep K152q (allS g_b1 (allS g_ob_13 all0))
      have K152 : Keep h0 T152.heap [] := K131.trans K152q (allS (Or.inr sz_b1) (allS (Or.inr sz_ob_13) all0))
      have sf168 := Safe.keep K152q (sfS sf148 (sfS sf149 sf0)) CR131.1 sf148
      have sf169 := Safe.keep K152q (sfS sf148 (sfS sf149 sf0)) CR131.1 sf149
      have CR152 := CR131.trans (CHr.keep K152q (sfS sf148 (sfS sf149 sf0)) CR131.1)
      show Go _ _ _ _ (T152.setTop (mkF m 43 #[lR p0] [(.ref b1)]))
      have c171 := (c157.keep K152q)
      have c172 := (c158.keep K152q)
      have c173 := (c159.keep K152q (ninS (Nat.ne_of_lt (Nat.lt_of_lt_of_le hp7.lt (Nat.le_of_eq g1.symm))) (ninS (Nat.ne_of_lt (Nat.lt_of_lt_of_le c8.lt q5_0)) nin0)))
      have c174 := (c160.keep K152q)
      have c175 := (c161.keep K152q (ninS (Nat.ne_of_lt (Nat.lt_of_lt_of_le hp13.lt (Nat.le_of_eq g1.symm))) (ninS (Nat.ne_of_lt (Nat.lt_of_lt_of_le c10.lt q5_0)) nin0)))
      have c176 := (c153.keep K152q)
      have c177 := (c156.keep K152q (ninS (Nat.ne_of_lt (Nat.lt_of_lt_of_le hp19.lt (Nat.le_of_eq g1.symm))) (ninS (Nat.ne_of_lt (Nat.lt_of_lt_of_le c12.lt q5_0)) nin0)))
      have c178 := (c162.keep K152q)
      have c179 := (c163.keep K152q (ninS (Ne.symm ne29.2) (ninS (Ne.symm ne30.2) nin0)))
      have c180 := (c164.keep K152q)
      have c181 := (c165.keep K152q (ninS (Ne.symm ne76.2) (ninS (Ne.symm ne77.2) nin0)))
      have c182 := (c166.keep K152q)
      have c183 := (c167.keep K152q (ninS (Ne.symm ne129.2) (ninS (Ne.symm ne130.2) nin0)))
      obtain ⟨cq170, kq170, q170a, q170b, q170c⟩ := isOf hZ113 rfl q152_0
      obtain ⟨_, _, ⟨T170, L170, k170, n170⟩, -, X170, ⟨Lc170, hQ170, l170, y170, z170⟩, st170⟩ := X152.virtualBack hx (y := (⟨"java/lang/StringBuilder", "toString", "()Ljava/lang/String;"⟩ : MethodName)) (z := (⟨"java/lang/StringBuilder", "toString", "()Ljava/lang/String;"⟩ : MethodName)) hown113 (mvT hZ113 (ow hw 158 rfl)) (mvT hZ113 (ow hw 159 rfl)) (notFace_of_selects (args := #[]) (mvT hZ113 (ow hw 161 rfl))) (mvT hZ113 (ow hw 161 rfl)) (mvT hZ113 (ow hw 160 rfl)) (by decide) (backOf (W := 0) (rm_tostr l Z a0 hw [] g_CS S_CS nz_CS b1 ((((((([] : List Int32) ++ ([(117 : Int32), (110 : Int32), (117 : Int32), (115 : Int32), (101 : Int32), (100 : Int32), (32 : Int32)] : List Int32)) ++ mcs) ++ ([(32 : Int32)] : List Int32)) ++ ocs) ++ ([(32 : Int32), (102 : Int32), (111 : Int32), (114 : Int32), (32 : Int32)] : List Int32)) ++ ucs) ob_13 kb_14 (16 : Int32) T152.heap n0 O152 q152_0 q152_1 q152_2 q152_3 q152_4 q152_5 (by rw [own_c16]; simp only [List.length_append, List.length_cons, List.length_nil]; omega) (by simp only [List.length_append, List.length_cons, List.length_nil]; omega)) hZ113 (ow hw 162 rfl) (ow hw 69 rfl) (by decide) (by decide)) q170a q170c (g := (mkF m 43 #[.val (.ref p0)] [(.ref b1)])) rfl (by rw [hml]; rfl) (Steps.refl _) (argsL := []) (rest := []) (lenOf own_pd26 rfl) rfl (by show 2 * 0 + _ ≤ _; exact Nat.le_of_eq rfl) (hb hby od34_43) (fun _ _ => ⟨rfl, rfl, (by decide : 8 + 2 ≤ _), (by decide : 84 + 68 ≤ _)⟩)
      dsimp only [Pt.U, Pt.locs, Pt.cells, Pt.slots] at X170 l170 y170 z170 st170 hQ170
      subst y170 z170
      refine Go.tr st170 ?_
      obtain ⟨os_184, ob_185, kb_186, rfl, N170q, K170q, q170_0, q170_1, q170_2, q170_3, q170_4, q170_5⟩ := hQ170
      have N170 : Fr n0 L170 := by rw [l170]; exact Fr.app N152 N170q
      have SN170_0 : Safe Z consts_1 T113.vm T152.heap os_184 := Safe.new q170_0
      have SN170_1 : Safe Z consts_1 T113.vm T152.heap ob_185 := Safe.new q170_1
      have O170 := O152.keep K170q all0
      have K170 : Keep h0 T170.heap [] := K152.trans K170q all0
      have sf187 := Safe.keep K170q sf0 CR152.1 sf168
      have sf188 := Safe.keep K170q sf0 CR152.1 sf169
      have sf189 := Safe.keep K170q sf0 CR152.1 SN170_0
      have sf190 := Safe.keep K170q sf0 CR152.1 SN170_1
      have CR170 := CR152.trans (CHr.keep K170q sf0 CR152.1)
      have sz_os_184 : h0.size ≤ os_184 := Nat.le_trans K152.1 q170_0
      have g_os_184 : n0 ≤ os_184 := Nat.le_trans (own_oldsz X00) sz_os_184
      have sz_ob_185 : h0.size ≤ ob_185 := Nat.le_trans K152.1 q170_1
      have g_ob_185 : n0 ≤ ob_185 := Nat.le_trans (own_oldsz X00) sz_ob_185
      show Go _ _ _ _ (T170.setTop (mkF m 46 #[lR p0] [(.ref os_184)]))
      obtain ⟨fs, hr, hrun, hended, -, hW, hpair, hsame⟩ := X170.leaveW hS113 (Nat.le_trans (Nat.le_trans (Nat.le_trans hk113 K131q.1) K152q.1) K170q.1) (v := some (.ref os_184)) (fun h => by rw [Bd.returns] at h; cases h)
      have hCRe := CR170.trans (CHv.at X170 hZ113 hEL CR170.1)
      refine ⟨_, ?_, hPend _ _ hrun hended ⟨_, _, rfl, ?_, ?_, ⟨_, rfl⟩, hW, hpair, hsame.mono (by decide) (by decide)⟩⟩
      · exact retOut X170 hx (t := (.object "java/lang/String")) Bd.returns rfl (Or.inr (Or.inr (Or.inr (Or.inr ⟨rfl, rfl, rfl⟩)))) (hb hby od34_46) hr
      · show Q_rm_utos Z _ _ _ _ _ _ _ _ _ _ _ _ _ _ h0 n0 _ T170.heap _
        exact ⟨os_184, ob_185, kb_186, rfl, N170, K170, sz_os_184, q170_2, q170_3, q170_4, q170_5⟩
      · show CHr Z consts_1 s.vm s.heap T170.vm T170.heap
        rw [hh]
        exact hCRe
    · skip
      show Go _ _ _ _ (T151.setTop (mkF m 40 #[lR p0] [(.ref su), (.ref b1)]))
      have c192 := (c142.keep K131q)
      have c193 := ((((((((((hp17.ext E1).keep K5q (ninS (Nat.ne_of_lt (Nat.lt_of_lt_of_le hp16.lt (Nat.le_of_eq g1.symm))) nin0)).ext E17).keep K31q (ninS (Nat.ne_of_lt (Nat.lt_of_lt_of_le hp16.lt (Nat.le_of_eq g1.symm))) (ninS (Nat.ne_of_lt (Nat.lt_of_lt_of_le c11.lt q5_0)) nin0))).keep K48q (ninS (Nat.ne_of_lt (Nat.lt_of_lt_of_le hp16.lt (Nat.le_of_eq g1.symm))) (ninS (Nat.ne_of_lt (Nat.lt_of_lt_of_le c11.lt q5_0)) nin0))).ext E62).keep K78q (ninS (Nat.ne_of_lt (Nat.lt_of_lt_of_le hp16.lt (Nat.le_of_eq g1.symm))) (ninS (Nat.ne_of_lt (Nat.lt_of_lt_of_le c11.lt q5_0)) nin0))).keep K97q (ninS (Nat.ne_of_lt (Nat.lt_of_lt_of_le hp16.lt (Nat.le_of_eq g1.symm))) (ninS (Nat.ne_of_lt (Nat.lt_of_lt_of_le c11.lt q5_0)) nin0))).ext E113).keep K131q (ninS (Nat.ne_of_lt (Nat.lt_of_lt_of_le hp16.lt (Nat.le_of_eq g1.symm))) (ninS (Nat.ne_of_lt (Nat.lt_of_lt_of_le c11.lt q5_0)) nin0)))
      have c194 := ((((((((((hp18.ext E1).keep K5q (ninS (Nat.ne_of_lt (Nat.lt_of_lt_of_le hp16.lt (Nat.le_of_eq g1.symm))) nin0)).ext E17).keep K31q (ninS (Nat.ne_of_lt (Nat.lt_of_lt_of_le hp16.lt (Nat.le_of_eq g1.symm))) (ninS (Nat.ne_of_lt (Nat.lt_of_lt_of_le c11.lt q5_0)) nin0))).keep K48q (ninS (Nat.ne_of_lt (Nat.lt_of_lt_of_le hp16.lt (Nat.le_of_eq g1.symm))) (ninS (Nat.ne_of_lt (Nat.lt_of_lt_of_le c11.lt q5_0)) nin0))).ext E62).keep K78q (ninS (Nat.ne_of_lt (Nat.lt_of_lt_of_le hp16.lt (Nat.le_of_eq g1.symm))) (ninS (Nat.ne_of_lt (Nat.lt_of_lt_of_le c11.lt q5_0)) nin0))).keep K97q (ninS (Nat.ne_of_lt (Nat.lt_of_lt_of_le hp16.lt (Nat.le_of_eq g1.symm))) (ninS (Nat.ne_of_lt (Nat.lt_of_lt_of_le c11.lt q5_0)) nin0))).ext E113).keep K131q (ninS (Nat.ne_of_lt (Nat.lt_of_lt_of_le hp16.lt (Nat.le_of_eq g1.symm))) (ninS (Nat.ne_of_lt (Nat.lt_of_lt_of_le c11.lt q5_0)) nin0)))
      have c195 := (c143.keep K131q (ninS (Nat.ne_of_lt (Nat.lt_of_lt_of_le hp19.lt (Nat.le_of_eq g1.symm))) (ninS (Nat.ne_of_lt (Nat.lt_of_lt_of_le c12.lt q5_0)) nin0)))
      have c196 := (c127.keep K131q)
      have c197 := (c138.keep K131q)
      have c198 := (c139.keep K131q (ninS (Nat.ne_of_lt (Nat.lt_of_lt_of_le hp7.lt (Nat.le_of_eq g1.symm))) (ninS (Nat.ne_of_lt (Nat.lt_of_lt_of_le c8.lt q5_0)) nin0)))
      have c199 := (c140.keep K131q)
      have c200 := (c141.keep K131q (ninS (Nat.ne_of_lt (Nat.lt_of_lt_of_le hp13.lt (Nat.le_of_eq g1.symm))) (ninS (Nat.ne_of_lt (Nat.lt_of_lt_of_le c10.lt q5_0)) nin0)))
      have c201 := (c144.keep K131q)
      have c202 := (c145.keep K131q (ninS (Ne.symm ne29.2) (ninS (Ne.symm ne30.2) nin0)))
      have c203 := (c146.keep K131q)
      have c204 := (c147.keep K131q (ninS (Ne.symm ne76.2) (ninS (Ne.symm ne77.2) nin0)))
      have c205 := (Ea113.keep K131q)
      have c206 := (Ab113.keep K131q (ninS (Ne.symm ne129.2) (ninS (Ne.symm ne130.2) nin0)))
      obtain ⟨cq191, kq191, q191a, q191b, q191c⟩ := isOf hZ113 e151 q131_0
      obtain ⟨_, _, ⟨T191, L191, k191, n191⟩, -, X191, ⟨Lc191, hQ191, l191, y191, z191⟩, st191⟩ := X151.virtualBack hx (y := (⟨"java/lang/StringBuilder", "append", "(Ljava/lang/String;)Ljava/lang/StringBuilder;"⟩ : MethodName)) (z := (⟨"java/lang/StringBuilder", "append", "(Ljava/lang/String;)Ljava/lang/StringBuilder;"⟩ : MethodName)) hown113 (mvT hZ113 (ow hw 86 rfl)) (mvT hZ113 (ow hw 87 rfl)) (notFace_of_selects (args := #[]) (mvT hZ113 (ow hw 89 rfl))) (mvT hZ113 (ow hw 89 rfl)) (mvT hZ113 (ow hw 88 rfl)) (by decide) (backOf (W := 0) (rm_sapg l Z a0 hw [] g_CS S_CS nz_CS b1 su (((((([] : List Int32) ++ ([(117 : Int32), (110 : Int32), (117 : Int32), (115 : Int32), (101 : Int32), (100 : Int32), (32 : Int32)] : List Int32)) ++ mcs) ++ ([(32 : Int32)] : List Int32)) ++ ocs) ++ ([(32 : Int32), (102 : Int32), (111 : Int32), (114 : Int32), (32 : Int32)] : List Int32)) ob_13 kb_14 ucs uv uk T131.heap n0 O131 q131_0 q131_1 q131_2 q131_3 q131_4 q131_5 g_b1 g_ob_13 c192 c193 c194 c195 hpcu hleu (by simp only [List.length_append, List.length_cons, List.length_nil]; omega) (by simp only [List.length_append, List.length_cons, List.length_nil]; omega) (by simp only [List.length_append, List.length_cons, List.length_nil]; omega)) hZ113 (ow hw 90 rfl) (ow hw 69 rfl) (by decide) (by decide)) q191a q191c (g := (mkF m 40 #[.val (.ref p0)] [(.ref su), (.ref b1)])) rfl (by rw [hml]; rfl) (Steps.refl _) (argsL := [(.ref su)]) (rest := []) (lenOf own_pd25 rfl) rfl (by show 2 * 0 + _ ≤ _; exact Nat.le_of_eq rfl) (hb hby od34_40) (fun _ _ => ⟨rfl, e151, (by decide : 8 + 1 ≤ _), (by decide : 84 + 34 ≤ _)⟩)
      dsimp only [Pt.U, Pt.locs, Pt.cells, Pt.slots] at X191 l191 y191 z191 st191 hQ191
      subst y191 z191
      refine Go.tr st191 ?_
      obtain ⟨ob_207, kb_208, rfl, N191q, K191q, q191_0, q191_1, q191_2, q191_3, q191_4, q191_5, q191_6⟩ := hQ191
      have N191 : Fr n0 L191 := by rw [l191]; exact Fr.app N131 N191q
      have SN191_0 : Safe Z consts_1 T113.vm T131.heap ob_207 := Safe.new q191_0
      have O191 := O131.keep K191q (allS g_b1 all0)
      have K191 : Keep h0 T191.heap [] := K131.trans K191q (allS (Or.inr sz_b1) all0)
      have sf209 := Safe.keep K191q (sfS sf148 sf0) CR131.1 sf148
      have sf210 := Safe.keep K191q (sfS sf148 sf0) CR131.1 sf149
      have sf211 := Safe.keep K191q (sfS sf148 sf0) CR131.1 SN191_0
      have CR191 := CR131.trans (CHr.keep K191q (sfS sf148 sf0) CR131.1)
      have sz_ob_207 : h0.size ≤ ob_207 := Nat.le_trans K131.1 q191_0
      have g_ob_207 : n0 ≤ ob_207 := Nat.le_trans (own_oldsz X00) sz_ob_207
      show Go _ _ _ _ (T191.setTop (mkF m 43 #[lR p0] [(.ref b1)]))
      have c213 := (c196.keep K191q)
      have c214 := (c197.keep K191q)
      have c215 := (c198.keep K191q (ninS (Nat.ne_of_lt (Nat.lt_of_lt_of_le hp7.lt (Nat.le_of_eq g1.symm))) nin0))
      have c216 := (c199.keep K191q)
      have c217 := (c200.keep K191q (ninS (Nat.ne_of_lt (Nat.lt_of_lt_of_le hp13.lt (Nat.le_of_eq g1.symm))) nin0))
      have c218 := (c192.keep K191q)
      have c219 := (c195.keep K191q (ninS (Nat.ne_of_lt (Nat.lt_of_lt_of_le hp19.lt (Nat.le_of_eq g1.symm))) nin0))
      have c220 := (q131_4.keep K191q)
      have c221 := (c201.keep K191q)
      have c222 := (c202.keep K191q (ninS (Ne.symm ne29.2) nin0))
      have c223 := (c203.keep K191q)
      have c224 := (c204.keep K191q (ninS (Ne.symm ne76.2) nin0))
      have c225 := (c205.keep K191q)
      have c226 := (c206.keep K191q (ninS (Ne.symm ne129.2) nin0))
      obtain ⟨cq212, kq212, q212a, q212b, q212c⟩ := isOf hZ113 rfl q191_1
      obtain ⟨_, _, ⟨T212, L212, k212, n212⟩, -, X212, ⟨Lc212, hQ212, l212, y212, z212⟩, st212⟩ := X191.virtualBack hx (y := (⟨"java/lang/StringBuilder", "toString", "()Ljava/lang/String;"⟩ : MethodName)) (z := (⟨"java/lang/StringBuilder", "toString", "()Ljava/lang/String;"⟩ : MethodName)) hown113 (mvT hZ113 (ow hw 158 rfl)) (mvT hZ113 (ow hw 159 rfl)) (notFace_of_selects (args := #[]) (mvT hZ113 (ow hw 161 rfl))) (mvT hZ113 (ow hw 161 rfl)) (mvT hZ113 (ow hw 160 rfl)) (by decide) (backOf (W := 0) (rm_tostr l Z a0 hw [] g_CS S_CS nz_CS b1 ((((((([] : List Int32) ++ ([(117 : Int32), (110 : Int32), (117 : Int32), (115 : Int32), (101 : Int32), (100 : Int32), (32 : Int32)] : List Int32)) ++ mcs) ++ ([(32 : Int32)] : List Int32)) ++ ocs) ++ ([(32 : Int32), (102 : Int32), (111 : Int32), (114 : Int32), (32 : Int32)] : List Int32)) ++ ucs) ob_207 kb_208 (34 : Int32) T191.heap n0 O191 q191_1 q191_2 q191_3 q191_4 q191_5 q191_6 (by rw [own_c34]; simp only [List.length_append, List.length_cons, List.length_nil]; omega) (by simp only [List.length_append, List.length_cons, List.length_nil]; omega)) hZ113 (ow hw 162 rfl) (ow hw 69 rfl) (by decide) (by decide)) q212a q212c (g := (mkF m 43 #[.val (.ref p0)] [(.ref b1)])) rfl (by rw [hml]; rfl) (Steps.refl _) (argsL := []) (rest := []) (lenOf own_pd26 rfl) rfl (by show 2 * 0 + _ ≤ _; exact Nat.le_of_eq rfl) (hb hby od34_43) (fun _ _ => ⟨rfl, rfl, (by decide : 9 + 2 ≤ _), (by decide : 118 + 68 ≤ _)⟩)
      dsimp only [Pt.U, Pt.locs, Pt.cells, Pt.slots] at X212 l212 y212 z212 st212 hQ212
      subst y212 z212
      refine Go.tr st212 ?_
      obtain ⟨os_227, ob_228, kb_229, rfl, N212q, K212q, q212_0, q212_1, q212_2, q212_3, q212_4, q212_5⟩ := hQ212
      have N212 : Fr n0 L212 := by rw [l212]; exact Fr.app N191 N212q
      have SN212_0 : Safe Z consts_1 T113.vm T191.heap os_227 := Safe.new q212_0
      have SN212_1 : Safe Z consts_1 T113.vm T191.heap ob_228 := Safe.new q212_1
      have O212 := O191.keep K212q all0
      have K212 : Keep h0 T212.heap [] := K191.trans K212q all0
      have sf230 := Safe.keep K212q sf0 CR191.1 sf209
      have sf231 := Safe.keep K212q sf0 CR191.1 sf210
      have sf232 := Safe.keep K212q sf0 CR191.1 sf211
      have sf233 := Safe.keep K212q sf0 CR191.1 SN212_0
      have sf234 := Safe.keep K212q sf0 CR191.1 SN212_1
      have CR212 := CR191.trans (CHr.keep K212q sf0 CR191.1)
      have sz_os_227 : h0.size ≤ os_227 := Nat.le_trans K191.1 q212_0
      have g_os_227 : n0 ≤ os_227 := Nat.le_trans (own_oldsz X00) sz_os_227
      have sz_ob_228 : h0.size ≤ ob_228 := Nat.le_trans K191.1 q212_1
      have g_ob_228 : n0 ≤ ob_228 := Nat.le_trans (own_oldsz X00) sz_ob_228
      show Go _ _ _ _ (T212.setTop (mkF m 46 #[lR p0] [(.ref os_227)]))
      obtain ⟨fs, hr, hrun, hended, -, hW, hpair, hsame⟩ := X212.leaveW hS113 (Nat.le_trans (Nat.le_trans (Nat.le_trans hk113 K131q.1) K191q.1) K212q.1) (v := some (.ref os_227)) (fun h => by rw [Bd.returns] at h; cases h)
      have hCRe := CR212.trans (CHv.at X212 hZ113 hEL CR212.1)
      refine ⟨_, ?_, hPend _ _ hrun hended ⟨_, _, rfl, ?_, ?_, ⟨_, rfl⟩, hW, hpair, hsame.mono (by decide) (by decide)⟩⟩
      · exact retOut X212 hx (t := (.object "java/lang/String")) Bd.returns rfl (Or.inr (Or.inr (Or.inr (Or.inr ⟨rfl, rfl, rfl⟩)))) (hb hby od34_46) hr
      · show Q_rm_utos Z _ _ _ _ _ _ _ _ _ _ _ _ _ _ h0 n0 _ T212.heap _
        exact ⟨os_227, ob_228, kb_229, rfl, N212, K212, sz_os_227, q212_2, q212_3, q212_4, q212_5⟩
      · show CHr Z consts_1 s.vm s.heap T212.vm T212.heap
        rw [hh]
        exact hCRe
  · skip
    show Go _ _ _ _ (T113.setTop (mkF m 33 #[lR p0] [(.ref a113), (.ref b1)]))
    have c236 := (q97_0.ext E113)
    have c237 := (q97_1.ext E113)
    have c238 := (q97_2.ext E113)
    have c239 := (q97_3.ext E113)
    have c240 := (q97_4.ext E113)
    have c241 := (q97_5.ext E113)
    have c242 := (c115.ext E113)
    have c243 := (c116.ext E113)
    have c244 := (c117.ext E113)
    have c245 := (c118.ext E113)
    have c246 := (c119.ext E113)
    have c247 := (c120.ext E113)
    have c248 := (c121.ext E113)
    have c249 := (c122.ext E113)
    have c250 := (c123.ext E113)
    have c251 := (c124.ext E113)
    obtain ⟨cq235, kq235, q235a, q235b, q235c⟩ := isOf hZ113 e113 c236
    obtain ⟨_, _, ⟨T235, L235, k235, n235⟩, -, X235, ⟨Lc235, hQ235, l235, y235, z235⟩, st235⟩ := X113.virtualBack hx (y := (⟨"java/lang/StringBuilder", "append", "(Ljava/lang/String;)Ljava/lang/StringBuilder;"⟩ : MethodName)) (z := (⟨"java/lang/StringBuilder", "append", "(Ljava/lang/String;)Ljava/lang/StringBuilder;"⟩ : MethodName)) hown113 (mvT hZ113 (ow hw 86 rfl)) (mvT hZ113 (ow hw 87 rfl)) (notFace_of_selects (args := #[]) (mvT hZ113 (ow hw 89 rfl))) (mvT hZ113 (ow hw 89 rfl)) (mvT hZ113 (ow hw 88 rfl)) (by decide) (backOf (W := 0) (rm_sapg l Z a0 hw [] g_CS S_CS nz_CS b1 a113 ((((([] : List Int32) ++ ([(117 : Int32), (110 : Int32), (117 : Int32), (115 : Int32), (101 : Int32), (100 : Int32), (32 : Int32)] : List Int32)) ++ mcs) ++ ([(32 : Int32)] : List Int32)) ++ ocs) ob_13 kb_14 ([(32 : Int32), (102 : Int32), (111 : Int32), (114 : Int32), (32 : Int32)] : List Int32) b113 kb113 h113 n0 O113 c236 c237 c238 c239 c240 c241 g_b1 g_ob_13 Ea113 Ca113 Va113 (by rw [own_litF]; exact Ab113) (show ∀ c ∈ ([(32 : Int32), (102 : Int32), (111 : Int32), (114 : Int32), (32 : Int32)] : List Int32), ¬ c < 0 ∧ ¬ (255 : Int32) < c by decide) (Nat.le_of_ble_eq_true rfl) (by simp only [List.length_append, List.length_cons, List.length_nil]; omega) (by simp only [List.length_append, List.length_cons, List.length_nil]; omega) (by simp only [List.length_append, List.length_cons, List.length_nil]; omega)) hZ113 (ow hw 90 rfl) (ow hw 69 rfl) (by decide) (by decide)) q235a q235c (g := (mkF m 33 #[.val (.ref p0)] [(.ref a113), (.ref b1)])) rfl (by rw [hml]; rfl) (Steps.refl _) (argsL := [(.ref a113)]) (rest := []) (lenOf own_pd25 rfl) rfl (by show 2 * 0 + _ ≤ _; exact Nat.le_of_eq rfl) (hb hby od34_33) (fun _ _ => ⟨rfl, e113, (by decide : 8 + 1 ≤ _), (by decide : 84 + 34 ≤ _)⟩)
    dsimp only [Pt.U, Pt.locs, Pt.cells, Pt.slots] at X235 l235 y235 z235 st235 hQ235
    subst y235 z235
    refine Go.tr st235 ?_
    obtain ⟨ob_252, kb_253, rfl, N235q, K235q, q235_0, q235_1, q235_2, q235_3, q235_4, q235_5, q235_6⟩ := hQ235
    have N235 : Fr n0 L235 := by rw [l235]; exact Fr.app N97 N235q
    have SN235_0 : Safe Z consts_1 T113.vm h113 ob_252 := Safe.new q235_0
    have O235 := O113.keep K235q (allS g_b1 all0)
    have K235 : Keep h0 T235.heap [] := K113.trans K235q (allS (Or.inr sz_b1) all0)
    have sf254 := Safe.keep K235q (sfS sf125 sf0) CR113.1 sf125
    have sf255 := Safe.keep K235q (sfS sf125 sf0) CR113.1 sf126
    have sf256 := Safe.keep K235q (sfS sf125 sf0) CR113.1 SN235_0
    have CR235 := CR113.trans (CHr.keep K235q (sfS sf125 sf0) CR113.1)
    have sz_ob_252 : h0.size ≤ ob_252 := Nat.le_trans K113.1 q235_0
    have g_ob_252 : n0 ≤ ob_252 := Nat.le_trans (own_oldsz X00) sz_ob_252
    show Go _ _ _ _ (T235.setTop (mkF m 36 #[lR p0] [(.ref b1)]))
    refine Go.st (fun _ => XS.aloadN X235.here hx rfl (hb hby od34_36) rfl rfl) ?_
    show Go _ _ _ _ (T235.setTop (mkF m 37 #[lR p0] [(.ref p0), (.ref b1)]))
    have c257 := ((((((((((hp3.ext E1).keep K5q (ninS (Nat.ne_of_lt (Nat.lt_of_lt_of_le hp0.lt (Nat.le_of_eq g1.symm))) nin0)).ext E17).keep K31q (ninS (Nat.ne_of_lt (Nat.lt_of_lt_of_le hp0.lt (Nat.le_of_eq g1.symm))) (ninS (Nat.ne_of_lt (Nat.lt_of_lt_of_le c6.lt q5_0)) nin0))).keep K48q (ninS (Nat.ne_of_lt (Nat.lt_of_lt_of_le hp0.lt (Nat.le_of_eq g1.symm))) (ninS (Nat.ne_of_lt (Nat.lt_of_lt_of_le c6.lt q5_0)) nin0))).ext E62).keep K78q (ninS (Nat.ne_of_lt (Nat.lt_of_lt_of_le hp0.lt (Nat.le_of_eq g1.symm))) (ninS (Nat.ne_of_lt (Nat.lt_of_lt_of_le c6.lt q5_0)) nin0))).keep K97q (ninS (Nat.ne_of_lt (Nat.lt_of_lt_of_le hp0.lt (Nat.le_of_eq g1.symm))) (ninS (Nat.ne_of_lt (Nat.lt_of_lt_of_le c6.lt q5_0)) nin0))).ext E113).keep K235q (ninS (Nat.ne_of_lt (Nat.lt_of_lt_of_le hp0.lt (Nat.le_of_eq g1.symm))) nin0))
    obtain ⟨T258, X258, e258, st258⟩ := getF X235 hx hZ113 hown113 (host := "") (Or.inl (ow hw 60 rfl)) Via.refl rfl c257 (g := (mkF m 37 #[.val (.ref p0)] [(.ref p0), (.ref b1)])) rfl rfl (hb hby od34_37)
    refine Go.st st258 ?_
    show Go _ _ _ _ (T258.setTop (mkF m 40 #[lR p0] [(.ref su), (.ref b1)]))
    have c260 := (c246.keep K235q)
    have c261 := ((((((((((hp17.ext E1).keep K5q (ninS (Nat.ne_of_lt (Nat.lt_of_lt_of_le hp16.lt (Nat.le_of_eq g1.symm))) nin0)).ext E17).keep K31q (ninS (Nat.ne_of_lt (Nat.lt_of_lt_of_le hp16.lt (Nat.le_of_eq g1.symm))) (ninS (Nat.ne_of_lt (Nat.lt_of_lt_of_le c11.lt q5_0)) nin0))).keep K48q (ninS (Nat.ne_of_lt (Nat.lt_of_lt_of_le hp16.lt (Nat.le_of_eq g1.symm))) (ninS (Nat.ne_of_lt (Nat.lt_of_lt_of_le c11.lt q5_0)) nin0))).ext E62).keep K78q (ninS (Nat.ne_of_lt (Nat.lt_of_lt_of_le hp16.lt (Nat.le_of_eq g1.symm))) (ninS (Nat.ne_of_lt (Nat.lt_of_lt_of_le c11.lt q5_0)) nin0))).keep K97q (ninS (Nat.ne_of_lt (Nat.lt_of_lt_of_le hp16.lt (Nat.le_of_eq g1.symm))) (ninS (Nat.ne_of_lt (Nat.lt_of_lt_of_le c11.lt q5_0)) nin0))).ext E113).keep K235q (ninS (Nat.ne_of_lt (Nat.lt_of_lt_of_le hp16.lt (Nat.le_of_eq g1.symm))) nin0))
    have c262 := ((((((((((hp18.ext E1).keep K5q (ninS (Nat.ne_of_lt (Nat.lt_of_lt_of_le hp16.lt (Nat.le_of_eq g1.symm))) nin0)).ext E17).keep K31q (ninS (Nat.ne_of_lt (Nat.lt_of_lt_of_le hp16.lt (Nat.le_of_eq g1.symm))) (ninS (Nat.ne_of_lt (Nat.lt_of_lt_of_le c11.lt q5_0)) nin0))).keep K48q (ninS (Nat.ne_of_lt (Nat.lt_of_lt_of_le hp16.lt (Nat.le_of_eq g1.symm))) (ninS (Nat.ne_of_lt (Nat.lt_of_lt_of_le c11.lt q5_0)) nin0))).ext E62).keep K78q (ninS (Nat.ne_of_lt (Nat.lt_of_lt_of_le hp16.lt (Nat.le_of_eq g1.symm))) (ninS (Nat.ne_of_lt (Nat.lt_of_lt_of_le c11.lt q5_0)) nin0))).keep K97q (ninS (Nat.ne_of_lt (Nat.lt_of_lt_of_le hp16.lt (Nat.le_of_eq g1.symm))) (ninS (Nat.ne_of_lt (Nat.lt_of_lt_of_le c11.lt q5_0)) nin0))).ext E113).keep K235q (ninS (Nat.ne_of_lt (Nat.lt_of_lt_of_le hp16.lt (Nat.le_of_eq g1.symm))) nin0))
    have c263 := (c247.keep K235q (ninS (Nat.ne_of_lt (Nat.lt_of_lt_of_le hp19.lt (Nat.le_of_eq g1.symm))) nin0))
    have c264 := (c127.keep K235q)
    have c265 := (c242.keep K235q)
    have c266 := (c243.keep K235q (ninS (Nat.ne_of_lt (Nat.lt_of_lt_of_le hp7.lt (Nat.le_of_eq g1.symm))) nin0))
    have c267 := (c244.keep K235q)
    have c268 := (c245.keep K235q (ninS (Nat.ne_of_lt (Nat.lt_of_lt_of_le hp13.lt (Nat.le_of_eq g1.symm))) nin0))
    have c269 := (c240.keep K235q)
    have c270 := (c248.keep K235q)
    have c271 := (c249.keep K235q (ninS (Ne.symm ne29.2) nin0))
    have c272 := (c250.keep K235q)
    have c273 := (c251.keep K235q (ninS (Ne.symm ne76.2) nin0))
    have c274 := (Ea113.keep K235q)
    have c275 := (Ab113.keep K235q (ninS (Ne.symm ne129.2) nin0))
    obtain ⟨cq259, kq259, q259a, q259b, q259c⟩ := isOf hZ113 e258 q235_1
    obtain ⟨_, _, ⟨T259, L259, k259, n259⟩, -, X259, ⟨Lc259, hQ259, l259, y259, z259⟩, st259⟩ := X258.virtualBack hx (y := (⟨"java/lang/StringBuilder", "append", "(Ljava/lang/String;)Ljava/lang/StringBuilder;"⟩ : MethodName)) (z := (⟨"java/lang/StringBuilder", "append", "(Ljava/lang/String;)Ljava/lang/StringBuilder;"⟩ : MethodName)) hown113 (mvT hZ113 (ow hw 86 rfl)) (mvT hZ113 (ow hw 87 rfl)) (notFace_of_selects (args := #[]) (mvT hZ113 (ow hw 89 rfl))) (mvT hZ113 (ow hw 89 rfl)) (mvT hZ113 (ow hw 88 rfl)) (by decide) (backOf (W := 0) (rm_sapr l Z a0 hw [] g_CS S_CS nz_CS b1 su (((((([] : List Int32) ++ ([(117 : Int32), (110 : Int32), (117 : Int32), (115 : Int32), (101 : Int32), (100 : Int32), (32 : Int32)] : List Int32)) ++ mcs) ++ ([(32 : Int32)] : List Int32)) ++ ocs) ++ ([(32 : Int32), (102 : Int32), (111 : Int32), (114 : Int32), (32 : Int32)] : List Int32)) ob_252 kb_253 (34 : Int32) ucs uv uk T235.heap n0 O235 q235_1 q235_2 q235_3 q235_4 q235_5 q235_6 g_b1 g_ob_252 c260 c261 c262 c263 hpcu hleu (by rw [own_c34]; simp only [List.length_append, List.length_cons, List.length_nil]; omega)) hZ113 (ow hw 90 rfl) (ow hw 69 rfl) (by decide) (by decide)) q259a q259c (g := (mkF m 40 #[.val (.ref p0)] [(.ref su), (.ref b1)])) rfl (by rw [hml]; rfl) (Steps.refl _) (argsL := [(.ref su)]) (rest := []) (lenOf own_pd25 rfl) rfl (by show 2 * 0 + _ ≤ _; exact Nat.le_of_eq rfl) (hb hby od34_40) (fun _ _ => ⟨rfl, e258, (by decide : 9 + 0 ≤ _), (by decide : 118 + 0 ≤ _)⟩)
    dsimp only [Pt.U, Pt.locs, Pt.cells, Pt.slots] at X259 l259 y259 z259 st259 hQ259
    subst y259 z259
    refine Go.tr st259 ?_
    obtain ⟨rfl, N259q, K259q, q259_0, q259_1, q259_2, q259_3, q259_4, q259_5⟩ := hQ259
    have N259 : Fr n0 L259 := by rw [l259]; exact Fr.app N235 N259q
    have O259 := O235.keep K259q (allS g_b1 (allS g_ob_252 all0))
    have K259 : Keep h0 T259.heap [] := K235.trans K259q (allS (Or.inr sz_b1) (allS (Or.inr sz_ob_252) all0))
    have sf276 := Safe.keep K259q (sfS sf254 (sfS sf256 sf0)) CR235.1 sf254
    have sf277 := Safe.keep K259q (sfS sf254 (sfS sf256 sf0)) CR235.1 sf255
    have sf278 := Safe.keep K259q (sfS sf254 (sfS sf256 sf0)) CR235.1 sf256
    have CR259 := CR235.trans (CHr.keep K259q (sfS sf254 (sfS sf256 sf0)) CR235.1)
    show Go _ _ _ _ (T259.setTop (mkF m 43 #[lR p0] [(.ref b1)]))
    have c280 := (c264.keep K259q)
    have c281 := (c265.keep K259q)
    have c282 := (c266.keep K259q (ninS (Nat.ne_of_lt (Nat.lt_of_lt_of_le hp7.lt (Nat.le_of_eq g1.symm))) (ninS (Nat.ne_of_lt (Nat.lt_of_lt_of_le c243.lt q235_0)) nin0)))
    have c283 := (c267.keep K259q)
    have c284 := (c268.keep K259q (ninS (Nat.ne_of_lt (Nat.lt_of_lt_of_le hp13.lt (Nat.le_of_eq g1.symm))) (ninS (Nat.ne_of_lt (Nat.lt_of_lt_of_le c245.lt q235_0)) nin0)))
    have c285 := (c260.keep K259q)
    have c286 := (c263.keep K259q (ninS (Nat.ne_of_lt (Nat.lt_of_lt_of_le hp19.lt (Nat.le_of_eq g1.symm))) (ninS (Nat.ne_of_lt (Nat.lt_of_lt_of_le c247.lt q235_0)) nin0)))
    have c287 := (c269.keep K259q)
    have c288 := (c270.keep K259q)
    have c289 := (c271.keep K259q (ninS (Ne.symm ne29.2) (ninS (Nat.ne_of_lt (Nat.lt_of_lt_of_le c249.lt q235_0)) nin0)))
    have c290 := (c272.keep K259q)
    have c291 := (c273.keep K259q (ninS (Ne.symm ne76.2) (ninS (Nat.ne_of_lt (Nat.lt_of_lt_of_le c251.lt q235_0)) nin0)))
    have c292 := (c274.keep K259q)
    have c293 := (c275.keep K259q (ninS (Ne.symm ne129.2) (ninS (Nat.ne_of_lt (Nat.lt_of_lt_of_le Ab113.lt q235_0)) nin0)))
    obtain ⟨cq279, kq279, q279a, q279b, q279c⟩ := isOf hZ113 rfl q259_0
    obtain ⟨_, _, ⟨T279, L279, k279, n279⟩, -, X279, ⟨Lc279, hQ279, l279, y279, z279⟩, st279⟩ := X259.virtualBack hx (y := (⟨"java/lang/StringBuilder", "toString", "()Ljava/lang/String;"⟩ : MethodName)) (z := (⟨"java/lang/StringBuilder", "toString", "()Ljava/lang/String;"⟩ : MethodName)) hown113 (mvT hZ113 (ow hw 158 rfl)) (mvT hZ113 (ow hw 159 rfl)) (notFace_of_selects (args := #[]) (mvT hZ113 (ow hw 161 rfl))) (mvT hZ113 (ow hw 161 rfl)) (mvT hZ113 (ow hw 160 rfl)) (by decide) (backOf (W := 0) (rm_tostr l Z a0 hw [] g_CS S_CS nz_CS b1 ((((((([] : List Int32) ++ ([(117 : Int32), (110 : Int32), (117 : Int32), (115 : Int32), (101 : Int32), (100 : Int32), (32 : Int32)] : List Int32)) ++ mcs) ++ ([(32 : Int32)] : List Int32)) ++ ocs) ++ ([(32 : Int32), (102 : Int32), (111 : Int32), (114 : Int32), (32 : Int32)] : List Int32)) ++ ucs) ob_252 kb_253 (34 : Int32) T259.heap n0 O259 q259_0 q259_1 q259_2 q259_3 q259_4 q259_5 (by rw [own_c34]; simp only [List.length_append, List.length_cons, List.length_nil]; omega) (by simp only [List.length_append, List.length_cons, List.length_nil]; omega)) hZ113 (ow hw 162 rfl) (ow hw 69 rfl) (by decide) (by decide)) q279a q279c (g := (mkF m 43 #[.val (.ref p0)] [(.ref b1)])) rfl (by rw [hml]; rfl) (Steps.refl _) (argsL := []) (rest := []) (lenOf own_pd26 rfl) rfl (by show 2 * 0 + _ ≤ _; exact Nat.le_of_eq rfl) (hb hby od34_43) (fun _ _ => ⟨rfl, rfl, (by decide : 9 + 2 ≤ _), (by decide : 118 + 68 ≤ _)⟩)
    dsimp only [Pt.U, Pt.locs, Pt.cells, Pt.slots] at X279 l279 y279 z279 st279 hQ279
    subst y279 z279
    refine Go.tr st279 ?_
    obtain ⟨os_294, ob_295, kb_296, rfl, N279q, K279q, q279_0, q279_1, q279_2, q279_3, q279_4, q279_5⟩ := hQ279
    have N279 : Fr n0 L279 := by rw [l279]; exact Fr.app N259 N279q
    have SN279_0 : Safe Z consts_1 T113.vm T259.heap os_294 := Safe.new q279_0
    have SN279_1 : Safe Z consts_1 T113.vm T259.heap ob_295 := Safe.new q279_1
    have O279 := O259.keep K279q all0
    have K279 : Keep h0 T279.heap [] := K259.trans K279q all0
    have sf297 := Safe.keep K279q sf0 CR259.1 sf276
    have sf298 := Safe.keep K279q sf0 CR259.1 sf277
    have sf299 := Safe.keep K279q sf0 CR259.1 sf278
    have sf300 := Safe.keep K279q sf0 CR259.1 SN279_0
    have sf301 := Safe.keep K279q sf0 CR259.1 SN279_1
    have CR279 := CR259.trans (CHr.keep K279q sf0 CR259.1)
    have sz_os_294 : h0.size ≤ os_294 := Nat.le_trans K259.1 q279_0
    have g_os_294 : n0 ≤ os_294 := Nat.le_trans (own_oldsz X00) sz_os_294
    have sz_ob_295 : h0.size ≤ ob_295 := Nat.le_trans K259.1 q279_1
    have g_ob_295 : n0 ≤ ob_295 := Nat.le_trans (own_oldsz X00) sz_ob_295
    show Go _ _ _ _ (T279.setTop (mkF m 46 #[lR p0] [(.ref os_294)]))
    obtain ⟨fs, hr, hrun, hended, -, hW, hpair, hsame⟩ := X279.leaveW hS113 (Nat.le_trans (Nat.le_trans (Nat.le_trans hk113 K235q.1) K259q.1) K279q.1) (v := some (.ref os_294)) (fun h => by rw [Bd.returns] at h; cases h)
    have hCRe := CR279.trans (CHv.at X279 hZ113 hEL CR279.1)
    refine ⟨_, ?_, hPend _ _ hrun hended ⟨_, _, rfl, ?_, ?_, ⟨_, rfl⟩, hW, hpair, hsame.mono (by decide) (by decide)⟩⟩
    · exact retOut X279 hx (t := (.object "java/lang/String")) Bd.returns rfl (Or.inr (Or.inr (Or.inr (Or.inr ⟨rfl, rfl, rfl⟩)))) (hb hby od34_46) hr
    · show Q_rm_utos Z _ _ _ _ _ _ _ _ _ _ _ _ _ _ h0 n0 _ T279.heap _
      exact ⟨os_294, ob_295, kb_296, rfl, N279, K279, sz_os_294, q279_2, q279_3, q279_4, q279_5⟩
    · show CHr Z consts_1 s.vm s.heap T279.vm T279.heap
      rw [hh]
      exact hCRe
theorem own_ef_rm_strAt (m : MethodId) (x0 : Addr) (x1 : Int32) (x2 : Addr) : entryFrame m #[(.ref x0), (.int x1), (.ref x2)] 4 = mkF m 0 #[.val (.ref x0), .val (.int x1), .val (.ref x2), .unset] [] := by first | (simp [entryFrame, mkF, argsToLocals, Value.category]; done) | rfl
theorem od35_0 : decode method_3_code 0 = .ok (.iconst 1, 1) := by decide +kernel
theorem od35_1 : decode method_3_code 1 = .ok (.istore_n 3, 1) := by decide +kernel
theorem od35_2 : decode method_3_code 2 = .ok (.aload_n 2, 1) := by decide +kernel
theorem od35_3 : decode method_3_code 3 = .ok (.invokevirtual 16, 3) := by decide +kernel
theorem od35_32 : decode method_3_code 32 = .ok (.aload_n 2, 1) := by decide +kernel
theorem od35_33 : decode method_3_code 33 = .ok (.invokevirtual 16, 3) := by decide +kernel
theorem od35_36 : decode method_3_code 36 = .ok (.iconst 1, 1) := by decide +kernel
theorem od35_65 : decode method_3_code 65 = .ok (.aload_n 2, 1) := by decide +kernel
theorem od35_66 : decode method_3_code 66 = .ok (.invokevirtual 16, 3) := by decide +kernel
theorem od35_69 : decode method_3_code 69 = .ok (.iconst 2, 1) := by decide +kernel
theorem od35_98 : decode method_3_code 98 = .ok (.aload_n 2, 1) := by decide +kernel
theorem od35_99 : decode method_3_code 99 = .ok (.invokevirtual 16, 3) := by decide +kernel
theorem od35_102 : decode method_3_code 102 = .ok (.iconst 3, 1) := by decide +kernel
theorem od35_131 : decode method_3_code 131 = .ok (.aload_n 2, 1) := by decide +kernel
theorem od35_132 : decode method_3_code 132 = .ok (.invokevirtual 16, 3) := by decide +kernel
theorem od35_135 : decode method_3_code 135 = .ok (.iconst 4, 1) := by decide +kernel
theorem od35_164 : decode method_3_code 164 = .ok (.aload_n 2, 1) := by decide +kernel
theorem od35_165 : decode method_3_code 165 = .ok (.invokevirtual 16, 3) := by decide +kernel
theorem od35_168 : decode method_3_code 168 = .ok (.iconst 5, 1) := by decide +kernel
theorem od35_197 : decode method_3_code 197 = .ok (.aload_n 2, 1) := by decide +kernel
theorem od35_198 : decode method_3_code 198 = .ok (.invokevirtual 16, 3) := by decide +kernel
theorem od35_201 : decode method_3_code 201 = .ok (.bipush 6, 2) := by decide +kernel
theorem od35_233 : decode method_3_code 233 = .ok (.iload_n 3, 1) := by decide +kernel
theorem od35_234 : decode method_3_code 234 = .ok (.ireturn, 1) := by decide +kernel
theorem od35_203 : decode method_3_code 203 = .ok (.if_icmp .le 30, 3) := by decide +kernel
theorem od35_206 : decode method_3_code 206 = .ok (.iload_n 3, 1) := by decide +kernel
theorem od35_207 : decode method_3_code 207 = .ok (.ifCond .eq 24, 3) := by decide +kernel
theorem od35_210 : decode method_3_code 210 = .ok (.aload_n 0, 1) := by decide +kernel
theorem od35_211 : decode method_3_code 211 = .ok (.iload_n 1, 1) := by decide +kernel
theorem od35_212 : decode method_3_code 212 = .ok (.bipush 6, 2) := by decide +kernel
theorem od35_214 : decode method_3_code 214 = .ok (.iadd, 1) := by decide +kernel
theorem od35_215 : decode method_3_code 215 = .ok (.invokevirtual 20, 3) := by decide +kernel
theorem own_pd27 : parseMethodDescriptor "(I)C" = some ⟨[.int], some .char⟩ := by decide +kernel
theorem od35_218 : decode method_3_code 218 = .ok (.aload_n 2, 1) := by decide +kernel
theorem od35_219 : decode method_3_code 219 = .ok (.bipush 6, 2) := by decide +kernel
theorem od35_221 : decode method_3_code 221 = .ok (.invokevirtual 20, 3) := by decide +kernel
theorem od35_224 : decode method_3_code 224 = .ok (.if_icmp .ne 7, 3) := by decide +kernel
theorem od35_227 : decode method_3_code 227 = .ok (.iconst 1, 1) := by decide +kernel
theorem od35_228 : decode method_3_code 228 = .ok (.goto 4, 3) := by decide +kernel
theorem od35_232 : decode method_3_code 232 = .ok (.istore_n 3, 1) := by decide +kernel
theorem od35_169 : decode method_3_code 169 = .ok (.if_icmp .le 28, 3) := by decide +kernel
theorem od35_172 : decode method_3_code 172 = .ok (.iload_n 3, 1) := by decide +kernel
theorem od35_173 : decode method_3_code 173 = .ok (.ifCond .eq 22, 3) := by decide +kernel
theorem od35_176 : decode method_3_code 176 = .ok (.aload_n 0, 1) := by decide +kernel
theorem od35_177 : decode method_3_code 177 = .ok (.iload_n 1, 1) := by decide +kernel
theorem od35_178 : decode method_3_code 178 = .ok (.iconst 5, 1) := by decide +kernel
theorem od35_179 : decode method_3_code 179 = .ok (.iadd, 1) := by decide +kernel
theorem od35_180 : decode method_3_code 180 = .ok (.invokevirtual 20, 3) := by decide +kernel
theorem od35_183 : decode method_3_code 183 = .ok (.aload_n 2, 1) := by decide +kernel
theorem od35_184 : decode method_3_code 184 = .ok (.iconst 5, 1) := by decide +kernel
theorem od35_185 : decode method_3_code 185 = .ok (.invokevirtual 20, 3) := by decide +kernel
theorem od35_188 : decode method_3_code 188 = .ok (.if_icmp .ne 7, 3) := by decide +kernel
theorem od35_191 : decode method_3_code 191 = .ok (.iconst 1, 1) := by decide +kernel
theorem od35_192 : decode method_3_code 192 = .ok (.goto 4, 3) := by decide +kernel
theorem od35_196 : decode method_3_code 196 = .ok (.istore_n 3, 1) := by decide +kernel
theorem od35_136 : decode method_3_code 136 = .ok (.if_icmp .le 28, 3) := by decide +kernel
theorem od35_139 : decode method_3_code 139 = .ok (.iload_n 3, 1) := by decide +kernel
theorem od35_140 : decode method_3_code 140 = .ok (.ifCond .eq 22, 3) := by decide +kernel
theorem od35_143 : decode method_3_code 143 = .ok (.aload_n 0, 1) := by decide +kernel
theorem od35_144 : decode method_3_code 144 = .ok (.iload_n 1, 1) := by decide +kernel
theorem od35_145 : decode method_3_code 145 = .ok (.iconst 4, 1) := by decide +kernel
theorem od35_146 : decode method_3_code 146 = .ok (.iadd, 1) := by decide +kernel
theorem od35_147 : decode method_3_code 147 = .ok (.invokevirtual 20, 3) := by decide +kernel
theorem od35_150 : decode method_3_code 150 = .ok (.aload_n 2, 1) := by decide +kernel
theorem od35_151 : decode method_3_code 151 = .ok (.iconst 4, 1) := by decide +kernel
theorem od35_152 : decode method_3_code 152 = .ok (.invokevirtual 20, 3) := by decide +kernel
theorem od35_155 : decode method_3_code 155 = .ok (.if_icmp .ne 7, 3) := by decide +kernel
theorem od35_158 : decode method_3_code 158 = .ok (.iconst 1, 1) := by decide +kernel
theorem od35_159 : decode method_3_code 159 = .ok (.goto 4, 3) := by decide +kernel
theorem od35_163 : decode method_3_code 163 = .ok (.istore_n 3, 1) := by decide +kernel
theorem od35_103 : decode method_3_code 103 = .ok (.if_icmp .le 28, 3) := by decide +kernel
theorem od35_106 : decode method_3_code 106 = .ok (.iload_n 3, 1) := by decide +kernel
theorem od35_107 : decode method_3_code 107 = .ok (.ifCond .eq 22, 3) := by decide +kernel
theorem od35_110 : decode method_3_code 110 = .ok (.aload_n 0, 1) := by decide +kernel
theorem od35_111 : decode method_3_code 111 = .ok (.iload_n 1, 1) := by decide +kernel
theorem od35_112 : decode method_3_code 112 = .ok (.iconst 3, 1) := by decide +kernel
theorem od35_113 : decode method_3_code 113 = .ok (.iadd, 1) := by decide +kernel
theorem od35_114 : decode method_3_code 114 = .ok (.invokevirtual 20, 3) := by decide +kernel
theorem od35_117 : decode method_3_code 117 = .ok (.aload_n 2, 1) := by decide +kernel
theorem od35_118 : decode method_3_code 118 = .ok (.iconst 3, 1) := by decide +kernel
theorem od35_119 : decode method_3_code 119 = .ok (.invokevirtual 20, 3) := by decide +kernel
theorem od35_122 : decode method_3_code 122 = .ok (.if_icmp .ne 7, 3) := by decide +kernel
theorem od35_125 : decode method_3_code 125 = .ok (.iconst 1, 1) := by decide +kernel
theorem od35_126 : decode method_3_code 126 = .ok (.goto 4, 3) := by decide +kernel
theorem od35_130 : decode method_3_code 130 = .ok (.istore_n 3, 1) := by decide +kernel
theorem od35_70 : decode method_3_code 70 = .ok (.if_icmp .le 28, 3) := by decide +kernel
theorem od35_73 : decode method_3_code 73 = .ok (.iload_n 3, 1) := by decide +kernel
theorem od35_74 : decode method_3_code 74 = .ok (.ifCond .eq 22, 3) := by decide +kernel
theorem od35_77 : decode method_3_code 77 = .ok (.aload_n 0, 1) := by decide +kernel
theorem od35_78 : decode method_3_code 78 = .ok (.iload_n 1, 1) := by decide +kernel
theorem od35_79 : decode method_3_code 79 = .ok (.iconst 2, 1) := by decide +kernel
theorem od35_80 : decode method_3_code 80 = .ok (.iadd, 1) := by decide +kernel
theorem od35_81 : decode method_3_code 81 = .ok (.invokevirtual 20, 3) := by decide +kernel
theorem od35_84 : decode method_3_code 84 = .ok (.aload_n 2, 1) := by decide +kernel
theorem od35_85 : decode method_3_code 85 = .ok (.iconst 2, 1) := by decide +kernel
theorem od35_86 : decode method_3_code 86 = .ok (.invokevirtual 20, 3) := by decide +kernel
theorem od35_89 : decode method_3_code 89 = .ok (.if_icmp .ne 7, 3) := by decide +kernel
theorem od35_92 : decode method_3_code 92 = .ok (.iconst 1, 1) := by decide +kernel
theorem od35_93 : decode method_3_code 93 = .ok (.goto 4, 3) := by decide +kernel
theorem od35_97 : decode method_3_code 97 = .ok (.istore_n 3, 1) := by decide +kernel
theorem od35_37 : decode method_3_code 37 = .ok (.if_icmp .le 28, 3) := by decide +kernel
theorem od35_40 : decode method_3_code 40 = .ok (.iload_n 3, 1) := by decide +kernel
theorem od35_41 : decode method_3_code 41 = .ok (.ifCond .eq 22, 3) := by decide +kernel
theorem od35_44 : decode method_3_code 44 = .ok (.aload_n 0, 1) := by decide +kernel
theorem od35_45 : decode method_3_code 45 = .ok (.iload_n 1, 1) := by decide +kernel
theorem od35_46 : decode method_3_code 46 = .ok (.iconst 1, 1) := by decide +kernel
theorem od35_47 : decode method_3_code 47 = .ok (.iadd, 1) := by decide +kernel
theorem od35_48 : decode method_3_code 48 = .ok (.invokevirtual 20, 3) := by decide +kernel
theorem od35_51 : decode method_3_code 51 = .ok (.aload_n 2, 1) := by decide +kernel
theorem od35_52 : decode method_3_code 52 = .ok (.iconst 1, 1) := by decide +kernel
theorem od35_53 : decode method_3_code 53 = .ok (.invokevirtual 20, 3) := by decide +kernel
theorem od35_56 : decode method_3_code 56 = .ok (.if_icmp .ne 7, 3) := by decide +kernel
theorem od35_59 : decode method_3_code 59 = .ok (.iconst 1, 1) := by decide +kernel
theorem od35_60 : decode method_3_code 60 = .ok (.goto 4, 3) := by decide +kernel
theorem od35_64 : decode method_3_code 64 = .ok (.istore_n 3, 1) := by decide +kernel
theorem od35_6 : decode method_3_code 6 = .ok (.ifCond .le 26, 3) := by decide +kernel
theorem od35_9 : decode method_3_code 9 = .ok (.iload_n 3, 1) := by decide +kernel
theorem od35_10 : decode method_3_code 10 = .ok (.ifCond .eq 20, 3) := by decide +kernel
theorem od35_13 : decode method_3_code 13 = .ok (.aload_n 0, 1) := by decide +kernel
theorem od35_14 : decode method_3_code 14 = .ok (.iload_n 1, 1) := by decide +kernel
theorem od35_15 : decode method_3_code 15 = .ok (.invokevirtual 20, 3) := by decide +kernel
theorem od35_18 : decode method_3_code 18 = .ok (.aload_n 2, 1) := by decide +kernel
theorem od35_19 : decode method_3_code 19 = .ok (.iconst 0, 1) := by decide +kernel
theorem od35_20 : decode method_3_code 20 = .ok (.invokevirtual 20, 3) := by decide +kernel
theorem od35_23 : decode method_3_code 23 = .ok (.if_icmp .ne 7, 3) := by decide +kernel
theorem od35_26 : decode method_3_code 26 = .ok (.iconst 1, 1) := by decide +kernel
theorem od35_27 : decode method_3_code 27 = .ok (.goto 4, 3) := by decide +kernel
theorem od35_31 : decode method_3_code 31 = .ok (.istore_n 3, 1) := by decide +kernel
def Q_rm_strAt (Z : State) (g_CS : Int32) (g_SF : Value) (p0 : Addr) (p1 : Int32) (p2 : Addr) (rcs : List Int32) (rv : Addr) (rk : ClassId) (scs : List Int32) (sv : Addr) (sk : ClassId) (kk : Nat) (h0 : Heap) (n0 : Nat) (v : Option Value) (h : Heap) (L : List Loc) : Prop := v = some (.int (1 : Int32)) ∧ Fr n0 L ∧ h = h0
set_option maxRecDepth 65536 in
set_option maxHeartbeats 40000000 in
theorem rm_strAt (l : Launch) (Z : State) (a0 : Array Value) (hw : ∀ d ∈ tables_1, d.before a0 Z = true) (ws : List Jvm.Cond) (g_CS : Int32) (S_CS : Sta Z Z.heap "java/lang/String" "COMPACT_STRINGS" "Z" (.int g_CS)) (nz_CS : ¬ (g_CS = (0 : Int32))) (g_SF : Value) (S_SF : Sta Z Z.heap "jdk/internal/util/Preconditions" "SIOOBE_FORMATTER" "Ljava/util/function/BiFunction;" g_SF) (r_SF : g_SF.isRef = true) (p0 : Addr) (p1 : Int32) (p2 : Addr) (rcs : List Int32) (rv : Addr) (rk : ClassId) (scs : List Int32) (sv : Addr) (sk : ClassId) (kk : Nat) (h0 : Heap) (n0 : Nat) (X00 : Old Z n0 h0) (hp0 : Exa Z h0 p0 "java/lang/String") (hp1 : Fld Z h0 p0 "java/lang/String" "coder" "B" (.int (0 : Int32))) (hp2 : Fld Z h0 p0 "java/lang/String" "value" "[B" (.ref rv)) (hp3 : Arv Z h0 rv rk .byte (Int32.ofNat rcs.length) ((rcs.map StrChars.lo8).map Value.int) (.int (0 : Int32))) (hpcr : ∀ c ∈ rcs, ¬ c < 0 ∧ ¬ (255 : Int32) < c) (hler : rcs.length ≤ 4000) (hp6 : Exa Z h0 p2 "java/lang/String") (hp7 : Fld Z h0 p2 "java/lang/String" "coder" "B" (.int (0 : Int32))) (hp8 : Fld Z h0 p2 "java/lang/String" "value" "[B" (.ref sv)) (hp9 : Arv Z h0 sv sk .byte (Int32.ofNat scs.length) ((scs.map StrChars.lo8).map Value.int) (.int (0 : Int32))) (hpcs : ∀ c ∈ scs, ¬ c < 0 ∧ ¬ (255 : Int32) < c) (hles : scs.length ≤ 4000) (hk : p1 = Int32.ofNat kk) (hsub : ∀ i, i < scs.length → kk + i < rcs.length ∧ rcs.getD (kk + i) 0 = scs.getD i 0) :
    MetFree l (⟨"com/example/strikeboard/strikeboard/engine/UnusedToStringPinLaw", "strAt", "(Ljava/lang/String;ILjava/lang/String;)Z"⟩ : MethodName) (head1 (Jvm.Cond.code (⟨"com/example/strikeboard/strikeboard/engine/UnusedToStringPinLaw", "strAt", "(Ljava/lang/String;ILjava/lang/String;)Z"⟩ : MethodName) method_3_code 4 (some .boolean) :: ws) ({ frames := 4, cells := 0, slots := 0, locals := 54 } : Room)) (fun a U => a = #[(.ref p0), (.int p1), (.ref p2)] ∧ Z.Warmed39 U.vm ∧ U.heap = h0) (fun _ _ _ _ _ => True) (fun _ U o U' => ∃ v L, o = .returned v ∧ Q_rm_strAt Z g_CS g_SF p0 p1 p2 rcs rv rk scs sv sk kk h0 n0 v U'.heap L ∧ FrameEnd U o U' L ({ frames := 4, cells := 0, slots := 0, locals := 54 } : Room).cells ({ frames := 4, cells := 0, slots := 0, locals := 54 } : Room).slots) := by
  refine MetFree.of_bodySF (plainFor_of_name own_pn8) hisR ?_
  intro p e s m args below meth c s₁ Bd hml0 hP hK
  obtain ⟨rfl, hZ, hh⟩ := hP
  have hx := Bd.exec
  have hby := Bd.bytes
  have hml : c.maxLocals = 4 := hml0
  have hown : s.vm.findClass "com/example/strikeboard/strikeboard/engine/UnusedToStringPinLaw" = some m.cls := findClass_of_methodNamed Bd.named
  have hnm := (name_of_methodNamed Bd.named Bd.method).1
  have X0 : Stand p l e ({ frames := 4, cells := 0, slots := 0, locals := 54 } : Room) s m #[(.ref p0), (.int p1), (.ref p2)] below meth c s₁ [] 0 0 := Stand.of_body Bd
  have e0 : s₁.heap = h0 := by rw [← hh, Bd.state]; rfl
  have N0 := Fr.nil n0
  refine Go.start fun P hPend => ?_
  refine Go.st (fun _ k => castTop (own_ef_rm_strAt m p0 p1 p2) k) ?_
  show Go _ _ _ _ (s₁.setTop (mkF m 0 #[lR p0, lI p1, lR p2, lU] []))
  refine Go.st (fun _ => XS.iconst X0.here hx rfl (hb hby od35_0)) ?_
  show Go _ _ _ _ (s₁.setTop (mkF m 1 #[lR p0, lI p1, lR p2, lU] [(.int (1 : Int32))]))
  refine Go.st (fun _ => XS.istoreN X0.here hx rfl (hb hby od35_1) rfl (l' := #[.val (.ref p0), .val (.int p1), .val (.ref p2), .val (.int (1 : Int32))]) rfl) ?_
  show Go _ _ _ _ (s₁.setTop (mkF m 2 #[lR p0, lI p1, lR p2, lI (1 : Int32)] []))
  refine Go.st (fun _ => XS.aloadN X0.here hx rfl (hb hby od35_2) rfl rfl) ?_
  show Go _ _ _ _ (s₁.setTop (mkF m 3 #[lR p0, lI p1, lR p2, lI (1 : Int32)] [(.ref p2)]))
  have hcd1 : StrChars.Road.CodA scs 0 (Int32.ofNat scs.length) ((scs.map StrChars.lo8).map Value.int) := StrChars.Road.codOf (n := scs.length) rfl (fun c hc => (hpcs c hc).2)
  obtain ⟨cq1, kq1, q1a, q1b, q1c⟩ := isOf hZ e0 hp6
  obtain ⟨_, _, ⟨T1, L1, k1, n1⟩, -, X1, ⟨Lc1, hQ1, l1, y1, z1⟩, st1⟩ := X0.virtualBack hx (y := (⟨"java/lang/String", "length", "()I"⟩ : MethodName)) (z := (⟨"java/lang/String", "length", "()I"⟩ : MethodName)) hown (mvT hZ (ow hw 197 rfl)) (mvT hZ (ow hw 97 rfl)) (notFace_of_selects (args := #[]) (mvT hZ (ow hw 99 rfl))) (mvT hZ (ow hw 99 rfl)) (mvT hZ (ow hw 98 rfl)) (by decide) (StrChars.Road.lenW (W := 0) hZ (fun d hd => hw d (own_wLen d hd)) (kI := 4) (ow hw 5 rfl) hp6 hp8 hp7 hp9 hcd1 (own_up _ hpcs) (S_CS.ext X00.2) nz_CS hles (by decide) (by decide)) q1a q1c (g := (mkF m 3 #[.val (.ref p0), .val (.int p1), .val (.ref p2), .val (.int (1 : Int32))] [(.ref p2)])) rfl (by rw [hml]; rfl) (Steps.refl _) (argsL := []) (rest := []) (lenOf own_pd8 rfl) rfl (by show 2 * 0 + _ ≤ _; exact Nat.le_of_eq rfl) (hb hby od35_3) (fun _ _ => ⟨rfl, e0, (by decide : 0 + 0 ≤ _), (by decide : 0 + 0 ≤ _)⟩)
  dsimp only [Pt.U, Pt.locs, Pt.cells, Pt.slots] at X1 l1 y1 z1 st1 hQ1
  subst y1 z1
  refine Go.tr st1 ?_
  obtain ⟨rfl, rfl, e1⟩ := hQ1
  have N1 : Fr n0 L1 := by rw [l1]; exact Fr.app N0 (Fr.nil n0)
  show Go _ _ _ _ (T1.setTop (mkF m 6 #[lR p0, lI p1, lR p2, lI (1 : Int32)] [(.int (Int32.ofNat scs.length))]))
  have J2 : ∀ (Tj2 : State) (Lj2 : List Loc) (Xj2 : Stand p l e ({ frames := 4, cells := 0, slots := 0, locals := 54 } : Room) s m #[(.ref p0), (.int p1), (.ref p2)] below meth c Tj2 Lj2 0 0) (ej2 : Tj2.heap = h0) (Nj2 : Fr n0 Lj2), Go p.tables e below P (Tj2.setTop (mkF m 32 #[.val (.ref p0), .val (.int p1), .val (.ref p2), .val (.int (1 : Int32))] [])) := by
    intro Tj2 Lj2 Xj2 ej2 Nj2
    show Go _ _ _ _ (Tj2.setTop (mkF m 32 #[lR p0, lI p1, lR p2, lI (1 : Int32)] []))
    refine Go.st (fun _ => XS.aloadN Xj2.here hx rfl (hb hby od35_32) rfl rfl) ?_
    show Go _ _ _ _ (Tj2.setTop (mkF m 33 #[lR p0, lI p1, lR p2, lI (1 : Int32)] [(.ref p2)]))
    have hcd3 : StrChars.Road.CodA scs 0 (Int32.ofNat scs.length) ((scs.map StrChars.lo8).map Value.int) := StrChars.Road.codOf (n := scs.length) rfl (fun c hc => (hpcs c hc).2)
    obtain ⟨cq3, kq3, q3a, q3b, q3c⟩ := isOf hZ ej2 hp6
    obtain ⟨_, _, ⟨T3, L3, k3, n3⟩, -, X3, ⟨Lc3, hQ3, l3, y3, z3⟩, st3⟩ := Xj2.virtualBack hx (y := (⟨"java/lang/String", "length", "()I"⟩ : MethodName)) (z := (⟨"java/lang/String", "length", "()I"⟩ : MethodName)) hown (mvT hZ (ow hw 197 rfl)) (mvT hZ (ow hw 97 rfl)) (notFace_of_selects (args := #[]) (mvT hZ (ow hw 99 rfl))) (mvT hZ (ow hw 99 rfl)) (mvT hZ (ow hw 98 rfl)) (by decide) (StrChars.Road.lenW (W := 0) hZ (fun d hd => hw d (own_wLen d hd)) (kI := 4) (ow hw 5 rfl) hp6 hp8 hp7 hp9 hcd3 (own_up _ hpcs) (S_CS.ext X00.2) nz_CS hles (by decide) (by decide)) q3a q3c (g := (mkF m 33 #[.val (.ref p0), .val (.int p1), .val (.ref p2), .val (.int (1 : Int32))] [(.ref p2)])) rfl (by rw [hml]; rfl) (Steps.refl _) (argsL := []) (rest := []) (lenOf own_pd8 rfl) rfl (by show 2 * 0 + _ ≤ _; exact Nat.le_of_eq rfl) (hb hby od35_33) (fun _ _ => ⟨rfl, ej2, (by decide : 0 + 0 ≤ _), (by decide : 0 + 0 ≤ _)⟩)
    dsimp only [Pt.U, Pt.locs, Pt.cells, Pt.slots] at X3 l3 y3 z3 st3 hQ3
    subst y3 z3
    refine Go.tr st3 ?_
    obtain ⟨rfl, rfl, e3⟩ := hQ3
    have N3 : Fr n0 L3 := by rw [l3]; exact Fr.app Nj2 (Fr.nil n0)
    show Go _ _ _ _ (T3.setTop (mkF m 36 #[lR p0, lI p1, lR p2, lI (1 : Int32)] [(.int (Int32.ofNat scs.length))]))
    refine Go.st (fun _ => XS.iconst X3.here hx rfl (hb hby od35_36)) ?_
    show Go _ _ _ _ (T3.setTop (mkF m 37 #[lR p0, lI p1, lR p2, lI (1 : Int32)] [(.int (1 : Int32)), (.int (Int32.ofNat scs.length))]))
    have J4 : ∀ (Tj4 : State) (Lj4 : List Loc) (Xj4 : Stand p l e ({ frames := 4, cells := 0, slots := 0, locals := 54 } : Room) s m #[(.ref p0), (.int p1), (.ref p2)] below meth c Tj4 Lj4 0 0) (ej4 : Tj4.heap = h0) (Nj4 : Fr n0 Lj4), Go p.tables e below P (Tj4.setTop (mkF m 65 #[.val (.ref p0), .val (.int p1), .val (.ref p2), .val (.int (1 : Int32))] [])) := by
      intro Tj4 Lj4 Xj4 ej4 Nj4
      show Go _ _ _ _ (Tj4.setTop (mkF m 65 #[lR p0, lI p1, lR p2, lI (1 : Int32)] []))
      refine Go.st (fun _ => XS.aloadN Xj4.here hx rfl (hb hby od35_65) rfl rfl) ?_
      show Go _ _ _ _ (Tj4.setTop (mkF m 66 #[lR p0, lI p1, lR p2, lI (1 : Int32)] [(.ref p2)]))
      have hcd5 : StrChars.Road.CodA scs 0 (Int32.ofNat scs.length) ((scs.map StrChars.lo8).map Value.int) := StrChars.Road.codOf (n := scs.length) rfl (fun c hc => (hpcs c hc).2)
      obtain ⟨cq5, kq5, q5a, q5b, q5c⟩ := isOf hZ ej4 hp6
      obtain ⟨_, _, ⟨T5, L5, k5, n5⟩, -, X5, ⟨Lc5, hQ5, l5, y5, z5⟩, st5⟩ := Xj4.virtualBack hx (y := (⟨"java/lang/String", "length", "()I"⟩ : MethodName)) (z := (⟨"java/lang/String", "length", "()I"⟩ : MethodName)) hown (mvT hZ (ow hw 197 rfl)) (mvT hZ (ow hw 97 rfl)) (notFace_of_selects (args := #[]) (mvT hZ (ow hw 99 rfl))) (mvT hZ (ow hw 99 rfl)) (mvT hZ (ow hw 98 rfl)) (by decide) (StrChars.Road.lenW (W := 0) hZ (fun d hd => hw d (own_wLen d hd)) (kI := 4) (ow hw 5 rfl) hp6 hp8 hp7 hp9 hcd5 (own_up _ hpcs) (S_CS.ext X00.2) nz_CS hles (by decide) (by decide)) q5a q5c (g := (mkF m 66 #[.val (.ref p0), .val (.int p1), .val (.ref p2), .val (.int (1 : Int32))] [(.ref p2)])) rfl (by rw [hml]; rfl) (Steps.refl _) (argsL := []) (rest := []) (lenOf own_pd8 rfl) rfl (by show 2 * 0 + _ ≤ _; exact Nat.le_of_eq rfl) (hb hby od35_66) (fun _ _ => ⟨rfl, ej4, (by decide : 0 + 0 ≤ _), (by decide : 0 + 0 ≤ _)⟩)
      dsimp only [Pt.U, Pt.locs, Pt.cells, Pt.slots] at X5 l5 y5 z5 st5 hQ5
      subst y5 z5
      refine Go.tr st5 ?_
      obtain ⟨rfl, rfl, e5⟩ := hQ5
      have N5 : Fr n0 L5 := by rw [l5]; exact Fr.app Nj4 (Fr.nil n0)
      show Go _ _ _ _ (T5.setTop (mkF m 69 #[lR p0, lI p1, lR p2, lI (1 : Int32)] [(.int (Int32.ofNat scs.length))]))
      refine Go.st (fun _ => XS.iconst X5.here hx rfl (hb hby od35_69)) ?_
      show Go _ _ _ _ (T5.setTop (mkF m 70 #[lR p0, lI p1, lR p2, lI (1 : Int32)] [(.int (2 : Int32)), (.int (Int32.ofNat scs.length))]))
      have J6 : ∀ (Tj6 : State) (Lj6 : List Loc) (Xj6 : Stand p l e ({ frames := 4, cells := 0, slots := 0, locals := 54 } : Room) s m #[(.ref p0), (.int p1), (.ref p2)] below meth c Tj6 Lj6 0 0) (ej6 : Tj6.heap = h0) (Nj6 : Fr n0 Lj6), Go p.tables e below P (Tj6.setTop (mkF m 98 #[.val (.ref p0), .val (.int p1), .val (.ref p2), .val (.int (1 : Int32))] [])) := by
        intro Tj6 Lj6 Xj6 ej6 Nj6
        show Go _ _ _ _ (Tj6.setTop (mkF m 98 #[lR p0, lI p1, lR p2, lI (1 : Int32)] []))
        refine Go.st (fun _ => XS.aloadN Xj6.here hx rfl (hb hby od35_98) rfl rfl) ?_
        show Go _ _ _ _ (Tj6.setTop (mkF m 99 #[lR p0, lI p1, lR p2, lI (1 : Int32)] [(.ref p2)]))
        have hcd7 : StrChars.Road.CodA scs 0 (Int32.ofNat scs.length) ((scs.map StrChars.lo8).map Value.int) := StrChars.Road.codOf (n := scs.length) rfl (fun c hc => (hpcs c hc).2)
        obtain ⟨cq7, kq7, q7a, q7b, q7c⟩ := isOf hZ ej6 hp6
        obtain ⟨_, _, ⟨T7, L7, k7, n7⟩, -, X7, ⟨Lc7, hQ7, l7, y7, z7⟩, st7⟩ := Xj6.virtualBack hx (y := (⟨"java/lang/String", "length", "()I"⟩ : MethodName)) (z := (⟨"java/lang/String", "length", "()I"⟩ : MethodName)) hown (mvT hZ (ow hw 197 rfl)) (mvT hZ (ow hw 97 rfl)) (notFace_of_selects (args := #[]) (mvT hZ (ow hw 99 rfl))) (mvT hZ (ow hw 99 rfl)) (mvT hZ (ow hw 98 rfl)) (by decide) (StrChars.Road.lenW (W := 0) hZ (fun d hd => hw d (own_wLen d hd)) (kI := 4) (ow hw 5 rfl) hp6 hp8 hp7 hp9 hcd7 (own_up _ hpcs) (S_CS.ext X00.2) nz_CS hles (by decide) (by decide)) q7a q7c (g := (mkF m 99 #[.val (.ref p0), .val (.int p1), .val (.ref p2), .val (.int (1 : Int32))] [(.ref p2)])) rfl (by rw [hml]; rfl) (Steps.refl _) (argsL := []) (rest := []) (lenOf own_pd8 rfl) rfl (by show 2 * 0 + _ ≤ _; exact Nat.le_of_eq rfl) (hb hby od35_99) (fun _ _ => ⟨rfl, ej6, (by decide : 0 + 0 ≤ _), (by decide : 0 + 0 ≤ _)⟩)
        dsimp only [Pt.U, Pt.locs, Pt.cells, Pt.slots] at X7 l7 y7 z7 st7 hQ7
        subst y7 z7
        refine Go.tr st7 ?_
        obtain ⟨rfl, rfl, e7⟩ := hQ7
        have N7 : Fr n0 L7 := by rw [l7]; exact Fr.app Nj6 (Fr.nil n0)
        show Go _ _ _ _ (T7.setTop (mkF m 102 #[lR p0, lI p1, lR p2, lI (1 : Int32)] [(.int (Int32.ofNat scs.length))]))
        refine Go.st (fun _ => XS.iconst X7.here hx rfl (hb hby od35_102)) ?_
        show Go _ _ _ _ (T7.setTop (mkF m 103 #[lR p0, lI p1, lR p2, lI (1 : Int32)] [(.int (3 : Int32)), (.int (Int32.ofNat scs.length))]))
        have J8 : ∀ (Tj8 : State) (Lj8 : List Loc) (Xj8 : Stand p l e ({ frames := 4, cells := 0, slots := 0, locals := 54 } : Room) s m #[(.ref p0), (.int p1), (.ref p2)] below meth c Tj8 Lj8 0 0) (ej8 : Tj8.heap = h0) (Nj8 : Fr n0 Lj8), Go p.tables e below P (Tj8.setTop (mkF m 131 #[.val (.ref p0), .val (.int p1), .val (.ref p2), .val (.int (1 : Int32))] [])) := by
          intro Tj8 Lj8 Xj8 ej8 Nj8
          show Go _ _ _ _ (Tj8.setTop (mkF m 131 #[lR p0, lI p1, lR p2, lI (1 : Int32)] []))
          refine Go.st (fun _ => XS.aloadN Xj8.here hx rfl (hb hby od35_131) rfl rfl) ?_
          show Go _ _ _ _ (Tj8.setTop (mkF m 132 #[lR p0, lI p1, lR p2, lI (1 : Int32)] [(.ref p2)]))
          have hcd9 : StrChars.Road.CodA scs 0 (Int32.ofNat scs.length) ((scs.map StrChars.lo8).map Value.int) := StrChars.Road.codOf (n := scs.length) rfl (fun c hc => (hpcs c hc).2)
          obtain ⟨cq9, kq9, q9a, q9b, q9c⟩ := isOf hZ ej8 hp6
          obtain ⟨_, _, ⟨T9, L9, k9, n9⟩, -, X9, ⟨Lc9, hQ9, l9, y9, z9⟩, st9⟩ := Xj8.virtualBack hx (y := (⟨"java/lang/String", "length", "()I"⟩ : MethodName)) (z := (⟨"java/lang/String", "length", "()I"⟩ : MethodName)) hown (mvT hZ (ow hw 197 rfl)) (mvT hZ (ow hw 97 rfl)) (notFace_of_selects (args := #[]) (mvT hZ (ow hw 99 rfl))) (mvT hZ (ow hw 99 rfl)) (mvT hZ (ow hw 98 rfl)) (by decide) (StrChars.Road.lenW (W := 0) hZ (fun d hd => hw d (own_wLen d hd)) (kI := 4) (ow hw 5 rfl) hp6 hp8 hp7 hp9 hcd9 (own_up _ hpcs) (S_CS.ext X00.2) nz_CS hles (by decide) (by decide)) q9a q9c (g := (mkF m 132 #[.val (.ref p0), .val (.int p1), .val (.ref p2), .val (.int (1 : Int32))] [(.ref p2)])) rfl (by rw [hml]; rfl) (Steps.refl _) (argsL := []) (rest := []) (lenOf own_pd8 rfl) rfl (by show 2 * 0 + _ ≤ _; exact Nat.le_of_eq rfl) (hb hby od35_132) (fun _ _ => ⟨rfl, ej8, (by decide : 0 + 0 ≤ _), (by decide : 0 + 0 ≤ _)⟩)
          dsimp only [Pt.U, Pt.locs, Pt.cells, Pt.slots] at X9 l9 y9 z9 st9 hQ9
          subst y9 z9
          refine Go.tr st9 ?_
          obtain ⟨rfl, rfl, e9⟩ := hQ9
          have N9 : Fr n0 L9 := by rw [l9]; exact Fr.app Nj8 (Fr.nil n0)
          show Go _ _ _ _ (T9.setTop (mkF m 135 #[lR p0, lI p1, lR p2, lI (1 : Int32)] [(.int (Int32.ofNat scs.length))]))
          refine Go.st (fun _ => XS.iconst X9.here hx rfl (hb hby od35_135)) ?_
          show Go _ _ _ _ (T9.setTop (mkF m 136 #[lR p0, lI p1, lR p2, lI (1 : Int32)] [(.int (4 : Int32)), (.int (Int32.ofNat scs.length))]))
          have J10 : ∀ (Tj10 : State) (Lj10 : List Loc) (Xj10 : Stand p l e ({ frames := 4, cells := 0, slots := 0, locals := 54 } : Room) s m #[(.ref p0), (.int p1), (.ref p2)] below meth c Tj10 Lj10 0 0) (ej10 : Tj10.heap = h0) (Nj10 : Fr n0 Lj10), Go p.tables e below P (Tj10.setTop (mkF m 164 #[.val (.ref p0), .val (.int p1), .val (.ref p2), .val (.int (1 : Int32))] [])) := by
            intro Tj10 Lj10 Xj10 ej10 Nj10
            show Go _ _ _ _ (Tj10.setTop (mkF m 164 #[lR p0, lI p1, lR p2, lI (1 : Int32)] []))
            refine Go.st (fun _ => XS.aloadN Xj10.here hx rfl (hb hby od35_164) rfl rfl) ?_
            show Go _ _ _ _ (Tj10.setTop (mkF m 165 #[lR p0, lI p1, lR p2, lI (1 : Int32)] [(.ref p2)]))
            have hcd11 : StrChars.Road.CodA scs 0 (Int32.ofNat scs.length) ((scs.map StrChars.lo8).map Value.int) := StrChars.Road.codOf (n := scs.length) rfl (fun c hc => (hpcs c hc).2)
            obtain ⟨cq11, kq11, q11a, q11b, q11c⟩ := isOf hZ ej10 hp6
            obtain ⟨_, _, ⟨T11, L11, k11, n11⟩, -, X11, ⟨Lc11, hQ11, l11, y11, z11⟩, st11⟩ := Xj10.virtualBack hx (y := (⟨"java/lang/String", "length", "()I"⟩ : MethodName)) (z := (⟨"java/lang/String", "length", "()I"⟩ : MethodName)) hown (mvT hZ (ow hw 197 rfl)) (mvT hZ (ow hw 97 rfl)) (notFace_of_selects (args := #[]) (mvT hZ (ow hw 99 rfl))) (mvT hZ (ow hw 99 rfl)) (mvT hZ (ow hw 98 rfl)) (by decide) (StrChars.Road.lenW (W := 0) hZ (fun d hd => hw d (own_wLen d hd)) (kI := 4) (ow hw 5 rfl) hp6 hp8 hp7 hp9 hcd11 (own_up _ hpcs) (S_CS.ext X00.2) nz_CS hles (by decide) (by decide)) q11a q11c (g := (mkF m 165 #[.val (.ref p0), .val (.int p1), .val (.ref p2), .val (.int (1 : Int32))] [(.ref p2)])) rfl (by rw [hml]; rfl) (Steps.refl _) (argsL := []) (rest := []) (lenOf own_pd8 rfl) rfl (by show 2 * 0 + _ ≤ _; exact Nat.le_of_eq rfl) (hb hby od35_165) (fun _ _ => ⟨rfl, ej10, (by decide : 0 + 0 ≤ _), (by decide : 0 + 0 ≤ _)⟩)
            dsimp only [Pt.U, Pt.locs, Pt.cells, Pt.slots] at X11 l11 y11 z11 st11 hQ11
            subst y11 z11
            refine Go.tr st11 ?_
            obtain ⟨rfl, rfl, e11⟩ := hQ11
            have N11 : Fr n0 L11 := by rw [l11]; exact Fr.app Nj10 (Fr.nil n0)
            show Go _ _ _ _ (T11.setTop (mkF m 168 #[lR p0, lI p1, lR p2, lI (1 : Int32)] [(.int (Int32.ofNat scs.length))]))
            refine Go.st (fun _ => XS.iconst X11.here hx rfl (hb hby od35_168)) ?_
            show Go _ _ _ _ (T11.setTop (mkF m 169 #[lR p0, lI p1, lR p2, lI (1 : Int32)] [(.int (5 : Int32)), (.int (Int32.ofNat scs.length))]))
            have J12 : ∀ (Tj12 : State) (Lj12 : List Loc) (Xj12 : Stand p l e ({ frames := 4, cells := 0, slots := 0, locals := 54 } : Room) s m #[(.ref p0), (.int p1), (.ref p2)] below meth c Tj12 Lj12 0 0) (ej12 : Tj12.heap = h0) (Nj12 : Fr n0 Lj12), Go p.tables e below P (Tj12.setTop (mkF m 197 #[.val (.ref p0), .val (.int p1), .val (.ref p2), .val (.int (1 : Int32))] [])) := by
              intro Tj12 Lj12 Xj12 ej12 Nj12
              show Go _ _ _ _ (Tj12.setTop (mkF m 197 #[lR p0, lI p1, lR p2, lI (1 : Int32)] []))
              refine Go.st (fun _ => XS.aloadN Xj12.here hx rfl (hb hby od35_197) rfl rfl) ?_
              show Go _ _ _ _ (Tj12.setTop (mkF m 198 #[lR p0, lI p1, lR p2, lI (1 : Int32)] [(.ref p2)]))
              have hcd13 : StrChars.Road.CodA scs 0 (Int32.ofNat scs.length) ((scs.map StrChars.lo8).map Value.int) := StrChars.Road.codOf (n := scs.length) rfl (fun c hc => (hpcs c hc).2)
              obtain ⟨cq13, kq13, q13a, q13b, q13c⟩ := isOf hZ ej12 hp6
              obtain ⟨_, _, ⟨T13, L13, k13, n13⟩, -, X13, ⟨Lc13, hQ13, l13, y13, z13⟩, st13⟩ := Xj12.virtualBack hx (y := (⟨"java/lang/String", "length", "()I"⟩ : MethodName)) (z := (⟨"java/lang/String", "length", "()I"⟩ : MethodName)) hown (mvT hZ (ow hw 197 rfl)) (mvT hZ (ow hw 97 rfl)) (notFace_of_selects (args := #[]) (mvT hZ (ow hw 99 rfl))) (mvT hZ (ow hw 99 rfl)) (mvT hZ (ow hw 98 rfl)) (by decide) (StrChars.Road.lenW (W := 0) hZ (fun d hd => hw d (own_wLen d hd)) (kI := 4) (ow hw 5 rfl) hp6 hp8 hp7 hp9 hcd13 (own_up _ hpcs) (S_CS.ext X00.2) nz_CS hles (by decide) (by decide)) q13a q13c (g := (mkF m 198 #[.val (.ref p0), .val (.int p1), .val (.ref p2), .val (.int (1 : Int32))] [(.ref p2)])) rfl (by rw [hml]; rfl) (Steps.refl _) (argsL := []) (rest := []) (lenOf own_pd8 rfl) rfl (by show 2 * 0 + _ ≤ _; exact Nat.le_of_eq rfl) (hb hby od35_198) (fun _ _ => ⟨rfl, ej12, (by decide : 0 + 0 ≤ _), (by decide : 0 + 0 ≤ _)⟩)
              dsimp only [Pt.U, Pt.locs, Pt.cells, Pt.slots] at X13 l13 y13 z13 st13 hQ13
              subst y13 z13
              refine Go.tr st13 ?_
              obtain ⟨rfl, rfl, e13⟩ := hQ13
              have N13 : Fr n0 L13 := by rw [l13]; exact Fr.app Nj12 (Fr.nil n0)
              show Go _ _ _ _ (T13.setTop (mkF m 201 #[lR p0, lI p1, lR p2, lI (1 : Int32)] [(.int (Int32.ofNat scs.length))]))
              refine Go.st (fun _ => XS.bipush X13.here hx rfl (hb hby od35_201)) ?_
              show Go _ _ _ _ (T13.setTop (mkF m 203 #[lR p0, lI p1, lR p2, lI (1 : Int32)] [(.int (6 : Int32)), (.int (Int32.ofNat scs.length))]))
              have J14 : ∀ (Tj14 : State) (Lj14 : List Loc) (Xj14 : Stand p l e ({ frames := 4, cells := 0, slots := 0, locals := 54 } : Room) s m #[(.ref p0), (.int p1), (.ref p2)] below meth c Tj14 Lj14 0 0) (ej14 : Tj14.heap = h0) (Nj14 : Fr n0 Lj14), Go p.tables e below P (Tj14.setTop (mkF m 233 #[.val (.ref p0), .val (.int p1), .val (.ref p2), .val (.int (1 : Int32))] [])) := by
                intro Tj14 Lj14 Xj14 ej14 Nj14
                show Go _ _ _ _ (Tj14.setTop (mkF m 233 #[lR p0, lI p1, lR p2, lI (1 : Int32)] []))
                refine Go.st (fun _ => XS.iloadN Xj14.here hx rfl (hb hby od35_233) rfl) ?_
                show Go _ _ _ _ (Tj14.setTop (mkF m 234 #[lR p0, lI p1, lR p2, lI (1 : Int32)] [(.int (1 : Int32))]))
                obtain ⟨fs, hr, hrun, hended, hW, hsame⟩ := Xj14.leave (v := some (.int (1 : Int32))) (fun h => by rw [Bd.returns] at h; cases h)
                refine ⟨_, ?_, hPend _ _ hrun hended ⟨_, _, rfl, ?_, ⟨_, rfl⟩, hW, hsame.mono (by decide) (by decide)⟩⟩
                · exact retN Xj14 hx (t := .boolean) Bd.returns (by simp) (hb hby od35_234) hr
                · show Q_rm_strAt Z _ _ _ _ _ _ _ _ _ _ _ _ h0 n0 _ Tj14.heap _
                  rw [ej14]
                  exact ⟨rfl, Nj14, rfl⟩
              by_cases hc15 : (6 : Int32) < (Int32.ofNat scs.length)
              · skip
                have hl_6 : 6 < scs.length := own_gtlen (j := 6) hc15 hles (by decide)
                refine Go.st (fun _ => XS.icmpNo X13.here hx rfl (hb hby od35_203) rfl (tlt hc15).2.2.2) ?_
                show Go _ _ _ _ (T13.setTop (mkF m 206 #[lR p0, lI p1, lR p2, lI (1 : Int32)] []))
                refine Go.st (fun _ => XS.iloadN X13.here hx rfl (hb hby od35_206) rfl) ?_
                show Go _ _ _ _ (T13.setTop (mkF m 207 #[lR p0, lI p1, lR p2, lI (1 : Int32)] [(.int (1 : Int32))]))
                refine Go.st (fun _ => XS.ifNo X13.here hx rfl (hb hby od35_207) rfl ((if0 _ _).trans (feq (by decide)).1)) ?_
                show Go _ _ _ _ (T13.setTop (mkF m 210 #[lR p0, lI p1, lR p2, lI (1 : Int32)] []))
                refine Go.st (fun _ => XS.aloadN X13.here hx rfl (hb hby od35_210) rfl rfl) ?_
                show Go _ _ _ _ (T13.setTop (mkF m 211 #[lR p0, lI p1, lR p2, lI (1 : Int32)] [(.ref p0)]))
                refine Go.st (fun _ => XS.iloadN X13.here hx rfl (hb hby od35_211) rfl) ?_
                show Go _ _ _ _ (T13.setTop (mkF m 212 #[lR p0, lI p1, lR p2, lI (1 : Int32)] [(.int p1), (.ref p0)]))
                refine Go.st (fun _ => XS.bipush X13.here hx rfl (hb hby od35_212)) ?_
                show Go _ _ _ _ (T13.setTop (mkF m 214 #[lR p0, lI p1, lR p2, lI (1 : Int32)] [(.int (6 : Int32)), (.int p1), (.ref p0)]))
                refine Go.st (fun _ => XS.iadd X13.here hx rfl (hb hby od35_214) rfl) ?_
                show Go _ _ _ _ (T13.setTop (mkF m 215 #[lR p0, lI p1, lR p2, lI (1 : Int32)] [(.int (p1 + (6 : Int32))), (.ref p0)]))
                have hcd16 : StrChars.Road.CodA rcs 0 (Int32.ofNat rcs.length) ((rcs.map StrChars.lo8).map Value.int) := StrChars.Road.codOf (n := rcs.length) rfl (fun c hc => (hpcr c hc).2)
                obtain ⟨cq16, kq16, q16a, q16b, q16c⟩ := isOf hZ e13 hp0
                obtain ⟨_, _, ⟨T16, L16, k16, n16⟩, -, X16, ⟨Lc16, hQ16, l16, y16, z16⟩, st16⟩ := X13.virtualBack hx (y := (⟨"java/lang/String", "charAt", "(I)C"⟩ : MethodName)) (z := (⟨"java/lang/String", "charAt", "(I)C"⟩ : MethodName)) hown (mvT hZ (ow hw 202 rfl)) (mvT hZ (ow hw 203 rfl)) (notFace_of_selects (args := #[]) (mvT hZ (ow hw 205 rfl))) (mvT hZ (ow hw 205 rfl)) (mvT hZ (ow hw 204 rfl)) (by decide) (StrChars.Road.chN (W := 0) hZ (fun d hd => hw d (own_wCh d hd)) (kI := 4) (ow hw 5 rfl) hp0 hp2 hp1 hp3 hcd16 (own_up _ hpcr) (S_CS.ext X00.2) nz_CS (S_SF.ext X00.2) r_SF hler (i := (kk + 6)) (hsub 6 hl_6).1 (j := (p1 + (6 : Int32))) (own_addj 6 hk) (by decide) (by decide)) q16a q16c (g := (mkF m 215 #[.val (.ref p0), .val (.int p1), .val (.ref p2), .val (.int (1 : Int32))] [(.int (p1 + (6 : Int32))), (.ref p0)])) rfl (by rw [hml]; rfl) (Steps.refl _) (argsL := [(.int (p1 + (6 : Int32)))]) (rest := []) (lenOf own_pd27 rfl) rfl (by show 2 * 0 + _ ≤ _; exact Nat.le_of_eq rfl) (hb hby od35_215) (fun _ _ => ⟨rfl, e13, (by decide : 0 + 0 ≤ _), (by decide : 0 + 0 ≤ _)⟩)
                dsimp only [Pt.U, Pt.locs, Pt.cells, Pt.slots] at X16 l16 y16 z16 st16 hQ16
                subst y16 z16
                refine Go.tr st16 ?_
                obtain ⟨rfl, rfl, e16⟩ := hQ16
                have N16 : Fr n0 L16 := by rw [l16]; exact Fr.app N13 (Fr.nil n0)
                show Go _ _ _ _ (T16.setTop (mkF m 218 #[lR p0, lI p1, lR p2, lI (1 : Int32)] [(.int (rcs.getD (kk + 6) 0))]))
                refine Go.st (fun _ => XS.aloadN X16.here hx rfl (hb hby od35_218) rfl rfl) ?_
                show Go _ _ _ _ (T16.setTop (mkF m 219 #[lR p0, lI p1, lR p2, lI (1 : Int32)] [(.ref p2), (.int (rcs.getD (kk + 6) 0))]))
                refine Go.st (fun _ => XS.bipush X16.here hx rfl (hb hby od35_219)) ?_
                show Go _ _ _ _ (T16.setTop (mkF m 221 #[lR p0, lI p1, lR p2, lI (1 : Int32)] [(.int (6 : Int32)), (.ref p2), (.int (rcs.getD (kk + 6) 0))]))
                have hcd17 : StrChars.Road.CodA scs 0 (Int32.ofNat scs.length) ((scs.map StrChars.lo8).map Value.int) := StrChars.Road.codOf (n := scs.length) rfl (fun c hc => (hpcs c hc).2)
                obtain ⟨cq17, kq17, q17a, q17b, q17c⟩ := isOf hZ e16 hp6
                obtain ⟨_, _, ⟨T17, L17, k17, n17⟩, -, X17, ⟨Lc17, hQ17, l17, y17, z17⟩, st17⟩ := X16.virtualBack hx (y := (⟨"java/lang/String", "charAt", "(I)C"⟩ : MethodName)) (z := (⟨"java/lang/String", "charAt", "(I)C"⟩ : MethodName)) hown (mvT hZ (ow hw 202 rfl)) (mvT hZ (ow hw 203 rfl)) (notFace_of_selects (args := #[]) (mvT hZ (ow hw 205 rfl))) (mvT hZ (ow hw 205 rfl)) (mvT hZ (ow hw 204 rfl)) (by decide) (StrChars.Road.chN (W := 1) hZ (fun d hd => hw d (own_wCh d hd)) (kI := 4) (ow hw 5 rfl) hp6 hp8 hp7 hp9 hcd17 (own_up _ hpcs) (S_CS.ext X00.2) nz_CS (S_SF.ext X00.2) r_SF hles (i := 6) hl_6 (j := (6 : Int32)) rfl (by decide) (by decide)) q17a q17c (g := (mkF m 221 #[.val (.ref p0), .val (.int p1), .val (.ref p2), .val (.int (1 : Int32))] [(.int (6 : Int32)), (.ref p2), (.int (rcs.getD (kk + 6) 0))])) rfl (by rw [hml]; rfl) (Steps.refl _) (argsL := [(.int (6 : Int32))]) (rest := [(.int (rcs.getD (kk + 6) 0))]) (lenOf own_pd27 rfl) rfl (by show 2 * 0 + _ ≤ _; exact Nat.le_of_eq rfl) (hb hby od35_221) (fun _ _ => ⟨rfl, e16, (by decide : 0 + 0 ≤ _), (by decide : 0 + 0 ≤ _)⟩)
                dsimp only [Pt.U, Pt.locs, Pt.cells, Pt.slots] at X17 l17 y17 z17 st17 hQ17
                subst y17 z17
                refine Go.tr st17 ?_
                obtain ⟨rfl, rfl, e17⟩ := hQ17
                have N17 : Fr n0 L17 := by rw [l17]; exact Fr.app N16 (Fr.nil n0)
                show Go _ _ _ _ (T17.setTop (mkF m 224 #[lR p0, lI p1, lR p2, lI (1 : Int32)] [(.int (scs.getD 6 0)), (.int (rcs.getD (kk + 6) 0))]))
                have hb18 : (rcs.getD (kk + 6) 0) = (scs.getD 6 0) := (hsub 6 hl_6).2
                refine Go.st (fun _ => XS.icmpNo X17.here hx rfl (hb hby od35_224) rfl (teq hb18).2) ?_
                show Go _ _ _ _ (T17.setTop (mkF m 227 #[lR p0, lI p1, lR p2, lI (1 : Int32)] []))
                refine Go.st (fun _ => XS.iconst X17.here hx rfl (hb hby od35_227)) ?_
                show Go _ _ _ _ (T17.setTop (mkF m 228 #[lR p0, lI p1, lR p2, lI (1 : Int32)] [(.int (1 : Int32))]))
                refine Go.st (fun _ => XS.goto X17.here hx rfl (pc0 := 228) (pc' := 232) rfl (hb hby od35_228) (by decide) (by decide)) ?_
                show Go _ _ _ _ (T17.setTop (mkF m 232 #[lR p0, lI p1, lR p2, lI (1 : Int32)] [(.int (1 : Int32))]))
                refine Go.st (fun _ => XS.istoreN X17.here hx rfl (hb hby od35_232) rfl (l' := #[.val (.ref p0), .val (.int p1), .val (.ref p2), .val (.int (1 : Int32))]) rfl) ?_
                show Go _ _ _ _ (T17.setTop (mkF m 233 #[lR p0, lI p1, lR p2, lI (1 : Int32)] []))
                exact J14 T17 _ (X17.more (by decide) (by decide)) e17 N17   
              · skip
                refine Go.st (fun _ => XS.icmpYes X13.here hx rfl (pc0 := 203) (pc' := 233) rfl (hb hby od35_203) rfl (flt hc15).2.2.2 (by decide) (by decide)) ?_
                show Go _ _ _ _ (T13.setTop (mkF m 233 #[lR p0, lI p1, lR p2, lI (1 : Int32)] []))
                exact J14 T13 _ (X13.more (by decide) (by decide)) e13 N13   
            by_cases hc19 : (5 : Int32) < (Int32.ofNat scs.length)
            · skip
              have hl_5 : 5 < scs.length := own_gtlen (j := 5) hc19 hles (by decide)
              refine Go.st (fun _ => XS.icmpNo X11.here hx rfl (hb hby od35_169) rfl (tlt hc19).2.2.2) ?_
              show Go _ _ _ _ (T11.setTop (mkF m 172 #[lR p0, lI p1, lR p2, lI (1 : Int32)] []))
              refine Go.st (fun _ => XS.iloadN X11.here hx rfl (hb hby od35_172) rfl) ?_
              show Go _ _ _ _ (T11.setTop (mkF m 173 #[lR p0, lI p1, lR p2, lI (1 : Int32)] [(.int (1 : Int32))]))
              refine Go.st (fun _ => XS.ifNo X11.here hx rfl (hb hby od35_173) rfl ((if0 _ _).trans (feq (by decide)).1)) ?_
              show Go _ _ _ _ (T11.setTop (mkF m 176 #[lR p0, lI p1, lR p2, lI (1 : Int32)] []))
              refine Go.st (fun _ => XS.aloadN X11.here hx rfl (hb hby od35_176) rfl rfl) ?_
              show Go _ _ _ _ (T11.setTop (mkF m 177 #[lR p0, lI p1, lR p2, lI (1 : Int32)] [(.ref p0)]))
              refine Go.st (fun _ => XS.iloadN X11.here hx rfl (hb hby od35_177) rfl) ?_
              show Go _ _ _ _ (T11.setTop (mkF m 178 #[lR p0, lI p1, lR p2, lI (1 : Int32)] [(.int p1), (.ref p0)]))
              refine Go.st (fun _ => XS.iconst X11.here hx rfl (hb hby od35_178)) ?_
              show Go _ _ _ _ (T11.setTop (mkF m 179 #[lR p0, lI p1, lR p2, lI (1 : Int32)] [(.int (5 : Int32)), (.int p1), (.ref p0)]))
              refine Go.st (fun _ => XS.iadd X11.here hx rfl (hb hby od35_179) rfl) ?_
              show Go _ _ _ _ (T11.setTop (mkF m 180 #[lR p0, lI p1, lR p2, lI (1 : Int32)] [(.int (p1 + (5 : Int32))), (.ref p0)]))
              have hcd20 : StrChars.Road.CodA rcs 0 (Int32.ofNat rcs.length) ((rcs.map StrChars.lo8).map Value.int) := StrChars.Road.codOf (n := rcs.length) rfl (fun c hc => (hpcr c hc).2)
              obtain ⟨cq20, kq20, q20a, q20b, q20c⟩ := isOf hZ e11 hp0
              obtain ⟨_, _, ⟨T20, L20, k20, n20⟩, -, X20, ⟨Lc20, hQ20, l20, y20, z20⟩, st20⟩ := X11.virtualBack hx (y := (⟨"java/lang/String", "charAt", "(I)C"⟩ : MethodName)) (z := (⟨"java/lang/String", "charAt", "(I)C"⟩ : MethodName)) hown (mvT hZ (ow hw 202 rfl)) (mvT hZ (ow hw 203 rfl)) (notFace_of_selects (args := #[]) (mvT hZ (ow hw 205 rfl))) (mvT hZ (ow hw 205 rfl)) (mvT hZ (ow hw 204 rfl)) (by decide) (StrChars.Road.chN (W := 0) hZ (fun d hd => hw d (own_wCh d hd)) (kI := 4) (ow hw 5 rfl) hp0 hp2 hp1 hp3 hcd20 (own_up _ hpcr) (S_CS.ext X00.2) nz_CS (S_SF.ext X00.2) r_SF hler (i := (kk + 5)) (hsub 5 hl_5).1 (j := (p1 + (5 : Int32))) (own_addj 5 hk) (by decide) (by decide)) q20a q20c (g := (mkF m 180 #[.val (.ref p0), .val (.int p1), .val (.ref p2), .val (.int (1 : Int32))] [(.int (p1 + (5 : Int32))), (.ref p0)])) rfl (by rw [hml]; rfl) (Steps.refl _) (argsL := [(.int (p1 + (5 : Int32)))]) (rest := []) (lenOf own_pd27 rfl) rfl (by show 2 * 0 + _ ≤ _; exact Nat.le_of_eq rfl) (hb hby od35_180) (fun _ _ => ⟨rfl, e11, (by decide : 0 + 0 ≤ _), (by decide : 0 + 0 ≤ _)⟩)
              dsimp only [Pt.U, Pt.locs, Pt.cells, Pt.slots] at X20 l20 y20 z20 st20 hQ20
              subst y20 z20
              refine Go.tr st20 ?_
              obtain ⟨rfl, rfl, e20⟩ := hQ20
              have N20 : Fr n0 L20 := by rw [l20]; exact Fr.app N11 (Fr.nil n0)
              show Go _ _ _ _ (T20.setTop (mkF m 183 #[lR p0, lI p1, lR p2, lI (1 : Int32)] [(.int (rcs.getD (kk + 5) 0))]))
              refine Go.st (fun _ => XS.aloadN X20.here hx rfl (hb hby od35_183) rfl rfl) ?_
              show Go _ _ _ _ (T20.setTop (mkF m 184 #[lR p0, lI p1, lR p2, lI (1 : Int32)] [(.ref p2), (.int (rcs.getD (kk + 5) 0))]))
              refine Go.st (fun _ => XS.iconst X20.here hx rfl (hb hby od35_184)) ?_
              show Go _ _ _ _ (T20.setTop (mkF m 185 #[lR p0, lI p1, lR p2, lI (1 : Int32)] [(.int (5 : Int32)), (.ref p2), (.int (rcs.getD (kk + 5) 0))]))
              have hcd21 : StrChars.Road.CodA scs 0 (Int32.ofNat scs.length) ((scs.map StrChars.lo8).map Value.int) := StrChars.Road.codOf (n := scs.length) rfl (fun c hc => (hpcs c hc).2)
              obtain ⟨cq21, kq21, q21a, q21b, q21c⟩ := isOf hZ e20 hp6
              obtain ⟨_, _, ⟨T21, L21, k21, n21⟩, -, X21, ⟨Lc21, hQ21, l21, y21, z21⟩, st21⟩ := X20.virtualBack hx (y := (⟨"java/lang/String", "charAt", "(I)C"⟩ : MethodName)) (z := (⟨"java/lang/String", "charAt", "(I)C"⟩ : MethodName)) hown (mvT hZ (ow hw 202 rfl)) (mvT hZ (ow hw 203 rfl)) (notFace_of_selects (args := #[]) (mvT hZ (ow hw 205 rfl))) (mvT hZ (ow hw 205 rfl)) (mvT hZ (ow hw 204 rfl)) (by decide) (StrChars.Road.chN (W := 1) hZ (fun d hd => hw d (own_wCh d hd)) (kI := 4) (ow hw 5 rfl) hp6 hp8 hp7 hp9 hcd21 (own_up _ hpcs) (S_CS.ext X00.2) nz_CS (S_SF.ext X00.2) r_SF hles (i := 5) hl_5 (j := (5 : Int32)) rfl (by decide) (by decide)) q21a q21c (g := (mkF m 185 #[.val (.ref p0), .val (.int p1), .val (.ref p2), .val (.int (1 : Int32))] [(.int (5 : Int32)), (.ref p2), (.int (rcs.getD (kk + 5) 0))])) rfl (by rw [hml]; rfl) (Steps.refl _) (argsL := [(.int (5 : Int32))]) (rest := [(.int (rcs.getD (kk + 5) 0))]) (lenOf own_pd27 rfl) rfl (by show 2 * 0 + _ ≤ _; exact Nat.le_of_eq rfl) (hb hby od35_185) (fun _ _ => ⟨rfl, e20, (by decide : 0 + 0 ≤ _), (by decide : 0 + 0 ≤ _)⟩)
              dsimp only [Pt.U, Pt.locs, Pt.cells, Pt.slots] at X21 l21 y21 z21 st21 hQ21
              subst y21 z21
              refine Go.tr st21 ?_
              obtain ⟨rfl, rfl, e21⟩ := hQ21
              have N21 : Fr n0 L21 := by rw [l21]; exact Fr.app N20 (Fr.nil n0)
              show Go _ _ _ _ (T21.setTop (mkF m 188 #[lR p0, lI p1, lR p2, lI (1 : Int32)] [(.int (scs.getD 5 0)), (.int (rcs.getD (kk + 5) 0))]))
              have hb22 : (rcs.getD (kk + 5) 0) = (scs.getD 5 0) := (hsub 5 hl_5).2
              refine Go.st (fun _ => XS.icmpNo X21.here hx rfl (hb hby od35_188) rfl (teq hb22).2) ?_
              show Go _ _ _ _ (T21.setTop (mkF m 191 #[lR p0, lI p1, lR p2, lI (1 : Int32)] []))
              refine Go.st (fun _ => XS.iconst X21.here hx rfl (hb hby od35_191)) ?_
              show Go _ _ _ _ (T21.setTop (mkF m 192 #[lR p0, lI p1, lR p2, lI (1 : Int32)] [(.int (1 : Int32))]))
              refine Go.st (fun _ => XS.goto X21.here hx rfl (pc0 := 192) (pc' := 196) rfl (hb hby od35_192) (by decide) (by decide)) ?_
              show Go _ _ _ _ (T21.setTop (mkF m 196 #[lR p0, lI p1, lR p2, lI (1 : Int32)] [(.int (1 : Int32))]))
              refine Go.st (fun _ => XS.istoreN X21.here hx rfl (hb hby od35_196) rfl (l' := #[.val (.ref p0), .val (.int p1), .val (.ref p2), .val (.int (1 : Int32))]) rfl) ?_
              show Go _ _ _ _ (T21.setTop (mkF m 197 #[lR p0, lI p1, lR p2, lI (1 : Int32)] []))
              exact J12 T21 _ (X21.more (by decide) (by decide)) e21 N21   
            · skip
              refine Go.st (fun _ => XS.icmpYes X11.here hx rfl (pc0 := 169) (pc' := 197) rfl (hb hby od35_169) rfl (flt hc19).2.2.2 (by decide) (by decide)) ?_
              show Go _ _ _ _ (T11.setTop (mkF m 197 #[lR p0, lI p1, lR p2, lI (1 : Int32)] []))
              exact J12 T11 _ (X11.more (by decide) (by decide)) e11 N11   
          by_cases hc23 : (4 : Int32) < (Int32.ofNat scs.length)
          · skip
            have hl_4 : 4 < scs.length := own_gtlen (j := 4) hc23 hles (by decide)
            refine Go.st (fun _ => XS.icmpNo X9.here hx rfl (hb hby od35_136) rfl (tlt hc23).2.2.2) ?_
            show Go _ _ _ _ (T9.setTop (mkF m 139 #[lR p0, lI p1, lR p2, lI (1 : Int32)] []))
            refine Go.st (fun _ => XS.iloadN X9.here hx rfl (hb hby od35_139) rfl) ?_
            show Go _ _ _ _ (T9.setTop (mkF m 140 #[lR p0, lI p1, lR p2, lI (1 : Int32)] [(.int (1 : Int32))]))
            refine Go.st (fun _ => XS.ifNo X9.here hx rfl (hb hby od35_140) rfl ((if0 _ _).trans (feq (by decide)).1)) ?_
            show Go _ _ _ _ (T9.setTop (mkF m 143 #[lR p0, lI p1, lR p2, lI (1 : Int32)] []))
            refine Go.st (fun _ => XS.aloadN X9.here hx rfl (hb hby od35_143) rfl rfl) ?_
            show Go _ _ _ _ (T9.setTop (mkF m 144 #[lR p0, lI p1, lR p2, lI (1 : Int32)] [(.ref p0)]))
            refine Go.st (fun _ => XS.iloadN X9.here hx rfl (hb hby od35_144) rfl) ?_
            show Go _ _ _ _ (T9.setTop (mkF m 145 #[lR p0, lI p1, lR p2, lI (1 : Int32)] [(.int p1), (.ref p0)]))
            refine Go.st (fun _ => XS.iconst X9.here hx rfl (hb hby od35_145)) ?_
            show Go _ _ _ _ (T9.setTop (mkF m 146 #[lR p0, lI p1, lR p2, lI (1 : Int32)] [(.int (4 : Int32)), (.int p1), (.ref p0)]))
            refine Go.st (fun _ => XS.iadd X9.here hx rfl (hb hby od35_146) rfl) ?_
            show Go _ _ _ _ (T9.setTop (mkF m 147 #[lR p0, lI p1, lR p2, lI (1 : Int32)] [(.int (p1 + (4 : Int32))), (.ref p0)]))
            have hcd24 : StrChars.Road.CodA rcs 0 (Int32.ofNat rcs.length) ((rcs.map StrChars.lo8).map Value.int) := StrChars.Road.codOf (n := rcs.length) rfl (fun c hc => (hpcr c hc).2)
            obtain ⟨cq24, kq24, q24a, q24b, q24c⟩ := isOf hZ e9 hp0
            obtain ⟨_, _, ⟨T24, L24, k24, n24⟩, -, X24, ⟨Lc24, hQ24, l24, y24, z24⟩, st24⟩ := X9.virtualBack hx (y := (⟨"java/lang/String", "charAt", "(I)C"⟩ : MethodName)) (z := (⟨"java/lang/String", "charAt", "(I)C"⟩ : MethodName)) hown (mvT hZ (ow hw 202 rfl)) (mvT hZ (ow hw 203 rfl)) (notFace_of_selects (args := #[]) (mvT hZ (ow hw 205 rfl))) (mvT hZ (ow hw 205 rfl)) (mvT hZ (ow hw 204 rfl)) (by decide) (StrChars.Road.chN (W := 0) hZ (fun d hd => hw d (own_wCh d hd)) (kI := 4) (ow hw 5 rfl) hp0 hp2 hp1 hp3 hcd24 (own_up _ hpcr) (S_CS.ext X00.2) nz_CS (S_SF.ext X00.2) r_SF hler (i := (kk + 4)) (hsub 4 hl_4).1 (j := (p1 + (4 : Int32))) (own_addj 4 hk) (by decide) (by decide)) q24a q24c (g := (mkF m 147 #[.val (.ref p0), .val (.int p1), .val (.ref p2), .val (.int (1 : Int32))] [(.int (p1 + (4 : Int32))), (.ref p0)])) rfl (by rw [hml]; rfl) (Steps.refl _) (argsL := [(.int (p1 + (4 : Int32)))]) (rest := []) (lenOf own_pd27 rfl) rfl (by show 2 * 0 + _ ≤ _; exact Nat.le_of_eq rfl) (hb hby od35_147) (fun _ _ => ⟨rfl, e9, (by decide : 0 + 0 ≤ _), (by decide : 0 + 0 ≤ _)⟩)
            dsimp only [Pt.U, Pt.locs, Pt.cells, Pt.slots] at X24 l24 y24 z24 st24 hQ24
            subst y24 z24
            refine Go.tr st24 ?_
            obtain ⟨rfl, rfl, e24⟩ := hQ24
            have N24 : Fr n0 L24 := by rw [l24]; exact Fr.app N9 (Fr.nil n0)
            show Go _ _ _ _ (T24.setTop (mkF m 150 #[lR p0, lI p1, lR p2, lI (1 : Int32)] [(.int (rcs.getD (kk + 4) 0))]))
            refine Go.st (fun _ => XS.aloadN X24.here hx rfl (hb hby od35_150) rfl rfl) ?_
            show Go _ _ _ _ (T24.setTop (mkF m 151 #[lR p0, lI p1, lR p2, lI (1 : Int32)] [(.ref p2), (.int (rcs.getD (kk + 4) 0))]))
            refine Go.st (fun _ => XS.iconst X24.here hx rfl (hb hby od35_151)) ?_
            show Go _ _ _ _ (T24.setTop (mkF m 152 #[lR p0, lI p1, lR p2, lI (1 : Int32)] [(.int (4 : Int32)), (.ref p2), (.int (rcs.getD (kk + 4) 0))]))
            have hcd25 : StrChars.Road.CodA scs 0 (Int32.ofNat scs.length) ((scs.map StrChars.lo8).map Value.int) := StrChars.Road.codOf (n := scs.length) rfl (fun c hc => (hpcs c hc).2)
            obtain ⟨cq25, kq25, q25a, q25b, q25c⟩ := isOf hZ e24 hp6
            obtain ⟨_, _, ⟨T25, L25, k25, n25⟩, -, X25, ⟨Lc25, hQ25, l25, y25, z25⟩, st25⟩ := X24.virtualBack hx (y := (⟨"java/lang/String", "charAt", "(I)C"⟩ : MethodName)) (z := (⟨"java/lang/String", "charAt", "(I)C"⟩ : MethodName)) hown (mvT hZ (ow hw 202 rfl)) (mvT hZ (ow hw 203 rfl)) (notFace_of_selects (args := #[]) (mvT hZ (ow hw 205 rfl))) (mvT hZ (ow hw 205 rfl)) (mvT hZ (ow hw 204 rfl)) (by decide) (StrChars.Road.chN (W := 1) hZ (fun d hd => hw d (own_wCh d hd)) (kI := 4) (ow hw 5 rfl) hp6 hp8 hp7 hp9 hcd25 (own_up _ hpcs) (S_CS.ext X00.2) nz_CS (S_SF.ext X00.2) r_SF hles (i := 4) hl_4 (j := (4 : Int32)) rfl (by decide) (by decide)) q25a q25c (g := (mkF m 152 #[.val (.ref p0), .val (.int p1), .val (.ref p2), .val (.int (1 : Int32))] [(.int (4 : Int32)), (.ref p2), (.int (rcs.getD (kk + 4) 0))])) rfl (by rw [hml]; rfl) (Steps.refl _) (argsL := [(.int (4 : Int32))]) (rest := [(.int (rcs.getD (kk + 4) 0))]) (lenOf own_pd27 rfl) rfl (by show 2 * 0 + _ ≤ _; exact Nat.le_of_eq rfl) (hb hby od35_152) (fun _ _ => ⟨rfl, e24, (by decide : 0 + 0 ≤ _), (by decide : 0 + 0 ≤ _)⟩)
            dsimp only [Pt.U, Pt.locs, Pt.cells, Pt.slots] at X25 l25 y25 z25 st25 hQ25
            subst y25 z25
            refine Go.tr st25 ?_
            obtain ⟨rfl, rfl, e25⟩ := hQ25
            have N25 : Fr n0 L25 := by rw [l25]; exact Fr.app N24 (Fr.nil n0)
            show Go _ _ _ _ (T25.setTop (mkF m 155 #[lR p0, lI p1, lR p2, lI (1 : Int32)] [(.int (scs.getD 4 0)), (.int (rcs.getD (kk + 4) 0))]))
            have hb26 : (rcs.getD (kk + 4) 0) = (scs.getD 4 0) := (hsub 4 hl_4).2
            refine Go.st (fun _ => XS.icmpNo X25.here hx rfl (hb hby od35_155) rfl (teq hb26).2) ?_
            show Go _ _ _ _ (T25.setTop (mkF m 158 #[lR p0, lI p1, lR p2, lI (1 : Int32)] []))
            refine Go.st (fun _ => XS.iconst X25.here hx rfl (hb hby od35_158)) ?_
            show Go _ _ _ _ (T25.setTop (mkF m 159 #[lR p0, lI p1, lR p2, lI (1 : Int32)] [(.int (1 : Int32))]))
            refine Go.st (fun _ => XS.goto X25.here hx rfl (pc0 := 159) (pc' := 163) rfl (hb hby od35_159) (by decide) (by decide)) ?_
            show Go _ _ _ _ (T25.setTop (mkF m 163 #[lR p0, lI p1, lR p2, lI (1 : Int32)] [(.int (1 : Int32))]))
            refine Go.st (fun _ => XS.istoreN X25.here hx rfl (hb hby od35_163) rfl (l' := #[.val (.ref p0), .val (.int p1), .val (.ref p2), .val (.int (1 : Int32))]) rfl) ?_
            show Go _ _ _ _ (T25.setTop (mkF m 164 #[lR p0, lI p1, lR p2, lI (1 : Int32)] []))
            exact J10 T25 _ (X25.more (by decide) (by decide)) e25 N25   
          · skip
            refine Go.st (fun _ => XS.icmpYes X9.here hx rfl (pc0 := 136) (pc' := 164) rfl (hb hby od35_136) rfl (flt hc23).2.2.2 (by decide) (by decide)) ?_
            show Go _ _ _ _ (T9.setTop (mkF m 164 #[lR p0, lI p1, lR p2, lI (1 : Int32)] []))
            exact J10 T9 _ (X9.more (by decide) (by decide)) e9 N9   
        by_cases hc27 : (3 : Int32) < (Int32.ofNat scs.length)
        · skip
          have hl_3 : 3 < scs.length := own_gtlen (j := 3) hc27 hles (by decide)
          refine Go.st (fun _ => XS.icmpNo X7.here hx rfl (hb hby od35_103) rfl (tlt hc27).2.2.2) ?_
          show Go _ _ _ _ (T7.setTop (mkF m 106 #[lR p0, lI p1, lR p2, lI (1 : Int32)] []))
          refine Go.st (fun _ => XS.iloadN X7.here hx rfl (hb hby od35_106) rfl) ?_
          show Go _ _ _ _ (T7.setTop (mkF m 107 #[lR p0, lI p1, lR p2, lI (1 : Int32)] [(.int (1 : Int32))]))
          refine Go.st (fun _ => XS.ifNo X7.here hx rfl (hb hby od35_107) rfl ((if0 _ _).trans (feq (by decide)).1)) ?_
          show Go _ _ _ _ (T7.setTop (mkF m 110 #[lR p0, lI p1, lR p2, lI (1 : Int32)] []))
          refine Go.st (fun _ => XS.aloadN X7.here hx rfl (hb hby od35_110) rfl rfl) ?_
          show Go _ _ _ _ (T7.setTop (mkF m 111 #[lR p0, lI p1, lR p2, lI (1 : Int32)] [(.ref p0)]))
          refine Go.st (fun _ => XS.iloadN X7.here hx rfl (hb hby od35_111) rfl) ?_
          show Go _ _ _ _ (T7.setTop (mkF m 112 #[lR p0, lI p1, lR p2, lI (1 : Int32)] [(.int p1), (.ref p0)]))
          refine Go.st (fun _ => XS.iconst X7.here hx rfl (hb hby od35_112)) ?_
          show Go _ _ _ _ (T7.setTop (mkF m 113 #[lR p0, lI p1, lR p2, lI (1 : Int32)] [(.int (3 : Int32)), (.int p1), (.ref p0)]))
          refine Go.st (fun _ => XS.iadd X7.here hx rfl (hb hby od35_113) rfl) ?_
          show Go _ _ _ _ (T7.setTop (mkF m 114 #[lR p0, lI p1, lR p2, lI (1 : Int32)] [(.int (p1 + (3 : Int32))), (.ref p0)]))
          have hcd28 : StrChars.Road.CodA rcs 0 (Int32.ofNat rcs.length) ((rcs.map StrChars.lo8).map Value.int) := StrChars.Road.codOf (n := rcs.length) rfl (fun c hc => (hpcr c hc).2)
          obtain ⟨cq28, kq28, q28a, q28b, q28c⟩ := isOf hZ e7 hp0
          obtain ⟨_, _, ⟨T28, L28, k28, n28⟩, -, X28, ⟨Lc28, hQ28, l28, y28, z28⟩, st28⟩ := X7.virtualBack hx (y := (⟨"java/lang/String", "charAt", "(I)C"⟩ : MethodName)) (z := (⟨"java/lang/String", "charAt", "(I)C"⟩ : MethodName)) hown (mvT hZ (ow hw 202 rfl)) (mvT hZ (ow hw 203 rfl)) (notFace_of_selects (args := #[]) (mvT hZ (ow hw 205 rfl))) (mvT hZ (ow hw 205 rfl)) (mvT hZ (ow hw 204 rfl)) (by decide) (StrChars.Road.chN (W := 0) hZ (fun d hd => hw d (own_wCh d hd)) (kI := 4) (ow hw 5 rfl) hp0 hp2 hp1 hp3 hcd28 (own_up _ hpcr) (S_CS.ext X00.2) nz_CS (S_SF.ext X00.2) r_SF hler (i := (kk + 3)) (hsub 3 hl_3).1 (j := (p1 + (3 : Int32))) (own_addj 3 hk) (by decide) (by decide)) q28a q28c (g := (mkF m 114 #[.val (.ref p0), .val (.int p1), .val (.ref p2), .val (.int (1 : Int32))] [(.int (p1 + (3 : Int32))), (.ref p0)])) rfl (by rw [hml]; rfl) (Steps.refl _) (argsL := [(.int (p1 + (3 : Int32)))]) (rest := []) (lenOf own_pd27 rfl) rfl (by show 2 * 0 + _ ≤ _; exact Nat.le_of_eq rfl) (hb hby od35_114) (fun _ _ => ⟨rfl, e7, (by decide : 0 + 0 ≤ _), (by decide : 0 + 0 ≤ _)⟩)
          dsimp only [Pt.U, Pt.locs, Pt.cells, Pt.slots] at X28 l28 y28 z28 st28 hQ28
          subst y28 z28
          refine Go.tr st28 ?_
          obtain ⟨rfl, rfl, e28⟩ := hQ28
          have N28 : Fr n0 L28 := by rw [l28]; exact Fr.app N7 (Fr.nil n0)
          show Go _ _ _ _ (T28.setTop (mkF m 117 #[lR p0, lI p1, lR p2, lI (1 : Int32)] [(.int (rcs.getD (kk + 3) 0))]))
          refine Go.st (fun _ => XS.aloadN X28.here hx rfl (hb hby od35_117) rfl rfl) ?_
          show Go _ _ _ _ (T28.setTop (mkF m 118 #[lR p0, lI p1, lR p2, lI (1 : Int32)] [(.ref p2), (.int (rcs.getD (kk + 3) 0))]))
          refine Go.st (fun _ => XS.iconst X28.here hx rfl (hb hby od35_118)) ?_
          show Go _ _ _ _ (T28.setTop (mkF m 119 #[lR p0, lI p1, lR p2, lI (1 : Int32)] [(.int (3 : Int32)), (.ref p2), (.int (rcs.getD (kk + 3) 0))]))
          have hcd29 : StrChars.Road.CodA scs 0 (Int32.ofNat scs.length) ((scs.map StrChars.lo8).map Value.int) := StrChars.Road.codOf (n := scs.length) rfl (fun c hc => (hpcs c hc).2)
          obtain ⟨cq29, kq29, q29a, q29b, q29c⟩ := isOf hZ e28 hp6
          obtain ⟨_, _, ⟨T29, L29, k29, n29⟩, -, X29, ⟨Lc29, hQ29, l29, y29, z29⟩, st29⟩ := X28.virtualBack hx (y := (⟨"java/lang/String", "charAt", "(I)C"⟩ : MethodName)) (z := (⟨"java/lang/String", "charAt", "(I)C"⟩ : MethodName)) hown (mvT hZ (ow hw 202 rfl)) (mvT hZ (ow hw 203 rfl)) (notFace_of_selects (args := #[]) (mvT hZ (ow hw 205 rfl))) (mvT hZ (ow hw 205 rfl)) (mvT hZ (ow hw 204 rfl)) (by decide) (StrChars.Road.chN (W := 1) hZ (fun d hd => hw d (own_wCh d hd)) (kI := 4) (ow hw 5 rfl) hp6 hp8 hp7 hp9 hcd29 (own_up _ hpcs) (S_CS.ext X00.2) nz_CS (S_SF.ext X00.2) r_SF hles (i := 3) hl_3 (j := (3 : Int32)) rfl (by decide) (by decide)) q29a q29c (g := (mkF m 119 #[.val (.ref p0), .val (.int p1), .val (.ref p2), .val (.int (1 : Int32))] [(.int (3 : Int32)), (.ref p2), (.int (rcs.getD (kk + 3) 0))])) rfl (by rw [hml]; rfl) (Steps.refl _) (argsL := [(.int (3 : Int32))]) (rest := [(.int (rcs.getD (kk + 3) 0))]) (lenOf own_pd27 rfl) rfl (by show 2 * 0 + _ ≤ _; exact Nat.le_of_eq rfl) (hb hby od35_119) (fun _ _ => ⟨rfl, e28, (by decide : 0 + 0 ≤ _), (by decide : 0 + 0 ≤ _)⟩)
          dsimp only [Pt.U, Pt.locs, Pt.cells, Pt.slots] at X29 l29 y29 z29 st29 hQ29
          subst y29 z29
          refine Go.tr st29 ?_
          obtain ⟨rfl, rfl, e29⟩ := hQ29
          have N29 : Fr n0 L29 := by rw [l29]; exact Fr.app N28 (Fr.nil n0)
          show Go _ _ _ _ (T29.setTop (mkF m 122 #[lR p0, lI p1, lR p2, lI (1 : Int32)] [(.int (scs.getD 3 0)), (.int (rcs.getD (kk + 3) 0))]))
          have hb30 : (rcs.getD (kk + 3) 0) = (scs.getD 3 0) := (hsub 3 hl_3).2
          refine Go.st (fun _ => XS.icmpNo X29.here hx rfl (hb hby od35_122) rfl (teq hb30).2) ?_
          show Go _ _ _ _ (T29.setTop (mkF m 125 #[lR p0, lI p1, lR p2, lI (1 : Int32)] []))
          refine Go.st (fun _ => XS.iconst X29.here hx rfl (hb hby od35_125)) ?_
          show Go _ _ _ _ (T29.setTop (mkF m 126 #[lR p0, lI p1, lR p2, lI (1 : Int32)] [(.int (1 : Int32))]))
          refine Go.st (fun _ => XS.goto X29.here hx rfl (pc0 := 126) (pc' := 130) rfl (hb hby od35_126) (by decide) (by decide)) ?_
          show Go _ _ _ _ (T29.setTop (mkF m 130 #[lR p0, lI p1, lR p2, lI (1 : Int32)] [(.int (1 : Int32))]))
          refine Go.st (fun _ => XS.istoreN X29.here hx rfl (hb hby od35_130) rfl (l' := #[.val (.ref p0), .val (.int p1), .val (.ref p2), .val (.int (1 : Int32))]) rfl) ?_
          show Go _ _ _ _ (T29.setTop (mkF m 131 #[lR p0, lI p1, lR p2, lI (1 : Int32)] []))
          exact J8 T29 _ (X29.more (by decide) (by decide)) e29 N29   
        · skip
          refine Go.st (fun _ => XS.icmpYes X7.here hx rfl (pc0 := 103) (pc' := 131) rfl (hb hby od35_103) rfl (flt hc27).2.2.2 (by decide) (by decide)) ?_
          show Go _ _ _ _ (T7.setTop (mkF m 131 #[lR p0, lI p1, lR p2, lI (1 : Int32)] []))
          exact J8 T7 _ (X7.more (by decide) (by decide)) e7 N7   
      by_cases hc31 : (2 : Int32) < (Int32.ofNat scs.length)
      · skip
        have hl_2 : 2 < scs.length := own_gtlen (j := 2) hc31 hles (by decide)
        refine Go.st (fun _ => XS.icmpNo X5.here hx rfl (hb hby od35_70) rfl (tlt hc31).2.2.2) ?_
        show Go _ _ _ _ (T5.setTop (mkF m 73 #[lR p0, lI p1, lR p2, lI (1 : Int32)] []))
        refine Go.st (fun _ => XS.iloadN X5.here hx rfl (hb hby od35_73) rfl) ?_
        show Go _ _ _ _ (T5.setTop (mkF m 74 #[lR p0, lI p1, lR p2, lI (1 : Int32)] [(.int (1 : Int32))]))
        refine Go.st (fun _ => XS.ifNo X5.here hx rfl (hb hby od35_74) rfl ((if0 _ _).trans (feq (by decide)).1)) ?_
        show Go _ _ _ _ (T5.setTop (mkF m 77 #[lR p0, lI p1, lR p2, lI (1 : Int32)] []))
        refine Go.st (fun _ => XS.aloadN X5.here hx rfl (hb hby od35_77) rfl rfl) ?_
        show Go _ _ _ _ (T5.setTop (mkF m 78 #[lR p0, lI p1, lR p2, lI (1 : Int32)] [(.ref p0)]))
        refine Go.st (fun _ => XS.iloadN X5.here hx rfl (hb hby od35_78) rfl) ?_
        show Go _ _ _ _ (T5.setTop (mkF m 79 #[lR p0, lI p1, lR p2, lI (1 : Int32)] [(.int p1), (.ref p0)]))
        refine Go.st (fun _ => XS.iconst X5.here hx rfl (hb hby od35_79)) ?_
        show Go _ _ _ _ (T5.setTop (mkF m 80 #[lR p0, lI p1, lR p2, lI (1 : Int32)] [(.int (2 : Int32)), (.int p1), (.ref p0)]))
        refine Go.st (fun _ => XS.iadd X5.here hx rfl (hb hby od35_80) rfl) ?_
        show Go _ _ _ _ (T5.setTop (mkF m 81 #[lR p0, lI p1, lR p2, lI (1 : Int32)] [(.int (p1 + (2 : Int32))), (.ref p0)]))
        have hcd32 : StrChars.Road.CodA rcs 0 (Int32.ofNat rcs.length) ((rcs.map StrChars.lo8).map Value.int) := StrChars.Road.codOf (n := rcs.length) rfl (fun c hc => (hpcr c hc).2)
        obtain ⟨cq32, kq32, q32a, q32b, q32c⟩ := isOf hZ e5 hp0
        obtain ⟨_, _, ⟨T32, L32, k32, n32⟩, -, X32, ⟨Lc32, hQ32, l32, y32, z32⟩, st32⟩ := X5.virtualBack hx (y := (⟨"java/lang/String", "charAt", "(I)C"⟩ : MethodName)) (z := (⟨"java/lang/String", "charAt", "(I)C"⟩ : MethodName)) hown (mvT hZ (ow hw 202 rfl)) (mvT hZ (ow hw 203 rfl)) (notFace_of_selects (args := #[]) (mvT hZ (ow hw 205 rfl))) (mvT hZ (ow hw 205 rfl)) (mvT hZ (ow hw 204 rfl)) (by decide) (StrChars.Road.chN (W := 0) hZ (fun d hd => hw d (own_wCh d hd)) (kI := 4) (ow hw 5 rfl) hp0 hp2 hp1 hp3 hcd32 (own_up _ hpcr) (S_CS.ext X00.2) nz_CS (S_SF.ext X00.2) r_SF hler (i := (kk + 2)) (hsub 2 hl_2).1 (j := (p1 + (2 : Int32))) (own_addj 2 hk) (by decide) (by decide)) q32a q32c (g := (mkF m 81 #[.val (.ref p0), .val (.int p1), .val (.ref p2), .val (.int (1 : Int32))] [(.int (p1 + (2 : Int32))), (.ref p0)])) rfl (by rw [hml]; rfl) (Steps.refl _) (argsL := [(.int (p1 + (2 : Int32)))]) (rest := []) (lenOf own_pd27 rfl) rfl (by show 2 * 0 + _ ≤ _; exact Nat.le_of_eq rfl) (hb hby od35_81) (fun _ _ => ⟨rfl, e5, (by decide : 0 + 0 ≤ _), (by decide : 0 + 0 ≤ _)⟩)
        dsimp only [Pt.U, Pt.locs, Pt.cells, Pt.slots] at X32 l32 y32 z32 st32 hQ32
        subst y32 z32
        refine Go.tr st32 ?_
        obtain ⟨rfl, rfl, e32⟩ := hQ32
        have N32 : Fr n0 L32 := by rw [l32]; exact Fr.app N5 (Fr.nil n0)
        show Go _ _ _ _ (T32.setTop (mkF m 84 #[lR p0, lI p1, lR p2, lI (1 : Int32)] [(.int (rcs.getD (kk + 2) 0))]))
        refine Go.st (fun _ => XS.aloadN X32.here hx rfl (hb hby od35_84) rfl rfl) ?_
        show Go _ _ _ _ (T32.setTop (mkF m 85 #[lR p0, lI p1, lR p2, lI (1 : Int32)] [(.ref p2), (.int (rcs.getD (kk + 2) 0))]))
        refine Go.st (fun _ => XS.iconst X32.here hx rfl (hb hby od35_85)) ?_
        show Go _ _ _ _ (T32.setTop (mkF m 86 #[lR p0, lI p1, lR p2, lI (1 : Int32)] [(.int (2 : Int32)), (.ref p2), (.int (rcs.getD (kk + 2) 0))]))
        have hcd33 : StrChars.Road.CodA scs 0 (Int32.ofNat scs.length) ((scs.map StrChars.lo8).map Value.int) := StrChars.Road.codOf (n := scs.length) rfl (fun c hc => (hpcs c hc).2)
        obtain ⟨cq33, kq33, q33a, q33b, q33c⟩ := isOf hZ e32 hp6
        obtain ⟨_, _, ⟨T33, L33, k33, n33⟩, -, X33, ⟨Lc33, hQ33, l33, y33, z33⟩, st33⟩ := X32.virtualBack hx (y := (⟨"java/lang/String", "charAt", "(I)C"⟩ : MethodName)) (z := (⟨"java/lang/String", "charAt", "(I)C"⟩ : MethodName)) hown (mvT hZ (ow hw 202 rfl)) (mvT hZ (ow hw 203 rfl)) (notFace_of_selects (args := #[]) (mvT hZ (ow hw 205 rfl))) (mvT hZ (ow hw 205 rfl)) (mvT hZ (ow hw 204 rfl)) (by decide) (StrChars.Road.chN (W := 1) hZ (fun d hd => hw d (own_wCh d hd)) (kI := 4) (ow hw 5 rfl) hp6 hp8 hp7 hp9 hcd33 (own_up _ hpcs) (S_CS.ext X00.2) nz_CS (S_SF.ext X00.2) r_SF hles (i := 2) hl_2 (j := (2 : Int32)) rfl (by decide) (by decide)) q33a q33c (g := (mkF m 86 #[.val (.ref p0), .val (.int p1), .val (.ref p2), .val (.int (1 : Int32))] [(.int (2 : Int32)), (.ref p2), (.int (rcs.getD (kk + 2) 0))])) rfl (by rw [hml]; rfl) (Steps.refl _) (argsL := [(.int (2 : Int32))]) (rest := [(.int (rcs.getD (kk + 2) 0))]) (lenOf own_pd27 rfl) rfl (by show 2 * 0 + _ ≤ _; exact Nat.le_of_eq rfl) (hb hby od35_86) (fun _ _ => ⟨rfl, e32, (by decide : 0 + 0 ≤ _), (by decide : 0 + 0 ≤ _)⟩)
        dsimp only [Pt.U, Pt.locs, Pt.cells, Pt.slots] at X33 l33 y33 z33 st33 hQ33
        subst y33 z33
        refine Go.tr st33 ?_
        obtain ⟨rfl, rfl, e33⟩ := hQ33
        have N33 : Fr n0 L33 := by rw [l33]; exact Fr.app N32 (Fr.nil n0)
        show Go _ _ _ _ (T33.setTop (mkF m 89 #[lR p0, lI p1, lR p2, lI (1 : Int32)] [(.int (scs.getD 2 0)), (.int (rcs.getD (kk + 2) 0))]))
        have hb34 : (rcs.getD (kk + 2) 0) = (scs.getD 2 0) := (hsub 2 hl_2).2
        refine Go.st (fun _ => XS.icmpNo X33.here hx rfl (hb hby od35_89) rfl (teq hb34).2) ?_
        show Go _ _ _ _ (T33.setTop (mkF m 92 #[lR p0, lI p1, lR p2, lI (1 : Int32)] []))
        refine Go.st (fun _ => XS.iconst X33.here hx rfl (hb hby od35_92)) ?_
        show Go _ _ _ _ (T33.setTop (mkF m 93 #[lR p0, lI p1, lR p2, lI (1 : Int32)] [(.int (1 : Int32))]))
        refine Go.st (fun _ => XS.goto X33.here hx rfl (pc0 := 93) (pc' := 97) rfl (hb hby od35_93) (by decide) (by decide)) ?_
        show Go _ _ _ _ (T33.setTop (mkF m 97 #[lR p0, lI p1, lR p2, lI (1 : Int32)] [(.int (1 : Int32))]))
        refine Go.st (fun _ => XS.istoreN X33.here hx rfl (hb hby od35_97) rfl (l' := #[.val (.ref p0), .val (.int p1), .val (.ref p2), .val (.int (1 : Int32))]) rfl) ?_
        show Go _ _ _ _ (T33.setTop (mkF m 98 #[lR p0, lI p1, lR p2, lI (1 : Int32)] []))
        exact J6 T33 _ (X33.more (by decide) (by decide)) e33 N33   
      · skip
        refine Go.st (fun _ => XS.icmpYes X5.here hx rfl (pc0 := 70) (pc' := 98) rfl (hb hby od35_70) rfl (flt hc31).2.2.2 (by decide) (by decide)) ?_
        show Go _ _ _ _ (T5.setTop (mkF m 98 #[lR p0, lI p1, lR p2, lI (1 : Int32)] []))
        exact J6 T5 _ (X5.more (by decide) (by decide)) e5 N5   
    by_cases hc35 : (1 : Int32) < (Int32.ofNat scs.length)
    · skip
      have hl_1 : 1 < scs.length := own_gtlen (j := 1) hc35 hles (by decide)
      refine Go.st (fun _ => XS.icmpNo X3.here hx rfl (hb hby od35_37) rfl (tlt hc35).2.2.2) ?_
      show Go _ _ _ _ (T3.setTop (mkF m 40 #[lR p0, lI p1, lR p2, lI (1 : Int32)] []))
      refine Go.st (fun _ => XS.iloadN X3.here hx rfl (hb hby od35_40) rfl) ?_
      show Go _ _ _ _ (T3.setTop (mkF m 41 #[lR p0, lI p1, lR p2, lI (1 : Int32)] [(.int (1 : Int32))]))
      refine Go.st (fun _ => XS.ifNo X3.here hx rfl (hb hby od35_41) rfl ((if0 _ _).trans (feq (by decide)).1)) ?_
      show Go _ _ _ _ (T3.setTop (mkF m 44 #[lR p0, lI p1, lR p2, lI (1 : Int32)] []))
      refine Go.st (fun _ => XS.aloadN X3.here hx rfl (hb hby od35_44) rfl rfl) ?_
      show Go _ _ _ _ (T3.setTop (mkF m 45 #[lR p0, lI p1, lR p2, lI (1 : Int32)] [(.ref p0)]))
      refine Go.st (fun _ => XS.iloadN X3.here hx rfl (hb hby od35_45) rfl) ?_
      show Go _ _ _ _ (T3.setTop (mkF m 46 #[lR p0, lI p1, lR p2, lI (1 : Int32)] [(.int p1), (.ref p0)]))
      refine Go.st (fun _ => XS.iconst X3.here hx rfl (hb hby od35_46)) ?_
      show Go _ _ _ _ (T3.setTop (mkF m 47 #[lR p0, lI p1, lR p2, lI (1 : Int32)] [(.int (1 : Int32)), (.int p1), (.ref p0)]))
      refine Go.st (fun _ => XS.iadd X3.here hx rfl (hb hby od35_47) rfl) ?_
      show Go _ _ _ _ (T3.setTop (mkF m 48 #[lR p0, lI p1, lR p2, lI (1 : Int32)] [(.int (p1 + (1 : Int32))), (.ref p0)]))
      have hcd36 : StrChars.Road.CodA rcs 0 (Int32.ofNat rcs.length) ((rcs.map StrChars.lo8).map Value.int) := StrChars.Road.codOf (n := rcs.length) rfl (fun c hc => (hpcr c hc).2)
      obtain ⟨cq36, kq36, q36a, q36b, q36c⟩ := isOf hZ e3 hp0
      obtain ⟨_, _, ⟨T36, L36, k36, n36⟩, -, X36, ⟨Lc36, hQ36, l36, y36, z36⟩, st36⟩ := X3.virtualBack hx (y := (⟨"java/lang/String", "charAt", "(I)C"⟩ : MethodName)) (z := (⟨"java/lang/String", "charAt", "(I)C"⟩ : MethodName)) hown (mvT hZ (ow hw 202 rfl)) (mvT hZ (ow hw 203 rfl)) (notFace_of_selects (args := #[]) (mvT hZ (ow hw 205 rfl))) (mvT hZ (ow hw 205 rfl)) (mvT hZ (ow hw 204 rfl)) (by decide) (StrChars.Road.chN (W := 0) hZ (fun d hd => hw d (own_wCh d hd)) (kI := 4) (ow hw 5 rfl) hp0 hp2 hp1 hp3 hcd36 (own_up _ hpcr) (S_CS.ext X00.2) nz_CS (S_SF.ext X00.2) r_SF hler (i := (kk + 1)) (hsub 1 hl_1).1 (j := (p1 + (1 : Int32))) (own_addj 1 hk) (by decide) (by decide)) q36a q36c (g := (mkF m 48 #[.val (.ref p0), .val (.int p1), .val (.ref p2), .val (.int (1 : Int32))] [(.int (p1 + (1 : Int32))), (.ref p0)])) rfl (by rw [hml]; rfl) (Steps.refl _) (argsL := [(.int (p1 + (1 : Int32)))]) (rest := []) (lenOf own_pd27 rfl) rfl (by show 2 * 0 + _ ≤ _; exact Nat.le_of_eq rfl) (hb hby od35_48) (fun _ _ => ⟨rfl, e3, (by decide : 0 + 0 ≤ _), (by decide : 0 + 0 ≤ _)⟩)
      dsimp only [Pt.U, Pt.locs, Pt.cells, Pt.slots] at X36 l36 y36 z36 st36 hQ36
      subst y36 z36
      refine Go.tr st36 ?_
      obtain ⟨rfl, rfl, e36⟩ := hQ36
      have N36 : Fr n0 L36 := by rw [l36]; exact Fr.app N3 (Fr.nil n0)
      show Go _ _ _ _ (T36.setTop (mkF m 51 #[lR p0, lI p1, lR p2, lI (1 : Int32)] [(.int (rcs.getD (kk + 1) 0))]))
      refine Go.st (fun _ => XS.aloadN X36.here hx rfl (hb hby od35_51) rfl rfl) ?_
      show Go _ _ _ _ (T36.setTop (mkF m 52 #[lR p0, lI p1, lR p2, lI (1 : Int32)] [(.ref p2), (.int (rcs.getD (kk + 1) 0))]))
      refine Go.st (fun _ => XS.iconst X36.here hx rfl (hb hby od35_52)) ?_
      show Go _ _ _ _ (T36.setTop (mkF m 53 #[lR p0, lI p1, lR p2, lI (1 : Int32)] [(.int (1 : Int32)), (.ref p2), (.int (rcs.getD (kk + 1) 0))]))
      have hcd37 : StrChars.Road.CodA scs 0 (Int32.ofNat scs.length) ((scs.map StrChars.lo8).map Value.int) := StrChars.Road.codOf (n := scs.length) rfl (fun c hc => (hpcs c hc).2)
      obtain ⟨cq37, kq37, q37a, q37b, q37c⟩ := isOf hZ e36 hp6
      obtain ⟨_, _, ⟨T37, L37, k37, n37⟩, -, X37, ⟨Lc37, hQ37, l37, y37, z37⟩, st37⟩ := X36.virtualBack hx (y := (⟨"java/lang/String", "charAt", "(I)C"⟩ : MethodName)) (z := (⟨"java/lang/String", "charAt", "(I)C"⟩ : MethodName)) hown (mvT hZ (ow hw 202 rfl)) (mvT hZ (ow hw 203 rfl)) (notFace_of_selects (args := #[]) (mvT hZ (ow hw 205 rfl))) (mvT hZ (ow hw 205 rfl)) (mvT hZ (ow hw 204 rfl)) (by decide) (StrChars.Road.chN (W := 1) hZ (fun d hd => hw d (own_wCh d hd)) (kI := 4) (ow hw 5 rfl) hp6 hp8 hp7 hp9 hcd37 (own_up _ hpcs) (S_CS.ext X00.2) nz_CS (S_SF.ext X00.2) r_SF hles (i := 1) hl_1 (j := (1 : Int32)) rfl (by decide) (by decide)) q37a q37c (g := (mkF m 53 #[.val (.ref p0), .val (.int p1), .val (.ref p2), .val (.int (1 : Int32))] [(.int (1 : Int32)), (.ref p2), (.int (rcs.getD (kk + 1) 0))])) rfl (by rw [hml]; rfl) (Steps.refl _) (argsL := [(.int (1 : Int32))]) (rest := [(.int (rcs.getD (kk + 1) 0))]) (lenOf own_pd27 rfl) rfl (by show 2 * 0 + _ ≤ _; exact Nat.le_of_eq rfl) (hb hby od35_53) (fun _ _ => ⟨rfl, e36, (by decide : 0 + 0 ≤ _), (by decide : 0 + 0 ≤ _)⟩)
      dsimp only [Pt.U, Pt.locs, Pt.cells, Pt.slots] at X37 l37 y37 z37 st37 hQ37
      subst y37 z37
      refine Go.tr st37 ?_
      obtain ⟨rfl, rfl, e37⟩ := hQ37
      have N37 : Fr n0 L37 := by rw [l37]; exact Fr.app N36 (Fr.nil n0)
      show Go _ _ _ _ (T37.setTop (mkF m 56 #[lR p0, lI p1, lR p2, lI (1 : Int32)] [(.int (scs.getD 1 0)), (.int (rcs.getD (kk + 1) 0))]))
      have hb38 : (rcs.getD (kk + 1) 0) = (scs.getD 1 0) := (hsub 1 hl_1).2
      refine Go.st (fun _ => XS.icmpNo X37.here hx rfl (hb hby od35_56) rfl (teq hb38).2) ?_
      show Go _ _ _ _ (T37.setTop (mkF m 59 #[lR p0, lI p1, lR p2, lI (1 : Int32)] []))
      refine Go.st (fun _ => XS.iconst X37.here hx rfl (hb hby od35_59)) ?_
      show Go _ _ _ _ (T37.setTop (mkF m 60 #[lR p0, lI p1, lR p2, lI (1 : Int32)] [(.int (1 : Int32))]))
      refine Go.st (fun _ => XS.goto X37.here hx rfl (pc0 := 60) (pc' := 64) rfl (hb hby od35_60) (by decide) (by decide)) ?_
      show Go _ _ _ _ (T37.setTop (mkF m 64 #[lR p0, lI p1, lR p2, lI (1 : Int32)] [(.int (1 : Int32))]))
      refine Go.st (fun _ => XS.istoreN X37.here hx rfl (hb hby od35_64) rfl (l' := #[.val (.ref p0), .val (.int p1), .val (.ref p2), .val (.int (1 : Int32))]) rfl) ?_
      show Go _ _ _ _ (T37.setTop (mkF m 65 #[lR p0, lI p1, lR p2, lI (1 : Int32)] []))
      exact J4 T37 _ (X37.more (by decide) (by decide)) e37 N37   
    · skip
      refine Go.st (fun _ => XS.icmpYes X3.here hx rfl (pc0 := 37) (pc' := 65) rfl (hb hby od35_37) rfl (flt hc35).2.2.2 (by decide) (by decide)) ?_
      show Go _ _ _ _ (T3.setTop (mkF m 65 #[lR p0, lI p1, lR p2, lI (1 : Int32)] []))
      exact J4 T3 _ (X3.more (by decide) (by decide)) e3 N3   
  by_cases hc39 : (0 : Int32) < (Int32.ofNat scs.length)
  · skip
    have hl_0 : 0 < scs.length := own_gtlen (j := 0) hc39 hles (by decide)
    refine Go.st (fun _ => XS.ifNo X1.here hx rfl (hb hby od35_6) rfl ((if0 _ _).trans (tlt hc39).2.2.2)) ?_
    show Go _ _ _ _ (T1.setTop (mkF m 9 #[lR p0, lI p1, lR p2, lI (1 : Int32)] []))
    refine Go.st (fun _ => XS.iloadN X1.here hx rfl (hb hby od35_9) rfl) ?_
    show Go _ _ _ _ (T1.setTop (mkF m 10 #[lR p0, lI p1, lR p2, lI (1 : Int32)] [(.int (1 : Int32))]))
    refine Go.st (fun _ => XS.ifNo X1.here hx rfl (hb hby od35_10) rfl ((if0 _ _).trans (feq (by decide)).1)) ?_
    show Go _ _ _ _ (T1.setTop (mkF m 13 #[lR p0, lI p1, lR p2, lI (1 : Int32)] []))
    refine Go.st (fun _ => XS.aloadN X1.here hx rfl (hb hby od35_13) rfl rfl) ?_
    show Go _ _ _ _ (T1.setTop (mkF m 14 #[lR p0, lI p1, lR p2, lI (1 : Int32)] [(.ref p0)]))
    refine Go.st (fun _ => XS.iloadN X1.here hx rfl (hb hby od35_14) rfl) ?_
    show Go _ _ _ _ (T1.setTop (mkF m 15 #[lR p0, lI p1, lR p2, lI (1 : Int32)] [(.int p1), (.ref p0)]))
    have hcd40 : StrChars.Road.CodA rcs 0 (Int32.ofNat rcs.length) ((rcs.map StrChars.lo8).map Value.int) := StrChars.Road.codOf (n := rcs.length) rfl (fun c hc => (hpcr c hc).2)
    obtain ⟨cq40, kq40, q40a, q40b, q40c⟩ := isOf hZ e1 hp0
    obtain ⟨_, _, ⟨T40, L40, k40, n40⟩, -, X40, ⟨Lc40, hQ40, l40, y40, z40⟩, st40⟩ := X1.virtualBack hx (y := (⟨"java/lang/String", "charAt", "(I)C"⟩ : MethodName)) (z := (⟨"java/lang/String", "charAt", "(I)C"⟩ : MethodName)) hown (mvT hZ (ow hw 202 rfl)) (mvT hZ (ow hw 203 rfl)) (notFace_of_selects (args := #[]) (mvT hZ (ow hw 205 rfl))) (mvT hZ (ow hw 205 rfl)) (mvT hZ (ow hw 204 rfl)) (by decide) (StrChars.Road.chN (W := 0) hZ (fun d hd => hw d (own_wCh d hd)) (kI := 4) (ow hw 5 rfl) hp0 hp2 hp1 hp3 hcd40 (own_up _ hpcr) (S_CS.ext X00.2) nz_CS (S_SF.ext X00.2) r_SF hler (i := (kk + 0)) (hsub 0 hl_0).1 (j := p1) hk (by decide) (by decide)) q40a q40c (g := (mkF m 15 #[.val (.ref p0), .val (.int p1), .val (.ref p2), .val (.int (1 : Int32))] [(.int p1), (.ref p0)])) rfl (by rw [hml]; rfl) (Steps.refl _) (argsL := [(.int p1)]) (rest := []) (lenOf own_pd27 rfl) rfl (by show 2 * 0 + _ ≤ _; exact Nat.le_of_eq rfl) (hb hby od35_15) (fun _ _ => ⟨rfl, e1, (by decide : 0 + 0 ≤ _), (by decide : 0 + 0 ≤ _)⟩)
    dsimp only [Pt.U, Pt.locs, Pt.cells, Pt.slots] at X40 l40 y40 z40 st40 hQ40
    subst y40 z40
    refine Go.tr st40 ?_
    obtain ⟨rfl, rfl, e40⟩ := hQ40
    have N40 : Fr n0 L40 := by rw [l40]; exact Fr.app N1 (Fr.nil n0)
    show Go _ _ _ _ (T40.setTop (mkF m 18 #[lR p0, lI p1, lR p2, lI (1 : Int32)] [(.int (rcs.getD (kk + 0) 0))]))
    refine Go.st (fun _ => XS.aloadN X40.here hx rfl (hb hby od35_18) rfl rfl) ?_
    show Go _ _ _ _ (T40.setTop (mkF m 19 #[lR p0, lI p1, lR p2, lI (1 : Int32)] [(.ref p2), (.int (rcs.getD (kk + 0) 0))]))
    refine Go.st (fun _ => XS.iconst X40.here hx rfl (hb hby od35_19)) ?_
    show Go _ _ _ _ (T40.setTop (mkF m 20 #[lR p0, lI p1, lR p2, lI (1 : Int32)] [(.int (0 : Int32)), (.ref p2), (.int (rcs.getD (kk + 0) 0))]))
    have hcd41 : StrChars.Road.CodA scs 0 (Int32.ofNat scs.length) ((scs.map StrChars.lo8).map Value.int) := StrChars.Road.codOf (n := scs.length) rfl (fun c hc => (hpcs c hc).2)
    obtain ⟨cq41, kq41, q41a, q41b, q41c⟩ := isOf hZ e40 hp6
    obtain ⟨_, _, ⟨T41, L41, k41, n41⟩, -, X41, ⟨Lc41, hQ41, l41, y41, z41⟩, st41⟩ := X40.virtualBack hx (y := (⟨"java/lang/String", "charAt", "(I)C"⟩ : MethodName)) (z := (⟨"java/lang/String", "charAt", "(I)C"⟩ : MethodName)) hown (mvT hZ (ow hw 202 rfl)) (mvT hZ (ow hw 203 rfl)) (notFace_of_selects (args := #[]) (mvT hZ (ow hw 205 rfl))) (mvT hZ (ow hw 205 rfl)) (mvT hZ (ow hw 204 rfl)) (by decide) (StrChars.Road.chN (W := 1) hZ (fun d hd => hw d (own_wCh d hd)) (kI := 4) (ow hw 5 rfl) hp6 hp8 hp7 hp9 hcd41 (own_up _ hpcs) (S_CS.ext X00.2) nz_CS (S_SF.ext X00.2) r_SF hles (i := 0) hl_0 (j := (0 : Int32)) rfl (by decide) (by decide)) q41a q41c (g := (mkF m 20 #[.val (.ref p0), .val (.int p1), .val (.ref p2), .val (.int (1 : Int32))] [(.int (0 : Int32)), (.ref p2), (.int (rcs.getD (kk + 0) 0))])) rfl (by rw [hml]; rfl) (Steps.refl _) (argsL := [(.int (0 : Int32))]) (rest := [(.int (rcs.getD (kk + 0) 0))]) (lenOf own_pd27 rfl) rfl (by show 2 * 0 + _ ≤ _; exact Nat.le_of_eq rfl) (hb hby od35_20) (fun _ _ => ⟨rfl, e40, (by decide : 0 + 0 ≤ _), (by decide : 0 + 0 ≤ _)⟩)
    dsimp only [Pt.U, Pt.locs, Pt.cells, Pt.slots] at X41 l41 y41 z41 st41 hQ41
    subst y41 z41
    refine Go.tr st41 ?_
    obtain ⟨rfl, rfl, e41⟩ := hQ41
    have N41 : Fr n0 L41 := by rw [l41]; exact Fr.app N40 (Fr.nil n0)
    show Go _ _ _ _ (T41.setTop (mkF m 23 #[lR p0, lI p1, lR p2, lI (1 : Int32)] [(.int (scs.getD 0 0)), (.int (rcs.getD (kk + 0) 0))]))
    have hb42 : (rcs.getD (kk + 0) 0) = (scs.getD 0 0) := (hsub 0 hl_0).2
    refine Go.st (fun _ => XS.icmpNo X41.here hx rfl (hb hby od35_23) rfl (teq hb42).2) ?_
    show Go _ _ _ _ (T41.setTop (mkF m 26 #[lR p0, lI p1, lR p2, lI (1 : Int32)] []))
    refine Go.st (fun _ => XS.iconst X41.here hx rfl (hb hby od35_26)) ?_
    show Go _ _ _ _ (T41.setTop (mkF m 27 #[lR p0, lI p1, lR p2, lI (1 : Int32)] [(.int (1 : Int32))]))
    refine Go.st (fun _ => XS.goto X41.here hx rfl (pc0 := 27) (pc' := 31) rfl (hb hby od35_27) (by decide) (by decide)) ?_
    show Go _ _ _ _ (T41.setTop (mkF m 31 #[lR p0, lI p1, lR p2, lI (1 : Int32)] [(.int (1 : Int32))]))
    refine Go.st (fun _ => XS.istoreN X41.here hx rfl (hb hby od35_31) rfl (l' := #[.val (.ref p0), .val (.int p1), .val (.ref p2), .val (.int (1 : Int32))]) rfl) ?_
    show Go _ _ _ _ (T41.setTop (mkF m 32 #[lR p0, lI p1, lR p2, lI (1 : Int32)] []))
    exact J2 T41 _ (X41.more (by decide) (by decide)) e41 N41   
  · skip
    refine Go.st (fun _ => XS.ifYes X1.here hx rfl (pc0 := 6) (pc' := 32) rfl (hb hby od35_6) rfl ((if0 _ _).trans (flt hc39).2.2.2) (by decide) (by decide)) ?_
    show Go _ _ _ _ (T1.setTop (mkF m 32 #[lR p0, lI p1, lR p2, lI (1 : Int32)] []))
    exact J2 T1 _ (X1.more (by decide) (by decide)) e1 N1   
theorem own_s1 (m o u : List Int32) : ∀ i, i < (([(117 : Int32), (110 : Int32), (117 : Int32), (115 : Int32), (101 : Int32), (100 : Int32), (32 : Int32)] : List Int32)).length → 0 + i < (own_R m o u).length ∧ (own_R m o u).getD (0 + i) 0 = (([(117 : Int32), (110 : Int32), (117 : Int32), (115 : Int32), (101 : Int32), (100 : Int32), (32 : Int32)] : List Int32)).getD i 0 := own_subK (a := []) (b := ([(117 : Int32), (110 : Int32), (117 : Int32), (115 : Int32), (101 : Int32), (100 : Int32), (32 : Int32)] : List Int32)) (c := m ++ ([(32 : Int32)] : List Int32) ++ o ++ ([(32 : Int32), (102 : Int32), (111 : Int32), (114 : Int32), (32 : Int32)] : List Int32) ++ u) (by simp [own_R]) rfl
theorem own_s2 (m o u : List Int32) : ∀ i, i < m.length → 7 + i < (own_R m o u).length ∧ (own_R m o u).getD (7 + i) 0 = m.getD i 0 := own_subK (a := ([(117 : Int32), (110 : Int32), (117 : Int32), (115 : Int32), (101 : Int32), (100 : Int32), (32 : Int32)] : List Int32)) (b := m) (c := ([(32 : Int32)] : List Int32) ++ o ++ ([(32 : Int32), (102 : Int32), (111 : Int32), (114 : Int32), (32 : Int32)] : List Int32) ++ u) (by simp [own_R]) rfl
theorem own_s3 (m o u : List Int32) : ∀ i, i < (([(32 : Int32)] : List Int32)).length → (7 + m.length) + i < (own_R m o u).length ∧ (own_R m o u).getD ((7 + m.length) + i) 0 = (([(32 : Int32)] : List Int32)).getD i 0 := own_subK (a := ([(117 : Int32), (110 : Int32), (117 : Int32), (115 : Int32), (101 : Int32), (100 : Int32), (32 : Int32)] : List Int32) ++ m) (b := ([(32 : Int32)] : List Int32)) (c := o ++ ([(32 : Int32), (102 : Int32), (111 : Int32), (114 : Int32), (32 : Int32)] : List Int32) ++ u) (by simp [own_R]) (by simp; omega)
theorem own_s4 (m o u : List Int32) : ∀ i, i < o.length → (8 + m.length) + i < (own_R m o u).length ∧ (own_R m o u).getD ((8 + m.length) + i) 0 = o.getD i 0 := own_subK (a := ([(117 : Int32), (110 : Int32), (117 : Int32), (115 : Int32), (101 : Int32), (100 : Int32), (32 : Int32)] : List Int32) ++ m ++ ([(32 : Int32)] : List Int32)) (b := o) (c := ([(32 : Int32), (102 : Int32), (111 : Int32), (114 : Int32), (32 : Int32)] : List Int32) ++ u) (by simp [own_R]) (by simp; omega)
theorem own_s5 (m o u : List Int32) : ∀ i, i < (([(32 : Int32), (102 : Int32), (111 : Int32), (114 : Int32), (32 : Int32)] : List Int32)).length → (8 + m.length + o.length) + i < (own_R m o u).length ∧ (own_R m o u).getD ((8 + m.length + o.length) + i) 0 = (([(32 : Int32), (102 : Int32), (111 : Int32), (114 : Int32), (32 : Int32)] : List Int32)).getD i 0 := own_subK (a := ([(117 : Int32), (110 : Int32), (117 : Int32), (115 : Int32), (101 : Int32), (100 : Int32), (32 : Int32)] : List Int32) ++ m ++ ([(32 : Int32)] : List Int32) ++ o) (b := ([(32 : Int32), (102 : Int32), (111 : Int32), (114 : Int32), (32 : Int32)] : List Int32)) (c := u) (by simp [own_R]) (by simp; omega)
theorem own_s6 (m o u : List Int32) : ∀ i, i < u.length → (13 + m.length + o.length) + i < (own_R m o u).length ∧ (own_R m o u).getD ((13 + m.length + o.length) + i) 0 = u.getD i 0 := own_subK (a := ([(117 : Int32), (110 : Int32), (117 : Int32), (115 : Int32), (101 : Int32), (100 : Int32), (32 : Int32)] : List Int32) ++ m ++ ([(32 : Int32)] : List Int32) ++ o ++ ([(32 : Int32), (102 : Int32), (111 : Int32), (114 : Int32), (32 : Int32)] : List Int32)) (b := u) (c := []) (by simp [own_R]) (by simp; omega)
theorem own_smallR {m o u : List Int32} (h1 : ∀ c ∈ m, ¬ c < 0 ∧ ¬ (255 : Int32) < c) (h2 : ∀ c ∈ o, ¬ c < 0 ∧ ¬ (255 : Int32) < c) (h3 : ∀ c ∈ u, ¬ c < 0 ∧ ¬ (255 : Int32) < c) : ∀ c ∈ own_R m o u, ¬ c < 0 ∧ ¬ (255 : Int32) < c := fun c hc => by
  have hU : ∀ c ∈ ([(117 : Int32), (110 : Int32), (117 : Int32), (115 : Int32), (101 : Int32), (100 : Int32), (32 : Int32)] : List Int32), ¬ c < 0 ∧ ¬ (255 : Int32) < c := by decide
  have hS : ∀ c ∈ ([(32 : Int32)] : List Int32), ¬ c < 0 ∧ ¬ (255 : Int32) < c := by decide
  have hF : ∀ c ∈ ([(32 : Int32), (102 : Int32), (111 : Int32), (114 : Int32), (32 : Int32)] : List Int32), ¬ c < 0 ∧ ¬ (255 : Int32) < c := by decide
  unfold own_R at hc
  rcases List.mem_append.mp hc with hc | hc
  · rcases List.mem_append.mp hc with hc | hc
    · rcases List.mem_append.mp hc with hc | hc
      · rcases List.mem_append.mp hc with hc | hc
        · rcases List.mem_append.mp hc with hc | hc
          · exact hU c (by simpa using hc)
          · exact h1 c hc
        · exact hS c hc
      · exact h2 c hc
    · exact hF c hc
  · exact h3 c hc
theorem own_leR {m o u : List Int32} (h1 : m.length ≤ 3) (h2 : o.length ≤ 3) (h3 : u.length ≤ 3) : (own_R m o u).length ≤ 4000 := by rw [own_lenR]; omega
theorem own_ef_rm_law (m : MethodId) (x0 : Int32) (x1 : Int32) (x2 : Int32) : entryFrame m #[(.int x0), (.int x1), (.int x2)] maxLocals = mkF m 0 #[.val (.int x0), .val (.int x1), .val (.int x2), .unset, .unset, .unset, .unset, .unset, .unset, .unset, .unset] [] := by first | (simp [entryFrame, mkF, argsToLocals, Value.category, maxLocals]; done) | rfl
theorem own_pd28 : parseMethodDescriptor "(I)Ljava/lang/String;" = some ⟨[.int], some (.object "java/lang/String")⟩ := by decide +kernel
theorem own_pd29 : parseMethodDescriptor "(Ljava/lang/String;Ljava/lang/String;Ljava/lang/String;)V" = some ⟨[(.object "java/lang/String"), (.object "java/lang/String"), (.object "java/lang/String")], none⟩ := by decide +kernel
theorem own_pd30 : parseMethodDescriptor "(Ljava/lang/String;ILjava/lang/String;)Z" = some ⟨[(.object "java/lang/String"), .int, (.object "java/lang/String")], some .boolean⟩ := by decide +kernel
def Q_rm_law (Z : State) (g_CS : Int32) (g_SF : Value) (p0 : Int32) (p1 : Int32) (p2 : Int32) (h0 : Heap) (n0 : Nat) (v : Option Value) (h : Heap) (L : List Loc) : Prop := v = some (.int (1 : Int32)) ∧ Fr n0 L ∧ Keep h0 h []
set_option maxRecDepth 65536 in
set_option maxHeartbeats 40000000 in
theorem rm_law (l : Launch) (Z : State) (a0 : Array Value) (hw : ∀ d ∈ tables_1, d.before a0 Z = true) (ws : List Jvm.Cond) (g_CS : Int32) (S_CS : Sta Z Z.heap "java/lang/String" "COMPACT_STRINGS" "Z" (.int g_CS)) (nz_CS : ¬ (g_CS = (0 : Int32))) (g_SF : Value) (S_SF : Sta Z Z.heap "jdk/internal/util/Preconditions" "SIOOBE_FORMATTER" "Ljava/util/function/BiFunction;" g_SF) (r_SF : g_SF.isRef = true) (p0 : Int32) (p1 : Int32) (p2 : Int32) (h0 : Heap) (n0 : Nat) (X00 : Old Z n0 h0)  :
    MetFree l x (head1 (Jvm.Cond.code x code maxLocals ret :: ws) room_1) (fun a U => a = #[(.int p0), (.int p1), (.int p2)] ∧ Z.Warmed39 U.vm ∧ U.heap = h0 ∧ CHv Z consts_1 U.vm h0) (fun _ _ _ _ _ => True) (fun _ U o U' => ∃ v L, o = .returned v ∧ Q_rm_law Z g_CS g_SF p0 p1 p2 h0 n0 v U'.heap L ∧ CHr Z consts_1 U.vm U.heap U'.vm U'.heap ∧ ReturnedEndW U o U' L 42 377) := by
  refine MetFree.of_bodySF (plainFor_of_name own_pn8) hisR ?_
  intro p e s m args below meth c s₁ Bd hml0 hP hK
  obtain ⟨rfl, hZ, hh, hCH⟩ := hP
  have hEL := own_EW Z a0 hw
  have CR0 : CHr Z consts_1 s.vm h0 s.vm h0 := CHr.refl hCH
  have hx := Bd.exec
  have hby := Bd.bytes
  have hml : c.maxLocals = 11 := hml0
  have hown : s.vm.findClass "com/example/strikeboard/strikeboard/engine/UnusedToStringPinLaw" = some m.cls := findClass_of_methodNamed Bd.named
  have hnm := (name_of_methodNamed Bd.named Bd.method).1
  have X0 : Stand p l e room_1 (s.setVm s.vm) m #[(.int p0), (.int p1), (.int p2)] below meth c s₁ [] 0 0 := Stand.of_body Bd
  have e0 : s₁.heap = h0 := by rw [← hh, Bd.state]; rfl
  have N0 := Fr.nil n0
  have hS0 : s.Since s.vm 0 := own_since s
  have hk0 : 0 ≤ h0.size := Nat.zero_le _
  have hZ : Z.Warmed39 (s.setVm s.vm).vm := hZ
  have hown : (s.setVm s.vm).vm.findClass "com/example/strikeboard/strikeboard/engine/UnusedToStringPinLaw" = some m.cls := hown
  refine Go.start fun P hPend => ?_
  refine Go.st (fun _ k => castTop (own_ef_rm_law m p0 p1 p2) k) ?_
  show Go _ _ _ _ (s₁.setTop (mkF m 0 #[lI p0, lI p1, lI p2, lU, lU, lU, lU, lU, lU, lU, lU] []))
  refine Go.st (fun _ => XS.iloadN X0.here hx rfl (hb hby at_0) rfl) ?_
  show Go _ _ _ _ (s₁.setTop (mkF m 1 #[lI p0, lI p1, lI p2, lU, lU, lU, lU, lU, lU, lU, lU] [(.int p0)]))
  obtain ⟨_, _, ⟨T1, L1, k1, n1⟩, -, X1, hS1, hg1, ⟨Lc1, hQ1, l1, y1, z1, hCR1⟩, st1⟩ := Jvm.RoadKit.callSS X0 hx (y := (⟨"com/example/strikeboard/strikeboard/engine/UnusedToStringPinLaw", "mk", "(I)Ljava/lang/String;"⟩ : MethodName)) hown (mvT hZ (ow hw 0 rfl)) (mvT hZ (ow hw 1 rfl)) (mvT hZ (ow hw 2 rfl)) (mvT hZ (ow hw 3 rfl)) (by decide) (backOfSH (W := 0) (rm_mk l Z a0 hw [] g_CS S_CS nz_CS p0 h0 n0 X00 ) hZ (ow hw 3 rfl) (ow hw 2 rfl) (by decide) (by decide) hEL CR0.1) (g := (mkF m 1 #[.val (.int p0), .val (.int p1), .val (.int p2), .unset, .unset, .unset, .unset, .unset, .unset, .unset, .unset] [(.int p0)])) rfl (by rw [hml]; rfl) (argsL := [(.int p0)]) (rest := []) (lenOf own_pd28 rfl) rfl (by show 2 * 0 + _ ≤ _; exact Nat.le_of_eq rfl) (hb hby at_1) (fun _ _ => ⟨rfl, e0, (by decide : 0 + 6 ≤ _), (by decide : 0 + 12 ≤ _)⟩)
  dsimp only [Pt.U, Pt.locs, Pt.cells, Pt.slots] at X1 l1 y1 z1 st1 hQ1 hS1 hg1 hCR1
  subst y1 z1
  refine Go.tr st1 ?_
  obtain ⟨XX1, hSS1, hZ1, hown1⟩ := rebS hS0 (by rw [e0]; exact hk0) X1 hS1 hg1 hZ hown
  obtain ⟨os_2, vb_3, kb_4, cs_5, rfl, N1q, K1q, q1_0, q1_1, q1_2, q1_3, q1_4, q1_5, q1_6⟩ := hQ1
  have N1 : Fr n0 L1 := by rw [l1]; exact Fr.app N0 N1q
  have CR1 := CR0.trans hCR1
  have O1 := X00.keep K1q all0
  have K1 : Keep h0 T1.heap [] := (Keep.refl h0 []).trans K1q all0
  have sz_os_2 : h0.size ≤ os_2 := Nat.le_trans (Keep.refl h0 []).1 q1_0
  have g_os_2 : n0 ≤ os_2 := Nat.le_trans (own_oldsz X00) sz_os_2
  show Go _ _ _ _ (T1.setTop (mkF m 4 #[lI p0, lI p1, lI p2, lU, lU, lU, lU, lU, lU, lU, lU] [(.ref os_2)]))
  refine Go.st (fun _ => XS.astoreN XX1.here hx rfl (hb hby at_4) rfl rfl (l' := #[.val (.int p0), .val (.int p1), .val (.int p2), .val (.ref os_2), .unset, .unset, .unset, .unset, .unset, .unset, .unset]) rfl) ?_
  show Go _ _ _ _ (T1.setTop (mkF m 5 #[lI p0, lI p1, lI p2, lR os_2, lU, lU, lU, lU, lU, lU, lU] []))
  refine Go.st (fun _ => XS.iloadN XX1.here hx rfl (hb hby at_5) rfl) ?_
  show Go _ _ _ _ (T1.setTop (mkF m 6 #[lI p0, lI p1, lI p2, lR os_2, lU, lU, lU, lU, lU, lU, lU] [(.int p1)]))
  obtain ⟨_, _, ⟨T6, L6, k6, n6⟩, -, X6, hS6, hg6, ⟨Lc6, hQ6, l6, y6, z6, hCR6⟩, st6⟩ := Jvm.RoadKit.callSS XX1 hx (y := (⟨"com/example/strikeboard/strikeboard/engine/UnusedToStringPinLaw", "mk", "(I)Ljava/lang/String;"⟩ : MethodName)) hown1 (mvT hZ1 (ow hw 0 rfl)) (mvT hZ1 (ow hw 1 rfl)) (mvT hZ1 (ow hw 2 rfl)) (mvT hZ1 (ow hw 3 rfl)) (by decide) (backOfSH (W := 0) (rm_mk l Z a0 hw [] g_CS S_CS nz_CS p1 T1.heap n0 O1 ) hZ1 (ow hw 3 rfl) (ow hw 2 rfl) (by decide) (by decide) hEL CR1.1) (g := (mkF m 6 #[.val (.int p0), .val (.int p1), .val (.int p2), .val (.ref os_2), .unset, .unset, .unset, .unset, .unset, .unset, .unset] [(.int p1)])) rfl (by rw [hml]; rfl) (argsL := [(.int p1)]) (rest := []) (lenOf own_pd28 rfl) rfl (by show 2 * 0 + _ ≤ _; exact Nat.le_of_eq rfl) (hb hby at_6) (fun _ _ => ⟨rfl, rfl, (by decide : 6 + 6 ≤ _), (by decide : 12 + 12 ≤ _)⟩)
  dsimp only [Pt.U, Pt.locs, Pt.cells, Pt.slots] at X6 l6 y6 z6 st6 hQ6 hS6 hg6 hCR6
  subst y6 z6
  refine Go.tr st6 ?_
  obtain ⟨XX6, hSS6, hZ6, hown6⟩ := rebS hSS1 (Nat.le_refl _) X6 hS6 hg6 hZ1 hown1
  obtain ⟨os_7, vb_8, kb_9, cs_10, rfl, N6q, K6q, q6_0, q6_1, q6_2, q6_3, q6_4, q6_5, q6_6⟩ := hQ6
  have N6 : Fr n0 L6 := by rw [l6]; exact Fr.app N1 N6q
  have CR6 := CR1.trans hCR6
  have O6 := O1.keep K6q all0
  have K6 : Keep h0 T6.heap [] := K1.trans K6q all0
  have sz_os_7 : h0.size ≤ os_7 := Nat.le_trans K1.1 q6_0
  have g_os_7 : n0 ≤ os_7 := Nat.le_trans (own_oldsz X00) sz_os_7
  show Go _ _ _ _ (T6.setTop (mkF m 9 #[lI p0, lI p1, lI p2, lR os_2, lU, lU, lU, lU, lU, lU, lU] [(.ref os_7)]))
  refine Go.st (fun _ => XS.astore XX6.here hx rfl (hb hby at_9) rfl rfl (l' := #[.val (.int p0), .val (.int p1), .val (.int p2), .val (.ref os_2), .val (.ref os_7), .unset, .unset, .unset, .unset, .unset, .unset]) rfl) ?_
  show Go _ _ _ _ (T6.setTop (mkF m 11 #[lI p0, lI p1, lI p2, lR os_2, lR os_7, lU, lU, lU, lU, lU, lU] []))
  refine Go.st (fun _ => XS.iloadN XX6.here hx rfl (hb hby at_11) rfl) ?_
  show Go _ _ _ _ (T6.setTop (mkF m 12 #[lI p0, lI p1, lI p2, lR os_2, lR os_7, lU, lU, lU, lU, lU, lU] [(.int p2)]))
  have c12 := (q1_1.keep K6q)
  have c13 := (q1_4.keep K6q nin0)
  obtain ⟨_, _, ⟨T11, L11, k11, n11⟩, -, X11, hS11, hg11, ⟨Lc11, hQ11, l11, y11, z11, hCR11⟩, st11⟩ := Jvm.RoadKit.callSS XX6 hx (y := (⟨"com/example/strikeboard/strikeboard/engine/UnusedToStringPinLaw", "mk", "(I)Ljava/lang/String;"⟩ : MethodName)) hown6 (mvT hZ6 (ow hw 0 rfl)) (mvT hZ6 (ow hw 1 rfl)) (mvT hZ6 (ow hw 2 rfl)) (mvT hZ6 (ow hw 3 rfl)) (by decide) (backOfSH (W := 0) (rm_mk l Z a0 hw [] g_CS S_CS nz_CS p2 T6.heap n0 O6 ) hZ6 (ow hw 3 rfl) (ow hw 2 rfl) (by decide) (by decide) hEL CR6.1) (g := (mkF m 12 #[.val (.int p0), .val (.int p1), .val (.int p2), .val (.ref os_2), .val (.ref os_7), .unset, .unset, .unset, .unset, .unset, .unset] [(.int p2)])) rfl (by rw [hml]; rfl) (argsL := [(.int p2)]) (rest := []) (lenOf own_pd28 rfl) rfl (by show 2 * 0 + _ ≤ _; exact Nat.le_of_eq rfl) (hb hby at_12) (fun _ _ => ⟨rfl, rfl, (by decide : 12 + 6 ≤ _), (by decide : 24 + 12 ≤ _)⟩)
  dsimp only [Pt.U, Pt.locs, Pt.cells, Pt.slots] at X11 l11 y11 z11 st11 hQ11 hS11 hg11 hCR11
  subst y11 z11
  refine Go.tr st11 ?_
  obtain ⟨XX11, hSS11, hZ11, hown11⟩ := rebS hSS6 (Nat.le_refl _) X11 hS11 hg11 hZ6 hown6
  obtain ⟨os_14, vb_15, kb_16, cs_17, rfl, N11q, K11q, q11_0, q11_1, q11_2, q11_3, q11_4, q11_5, q11_6⟩ := hQ11
  have N11 : Fr n0 L11 := by rw [l11]; exact Fr.app N6 N11q
  have CR11 := CR6.trans hCR11
  have O11 := O6.keep K11q all0
  have K11 : Keep h0 T11.heap [] := K6.trans K11q all0
  have sz_os_14 : h0.size ≤ os_14 := Nat.le_trans K6.1 q11_0
  have g_os_14 : n0 ≤ os_14 := Nat.le_trans (own_oldsz X00) sz_os_14
  show Go _ _ _ _ (T11.setTop (mkF m 15 #[lI p0, lI p1, lI p2, lR os_2, lR os_7, lU, lU, lU, lU, lU, lU] [(.ref os_14)]))
  refine Go.st (fun _ => XS.astore XX11.here hx rfl (hb hby at_15) rfl rfl (l' := #[.val (.int p0), .val (.int p1), .val (.int p2), .val (.ref os_2), .val (.ref os_7), .val (.ref os_14), .unset, .unset, .unset, .unset, .unset]) rfl) ?_
  show Go _ _ _ _ (T11.setTop (mkF m 17 #[lI p0, lI p1, lI p2, lR os_2, lR os_7, lR os_14, lU, lU, lU, lU, lU] []))
  have c19 := (c12.keep K11q)
  have c20 := (c13.keep K11q nin0)
  have c21 := (q6_1.keep K11q)
  have c22 := (q6_4.keep K11q nin0)
  obtain ⟨T18, h18, X18, e18, E18, A18, D18, -, st18⟩ := newO XX11 hx hZ11 hown11 (ow hw 37 rfl) (ow hw 38 rfl) (ow hw 39 rfl) rfl (g := (mkF m 17 #[.val (.int p0), .val (.int p1), .val (.int p2), .val (.ref os_2), .val (.ref os_7), .val (.ref os_14), .unset, .unset, .unset, .unset, .unset] [])) rfl (hb hby at_17) (by decide) (by decide)
  obtain ⟨b18, g18⟩ : ∃ z, z = T11.heap.size := ⟨_, rfl⟩
  rw [← g18] at A18 D18 st18
  refine Go.st st18 ?_
  have g_b18 : n0 ≤ b18 := Nat.le_trans (own_oldsz O11) (Nat.le_of_eq g18.symm)
  have sz_b18 : h0.size ≤ b18 := Nat.le_trans K11.1 (Nat.le_of_eq g18.symm)
  have K18 : Keep h0 h18 [] := K11.ext E18
  have O18 := O11.ext E18
  have SF_b18 : Safe Z consts_1 T11.vm h18 b18 := Safe.ext E18 CR11.1 (Safe.new (Nat.le_of_eq g18.symm))
  have CR18 := CR11.trans (CHr.ext E18 CR11.1)
  have F23 : Fld Z h18 b18 "com/example/strikeboard/strikeboard/engine/Explanation$Unused" "modifier" "Ljava/lang/String;" .null := D18 (Or.inr (ow hw 57 rfl)) (ty := (.object "java/lang/String")) (by decide)
  have F24 : Fld Z h18 b18 "com/example/strikeboard/strikeboard/engine/Explanation$Unused" "offence" "Ljava/lang/String;" .null := D18 (Or.inr (ow hw 59 rfl)) (ty := (.object "java/lang/String")) (by decide)
  have F25 : Fld Z h18 b18 "com/example/strikeboard/strikeboard/engine/Explanation$Unused" "used" "Ljava/lang/String;" .null := D18 (Or.inr (ow hw 61 rfl)) (ty := (.object "java/lang/String")) (by decide)
  show Go _ _ _ _ (T18.setTop (mkF m 20 #[lI p0, lI p1, lI p2, lR os_2, lR os_7, lR os_14, lU, lU, lU, lU, lU] [(.ref b18)]))
  refine Go.st (fun _ => XS.dup X18.here hx rfl (hb hby at_20) rfl rfl) ?_
  show Go _ _ _ _ (T18.setTop (mkF m 21 #[lI p0, lI p1, lI p2, lR os_2, lR os_7, lR os_14, lU, lU, lU, lU, lU] [(.ref b18), (.ref b18)]))
  refine Go.st (fun _ => XS.aloadN X18.here hx rfl (hb hby at_21) rfl rfl) ?_
  show Go _ _ _ _ (T18.setTop (mkF m 22 #[lI p0, lI p1, lI p2, lR os_2, lR os_7, lR os_14, lU, lU, lU, lU, lU] [(.ref os_2), (.ref b18), (.ref b18)]))
  refine Go.st (fun _ => XS.aload X18.here hx rfl (hb hby at_22) rfl rfl) ?_
  show Go _ _ _ _ (T18.setTop (mkF m 24 #[lI p0, lI p1, lI p2, lR os_2, lR os_7, lR os_14, lU, lU, lU, lU, lU] [(.ref os_7), (.ref os_2), (.ref b18), (.ref b18)]))
  refine Go.st (fun _ => XS.aload X18.here hx rfl (hb hby at_24) rfl rfl) ?_
  show Go _ _ _ _ (T18.setTop (mkF m 26 #[lI p0, lI p1, lI p2, lR os_2, lR os_7, lR os_14, lU, lU, lU, lU, lU] [(.ref os_14), (.ref os_7), (.ref os_2), (.ref b18), (.ref b18)]))
  have c27 := (c19.ext E18)
  have c28 := (c20.ext E18)
  have c29 := (c21.ext E18)
  have c30 := (c22.ext E18)
  have c31 := (q11_1.ext E18)
  have c32 := (q11_4.ext E18)
  obtain ⟨_, _, ⟨T26, L26, k26, n26⟩, -, X26, hS26, hg26, ⟨Lc26, hQ26, l26, y26, z26, hCR26⟩, st26⟩ := X18.specialBackS hx (y := (⟨"com/example/strikeboard/strikeboard/engine/Explanation$Unused", "<init>", "(Ljava/lang/String;Ljava/lang/String;Ljava/lang/String;)V"⟩ : MethodName)) rfl hown11 (mvT hZ11 (ow hw 40 rfl)) (mvT hZ11 (ow hw 41 rfl)) (mvT hZ11 (ow hw 42 rfl)) (by decide) (backOfSH (W := 1) (rm_uinit l Z a0 hw [] b18 os_2 os_7 os_14 h18 n0 O18 A18 F23 F24 F25 g_b18) hZ11 (ow hw 42 rfl) (ow hw 39 rfl) (by decide) (by decide) hEL CR18.1) (g := (mkF m 26 #[.val (.int p0), .val (.int p1), .val (.int p2), .val (.ref os_2), .val (.ref os_7), .val (.ref os_14), .unset, .unset, .unset, .unset, .unset] [(.ref os_14), (.ref os_7), (.ref os_2), (.ref b18), (.ref b18)])) rfl (by rw [hml]; rfl) (Steps.refl _) (a := b18) (argsL := [(.ref os_2), (.ref os_7), (.ref os_14)]) (rest := [(.ref b18)]) (lenOf own_pd29 rfl) rfl (by show 2 * 0 + _ ≤ _; exact Nat.le_of_eq rfl) (hb hby at_26) (fun _ _ => ⟨rfl, e18, (by decide : 19 + 6 ≤ _), (by decide : 39 + 88 ≤ _)⟩)
  dsimp only [Pt.U, Pt.locs, Pt.cells, Pt.slots] at X26 l26 y26 z26 st26 hQ26 hS26 hg26 hCR26
  subst y26 z26
  refine Go.tr st26 ?_
  obtain ⟨XX26, hSS26, hZ26, hown26⟩ := rebS hSS11 (by rw [e18]; exact (Nat.le_trans (Nat.le_refl _) E18.1)) X26 hS26 hg26 hZ11 hown11
  obtain ⟨rfl, N26q, K26q, q26_0, q26_1, q26_2, q26_3⟩ := hQ26
  have N26 : Fr n0 L26 := by rw [l26]; exact Fr.app N11 N26q
  have sf33 := hCR26.safe A18.lt SF_b18
  have CR26 := CR18.trans hCR26
  have O26 := O18.keep K26q (allS g_b18 all0)
  have K26 : Keep h0 T26.heap [] := K18.trans K26q (allS (Or.inr sz_b18) all0)
  show Go _ _ _ _ (T26.setTop (mkF m 29 #[lI p0, lI p1, lI p2, lR os_2, lR os_7, lR os_14, lU, lU, lU, lU, lU] [(.ref b18)]))
  refine Go.st (fun _ => XS.astore XX26.here hx rfl (hb hby at_29) rfl rfl (l' := #[.val (.int p0), .val (.int p1), .val (.int p2), .val (.ref os_2), .val (.ref os_7), .val (.ref os_14), .val (.ref b18), .unset, .unset, .unset, .unset]) rfl) ?_
  show Go _ _ _ _ (T26.setTop (mkF m 31 #[lI p0, lI p1, lI p2, lR os_2, lR os_7, lR os_14, lR b18, lU, lU, lU, lU] []))
  refine Go.st (fun _ => XS.aload XX26.here hx rfl (hb hby at_31) rfl rfl) ?_
  show Go _ _ _ _ (T26.setTop (mkF m 33 #[lI p0, lI p1, lI p2, lR os_2, lR os_7, lR os_14, lR b18, lU, lU, lU, lU] [(.ref b18)]))
  have c35 := (c27.keep K26q)
  have c36 := ((((q1_2.keep K6q nin0).keep K11q nin0).ext E18).keep K26q (ninS (Nat.ne_of_lt (Nat.lt_of_lt_of_le c19.lt (Nat.le_of_eq g18.symm))) nin0))
  have c37 := ((((q1_3.keep K6q nin0).keep K11q nin0).ext E18).keep K26q (ninS (Nat.ne_of_lt (Nat.lt_of_lt_of_le c19.lt (Nat.le_of_eq g18.symm))) nin0))
  have c38 := (c28.keep K26q (ninS (Nat.ne_of_lt (Nat.lt_of_lt_of_le c20.lt (Nat.le_of_eq g18.symm))) nin0))
  have c39 := (c29.keep K26q)
  have c40 := (((q6_2.keep K11q nin0).ext E18).keep K26q (ninS (Nat.ne_of_lt (Nat.lt_of_lt_of_le c21.lt (Nat.le_of_eq g18.symm))) nin0))
  have c41 := (((q6_3.keep K11q nin0).ext E18).keep K26q (ninS (Nat.ne_of_lt (Nat.lt_of_lt_of_le c21.lt (Nat.le_of_eq g18.symm))) nin0))
  have c42 := (c30.keep K26q (ninS (Nat.ne_of_lt (Nat.lt_of_lt_of_le c22.lt (Nat.le_of_eq g18.symm))) nin0))
  have c43 := (c31.keep K26q)
  have c44 := ((q11_2.ext E18).keep K26q (ninS (Nat.ne_of_lt (Nat.lt_of_lt_of_le q11_1.lt (Nat.le_of_eq g18.symm))) nin0))
  have c45 := ((q11_3.ext E18).keep K26q (ninS (Nat.ne_of_lt (Nat.lt_of_lt_of_le q11_1.lt (Nat.le_of_eq g18.symm))) nin0))
  have c46 := (c32.keep K26q (ninS (Nat.ne_of_lt (Nat.lt_of_lt_of_le q11_4.lt (Nat.le_of_eq g18.symm))) nin0))
  obtain ⟨cq34, kq34, q34a, q34b, q34c⟩ := isOf hZ26 rfl q26_0
  obtain ⟨_, _, ⟨T34, L34, k34, n34⟩, -, X34, hS34, hg34, ⟨Lc34, hQ34, l34, y34, z34, hCR34⟩, st34⟩ := XX26.virtualBackS hx (y := (⟨"com/example/strikeboard/strikeboard/engine/Explanation$Unused", "toString", "()Ljava/lang/String;"⟩ : MethodName)) (z := (⟨"com/example/strikeboard/strikeboard/engine/Explanation$Unused", "toString", "()Ljava/lang/String;"⟩ : MethodName)) hown26 (mvT hZ26 (ow hw 62 rfl)) (mvT hZ26 (ow hw 63 rfl)) (notFace_of_selects (args := #[]) (mvT hZ26 (ow hw 65 rfl))) (mvT hZ26 (ow hw 65 rfl)) (mvT hZ26 (ow hw 64 rfl)) (by decide) (backOfSH (W := 0) (rm_utos l Z a0 hw [] g_CS S_CS nz_CS b18 os_2 os_7 os_14 cs_5 vb_3 kb_4 cs_10 vb_8 kb_9 cs_17 vb_15 kb_16 T26.heap n0 O26 q26_0 q26_1 q26_2 q26_3 c35 c36 c37 c38 q1_5 (Nat.le_trans q1_6 (by decide)) c39 c40 c41 c42 q6_5 (Nat.le_trans q6_6 (by decide)) c43 c44 c45 c46 q11_5 (Nat.le_trans q11_6 (by decide)) q1_6 q6_6 q11_6) hZ26 (ow hw 66 rfl) (ow hw 39 rfl) (by decide) (by decide) hEL CR26.1) q34a q34c (g := (mkF m 33 #[.val (.int p0), .val (.int p1), .val (.int p2), .val (.ref os_2), .val (.ref os_7), .val (.ref os_14), .val (.ref b18), .unset, .unset, .unset, .unset] [(.ref b18)])) rfl (by rw [hml]; rfl) (Steps.refl _) (argsL := []) (rest := []) (lenOf own_pd26 rfl) rfl (by show 2 * 0 + _ ≤ _; exact Nat.le_of_eq rfl) (hb hby at_33) (fun _ _ => ⟨rfl, rfl, (by decide : 25 + 11 ≤ _), (by decide : 127 + 186 ≤ _)⟩)
  dsimp only [Pt.U, Pt.locs, Pt.cells, Pt.slots] at X34 l34 y34 z34 st34 hQ34 hS34 hg34 hCR34
  subst y34 z34
  refine Go.tr st34 ?_
  obtain ⟨XX34, hSS34, hZ34, hown34⟩ := rebS hSS26 (Nat.le_refl _) X34 hS34 hg34 hZ26 hown26
  obtain ⟨os_47, ob_48, kb_49, rfl, N34q, K34q, q34_0, q34_1, q34_2, q34_3, q34_4⟩ := hQ34
  have N34 : Fr n0 L34 := by rw [l34]; exact Fr.app N26 N34q
  have sf50 := hCR34.safe q26_0.lt sf33
  have CR34 := CR26.trans hCR34
  have O34 := O26.keep K34q all0
  have K34 : Keep h0 T34.heap [] := K26.trans K34q all0
  have sz_os_47 : h0.size ≤ os_47 := Nat.le_trans K26.1 q34_0
  have g_os_47 : n0 ≤ os_47 := Nat.le_trans (own_oldsz X00) sz_os_47
  show Go _ _ _ _ (T34.setTop (mkF m 36 #[lI p0, lI p1, lI p2, lR os_2, lR os_7, lR os_14, lR b18, lU, lU, lU, lU] [(.ref os_47)]))
  refine Go.st (fun _ => XS.astore XX34.here hx rfl (hb hby at_36) rfl rfl (l' := #[.val (.int p0), .val (.int p1), .val (.int p2), .val (.ref os_2), .val (.ref os_7), .val (.ref os_14), .val (.ref b18), .val (.ref os_47), .unset, .unset, .unset]) rfl) ?_
  show Go _ _ _ _ (T34.setTop (mkF m 38 #[lI p0, lI p1, lI p2, lR os_2, lR os_7, lR os_14, lR b18, lR os_47, lU, lU, lU] []))
  refine Go.st (fun _ => XS.aloadN XX34.here hx rfl (hb hby at_38) rfl rfl) ?_
  show Go _ _ _ _ (T34.setTop (mkF m 39 #[lI p0, lI p1, lI p2, lR os_2, lR os_7, lR os_14, lR b18, lR os_47, lU, lU, lU] [(.ref os_2)]))
  have c52 := (c35.keep K34q)
  have c53 := (c37.keep K34q nin0)
  have c54 := (c36.keep K34q nin0)
  have c55 := (c38.keep K34q nin0)
  have hcd51 : StrChars.Road.CodA cs_5 0 (Int32.ofNat cs_5.length) ((cs_5.map StrChars.lo8).map Value.int) := StrChars.Road.codOf (n := cs_5.length) rfl (fun c hc => (q1_5 c hc).2)
  obtain ⟨cq51, kq51, q51a, q51b, q51c⟩ := isOf hZ34 rfl c52
  obtain ⟨_, _, ⟨T51, L51, k51, n51⟩, -, X51, ⟨Lc51, hQ51, l51, y51, z51⟩, st51⟩ := XX34.virtualBack hx (y := (⟨"java/lang/String", "length", "()I"⟩ : MethodName)) (z := (⟨"java/lang/String", "length", "()I"⟩ : MethodName)) hown34 (mvT hZ34 (ow hw 197 rfl)) (mvT hZ34 (ow hw 97 rfl)) (notFace_of_selects (args := #[]) (mvT hZ34 (ow hw 99 rfl))) (mvT hZ34 (ow hw 99 rfl)) (mvT hZ34 (ow hw 98 rfl)) (by decide) (StrChars.Road.lenW (W := 0) hZ34 (fun d hd => hw d (own_wLen d hd)) (kI := 4) (ow hw 5 rfl) c52 c53 c54 c55 hcd51 (own_up _ q1_5) (S_CS.ext O34.2) nz_CS (Nat.le_trans q1_6 (by decide)) (by decide) (by decide)) q51a q51c (g := (mkF m 39 #[.val (.int p0), .val (.int p1), .val (.int p2), .val (.ref os_2), .val (.ref os_7), .val (.ref os_14), .val (.ref b18), .val (.ref os_47), .unset, .unset, .unset] [(.ref os_2)])) rfl (by rw [hml]; rfl) (Steps.refl _) (argsL := []) (rest := []) (lenOf own_pd8 rfl) rfl (by show 2 * 0 + _ ≤ _; exact Nat.le_of_eq rfl) (hb hby at_39) (fun _ _ => ⟨rfl, rfl, (by decide : 36 + 0 ≤ _), (by decide : 313 + 0 ≤ _)⟩)
  dsimp only [Pt.U, Pt.locs, Pt.cells, Pt.slots] at X51 l51 y51 z51 st51 hQ51
  subst y51 z51
  refine Go.tr st51 ?_
  obtain ⟨rfl, rfl, e51⟩ := hQ51
  have N51 : Fr n0 L51 := by rw [l51]; exact Fr.app N34 (Fr.nil n0)
  show Go _ _ _ _ (T51.setTop (mkF m 42 #[lI p0, lI p1, lI p2, lR os_2, lR os_7, lR os_14, lR b18, lR os_47, lU, lU, lU] [(.int (Int32.ofNat cs_5.length))]))
  refine Go.st (fun _ => XS.istore X51.here hx rfl (hb hby at_42) rfl (l' := #[.val (.int p0), .val (.int p1), .val (.int p2), .val (.ref os_2), .val (.ref os_7), .val (.ref os_14), .val (.ref b18), .val (.ref os_47), .val (.int (Int32.ofNat cs_5.length)), .unset, .unset]) rfl) ?_
  show Go _ _ _ _ (T51.setTop (mkF m 44 #[lI p0, lI p1, lI p2, lR os_2, lR os_7, lR os_14, lR b18, lR os_47, lI (Int32.ofNat cs_5.length), lU, lU] []))
  refine Go.st (fun _ => XS.aload X51.here hx rfl (hb hby at_44) rfl rfl) ?_
  show Go _ _ _ _ (T51.setTop (mkF m 46 #[lI p0, lI p1, lI p2, lR os_2, lR os_7, lR os_14, lR b18, lR os_47, lI (Int32.ofNat cs_5.length), lU, lU] [(.ref os_7)]))
  have c57 := (c39.keep K34q)
  have c58 := (c41.keep K34q nin0)
  have c59 := (c40.keep K34q nin0)
  have c60 := (c42.keep K34q nin0)
  have hcd56 : StrChars.Road.CodA cs_10 0 (Int32.ofNat cs_10.length) ((cs_10.map StrChars.lo8).map Value.int) := StrChars.Road.codOf (n := cs_10.length) rfl (fun c hc => (q6_5 c hc).2)
  obtain ⟨cq56, kq56, q56a, q56b, q56c⟩ := isOf hZ34 e51 c57
  obtain ⟨_, _, ⟨T56, L56, k56, n56⟩, -, X56, ⟨Lc56, hQ56, l56, y56, z56⟩, st56⟩ := X51.virtualBack hx (y := (⟨"java/lang/String", "length", "()I"⟩ : MethodName)) (z := (⟨"java/lang/String", "length", "()I"⟩ : MethodName)) hown34 (mvT hZ34 (ow hw 197 rfl)) (mvT hZ34 (ow hw 97 rfl)) (notFace_of_selects (args := #[]) (mvT hZ34 (ow hw 99 rfl))) (mvT hZ34 (ow hw 99 rfl)) (mvT hZ34 (ow hw 98 rfl)) (by decide) (StrChars.Road.lenW (W := 0) hZ34 (fun d hd => hw d (own_wLen d hd)) (kI := 4) (ow hw 5 rfl) c57 c58 c59 c60 hcd56 (own_up _ q6_5) (S_CS.ext O34.2) nz_CS (Nat.le_trans q6_6 (by decide)) (by decide) (by decide)) q56a q56c (g := (mkF m 46 #[.val (.int p0), .val (.int p1), .val (.int p2), .val (.ref os_2), .val (.ref os_7), .val (.ref os_14), .val (.ref b18), .val (.ref os_47), .val (.int (Int32.ofNat cs_5.length)), .unset, .unset] [(.ref os_7)])) rfl (by rw [hml]; rfl) (Steps.refl _) (argsL := []) (rest := []) (lenOf own_pd8 rfl) rfl (by show 2 * 0 + _ ≤ _; exact Nat.le_of_eq rfl) (hb hby at_46) (fun _ _ => ⟨rfl, e51, (by decide : 36 + 0 ≤ _), (by decide : 313 + 0 ≤ _)⟩)
  dsimp only [Pt.U, Pt.locs, Pt.cells, Pt.slots] at X56 l56 y56 z56 st56 hQ56
  subst y56 z56
  refine Go.tr st56 ?_
  obtain ⟨rfl, rfl, e56⟩ := hQ56
  have N56 : Fr n0 L56 := by rw [l56]; exact Fr.app N51 (Fr.nil n0)
  show Go _ _ _ _ (T56.setTop (mkF m 49 #[lI p0, lI p1, lI p2, lR os_2, lR os_7, lR os_14, lR b18, lR os_47, lI (Int32.ofNat cs_5.length), lU, lU] [(.int (Int32.ofNat cs_10.length))]))
  refine Go.st (fun _ => XS.istore X56.here hx rfl (hb hby at_49) rfl (l' := #[.val (.int p0), .val (.int p1), .val (.int p2), .val (.ref os_2), .val (.ref os_7), .val (.ref os_14), .val (.ref b18), .val (.ref os_47), .val (.int (Int32.ofNat cs_5.length)), .val (.int (Int32.ofNat cs_10.length)), .unset]) rfl) ?_
  show Go _ _ _ _ (T56.setTop (mkF m 51 #[lI p0, lI p1, lI p2, lR os_2, lR os_7, lR os_14, lR b18, lR os_47, lI (Int32.ofNat cs_5.length), lI (Int32.ofNat cs_10.length), lU] []))
  refine Go.st (fun _ => XS.aload X56.here hx rfl (hb hby at_51) rfl rfl) ?_
  show Go _ _ _ _ (T56.setTop (mkF m 53 #[lI p0, lI p1, lI p2, lR os_2, lR os_7, lR os_14, lR b18, lR os_47, lI (Int32.ofNat cs_5.length), lI (Int32.ofNat cs_10.length), lU] [(.ref os_14)]))
  have c62 := (c43.keep K34q)
  have c63 := (c45.keep K34q nin0)
  have c64 := (c44.keep K34q nin0)
  have c65 := (c46.keep K34q nin0)
  have hcd61 : StrChars.Road.CodA cs_17 0 (Int32.ofNat cs_17.length) ((cs_17.map StrChars.lo8).map Value.int) := StrChars.Road.codOf (n := cs_17.length) rfl (fun c hc => (q11_5 c hc).2)
  obtain ⟨cq61, kq61, q61a, q61b, q61c⟩ := isOf hZ34 e56 c62
  obtain ⟨_, _, ⟨T61, L61, k61, n61⟩, -, X61, ⟨Lc61, hQ61, l61, y61, z61⟩, st61⟩ := X56.virtualBack hx (y := (⟨"java/lang/String", "length", "()I"⟩ : MethodName)) (z := (⟨"java/lang/String", "length", "()I"⟩ : MethodName)) hown34 (mvT hZ34 (ow hw 197 rfl)) (mvT hZ34 (ow hw 97 rfl)) (notFace_of_selects (args := #[]) (mvT hZ34 (ow hw 99 rfl))) (mvT hZ34 (ow hw 99 rfl)) (mvT hZ34 (ow hw 98 rfl)) (by decide) (StrChars.Road.lenW (W := 0) hZ34 (fun d hd => hw d (own_wLen d hd)) (kI := 4) (ow hw 5 rfl) c62 c63 c64 c65 hcd61 (own_up _ q11_5) (S_CS.ext O34.2) nz_CS (Nat.le_trans q11_6 (by decide)) (by decide) (by decide)) q61a q61c (g := (mkF m 53 #[.val (.int p0), .val (.int p1), .val (.int p2), .val (.ref os_2), .val (.ref os_7), .val (.ref os_14), .val (.ref b18), .val (.ref os_47), .val (.int (Int32.ofNat cs_5.length)), .val (.int (Int32.ofNat cs_10.length)), .unset] [(.ref os_14)])) rfl (by rw [hml]; rfl) (Steps.refl _) (argsL := []) (rest := []) (lenOf own_pd8 rfl) rfl (by show 2 * 0 + _ ≤ _; exact Nat.le_of_eq rfl) (hb hby at_53) (fun _ _ => ⟨rfl, e56, (by decide : 36 + 0 ≤ _), (by decide : 313 + 0 ≤ _)⟩)
  dsimp only [Pt.U, Pt.locs, Pt.cells, Pt.slots] at X61 l61 y61 z61 st61 hQ61
  subst y61 z61
  refine Go.tr st61 ?_
  obtain ⟨rfl, rfl, e61⟩ := hQ61
  have N61 : Fr n0 L61 := by rw [l61]; exact Fr.app N56 (Fr.nil n0)
  show Go _ _ _ _ (T61.setTop (mkF m 56 #[lI p0, lI p1, lI p2, lR os_2, lR os_7, lR os_14, lR b18, lR os_47, lI (Int32.ofNat cs_5.length), lI (Int32.ofNat cs_10.length), lU] [(.int (Int32.ofNat cs_17.length))]))
  refine Go.st (fun _ => XS.istore X61.here hx rfl (hb hby at_56) rfl (l' := #[.val (.int p0), .val (.int p1), .val (.int p2), .val (.ref os_2), .val (.ref os_7), .val (.ref os_14), .val (.ref b18), .val (.ref os_47), .val (.int (Int32.ofNat cs_5.length)), .val (.int (Int32.ofNat cs_10.length)), .val (.int (Int32.ofNat cs_17.length))]) rfl) ?_
  show Go _ _ _ _ (T61.setTop (mkF m 58 #[lI p0, lI p1, lI p2, lR os_2, lR os_7, lR os_14, lR b18, lR os_47, lI (Int32.ofNat cs_5.length), lI (Int32.ofNat cs_10.length), lI (Int32.ofNat cs_17.length)] []))
  refine Go.st (fun _ => XS.aload X61.here hx rfl (hb hby at_58) rfl rfl) ?_
  show Go _ _ _ _ (T61.setTop (mkF m 60 #[lI p0, lI p1, lI p2, lR os_2, lR os_7, lR os_14, lR b18, lR os_47, lI (Int32.ofNat cs_5.length), lI (Int32.ofNat cs_10.length), lI (Int32.ofNat cs_17.length)] [(.ref os_47)]))
  refine Go.st (fun _ => XS.ifnullNo X61.here hx rfl (hb hby at_60) rfl) ?_
  show Go _ _ _ _ (T61.setTop (mkF m 63 #[lI p0, lI p1, lI p2, lR os_2, lR os_7, lR os_14, lR b18, lR os_47, lI (Int32.ofNat cs_5.length), lI (Int32.ofNat cs_10.length), lI (Int32.ofNat cs_17.length)] []))
  refine Go.st (fun _ => XS.aload X61.here hx rfl (hb hby at_63) rfl rfl) ?_
  show Go _ _ _ _ (T61.setTop (mkF m 65 #[lI p0, lI p1, lI p2, lR os_2, lR os_7, lR os_14, lR b18, lR os_47, lI (Int32.ofNat cs_5.length), lI (Int32.ofNat cs_10.length), lI (Int32.ofNat cs_17.length)] [(.ref os_47)]))
  have hcd66 : StrChars.Road.CodA (own_R cs_5 cs_10 cs_17) 0 (Int32.ofNat (own_R cs_5 cs_10 cs_17).length) (((own_R cs_5 cs_10 cs_17).map StrChars.lo8).map Value.int) := StrChars.Road.codOf (n := (own_R cs_5 cs_10 cs_17).length) rfl (fun c hc => ((own_smallR q1_5 q6_5 q11_5) c hc).2)
  obtain ⟨cq66, kq66, q66a, q66b, q66c⟩ := isOf hZ34 e61 q34_1
  obtain ⟨_, _, ⟨T66, L66, k66, n66⟩, -, X66, ⟨Lc66, hQ66, l66, y66, z66⟩, st66⟩ := X61.virtualBack hx (y := (⟨"java/lang/String", "length", "()I"⟩ : MethodName)) (z := (⟨"java/lang/String", "length", "()I"⟩ : MethodName)) hown34 (mvT hZ34 (ow hw 197 rfl)) (mvT hZ34 (ow hw 97 rfl)) (notFace_of_selects (args := #[]) (mvT hZ34 (ow hw 99 rfl))) (mvT hZ34 (ow hw 99 rfl)) (mvT hZ34 (ow hw 98 rfl)) (by decide) (StrChars.Road.lenW (W := 0) hZ34 (fun d hd => hw d (own_wLen d hd)) (kI := 4) (ow hw 5 rfl) q34_1 q34_3 q34_2 q34_4 hcd66 (own_up _ (own_smallR q1_5 q6_5 q11_5)) (S_CS.ext O34.2) nz_CS (own_leR q1_6 q6_6 q11_6) (by decide) (by decide)) q66a q66c (g := (mkF m 65 #[.val (.int p0), .val (.int p1), .val (.int p2), .val (.ref os_2), .val (.ref os_7), .val (.ref os_14), .val (.ref b18), .val (.ref os_47), .val (.int (Int32.ofNat cs_5.length)), .val (.int (Int32.ofNat cs_10.length)), .val (.int (Int32.ofNat cs_17.length))] [(.ref os_47)])) rfl (by rw [hml]; rfl) (Steps.refl _) (argsL := []) (rest := []) (lenOf own_pd8 rfl) rfl (by show 2 * 0 + _ ≤ _; exact Nat.le_of_eq rfl) (hb hby at_65) (fun _ _ => ⟨rfl, e61, (by decide : 36 + 0 ≤ _), (by decide : 313 + 0 ≤ _)⟩)
  dsimp only [Pt.U, Pt.locs, Pt.cells, Pt.slots] at X66 l66 y66 z66 st66 hQ66
  subst y66 z66
  refine Go.tr st66 ?_
  obtain ⟨rfl, rfl, e66⟩ := hQ66
  have N66 : Fr n0 L66 := by rw [l66]; exact Fr.app N61 (Fr.nil n0)
  show Go _ _ _ _ (T66.setTop (mkF m 68 #[lI p0, lI p1, lI p2, lR os_2, lR os_7, lR os_14, lR b18, lR os_47, lI (Int32.ofNat cs_5.length), lI (Int32.ofNat cs_10.length), lI (Int32.ofNat cs_17.length)] [(.int (Int32.ofNat (own_R cs_5 cs_10 cs_17).length))]))
  refine Go.st (fun _ => XS.bipush X66.here hx rfl (hb hby at_68)) ?_
  show Go _ _ _ _ (T66.setTop (mkF m 70 #[lI p0, lI p1, lI p2, lR os_2, lR os_7, lR os_14, lR b18, lR os_47, lI (Int32.ofNat cs_5.length), lI (Int32.ofNat cs_10.length), lI (Int32.ofNat cs_17.length)] [(.int (13 : Int32)), (.int (Int32.ofNat (own_R cs_5 cs_10 cs_17).length))]))
  refine Go.st (fun _ => XS.iload X66.here hx rfl (hb hby at_70) rfl) ?_
  show Go _ _ _ _ (T66.setTop (mkF m 72 #[lI p0, lI p1, lI p2, lR os_2, lR os_7, lR os_14, lR b18, lR os_47, lI (Int32.ofNat cs_5.length), lI (Int32.ofNat cs_10.length), lI (Int32.ofNat cs_17.length)] [(.int (Int32.ofNat cs_5.length)), (.int (13 : Int32)), (.int (Int32.ofNat (own_R cs_5 cs_10 cs_17).length))]))
  refine Go.st (fun _ => XS.iadd X66.here hx rfl (hb hby at_72) rfl) ?_
  show Go _ _ _ _ (T66.setTop (mkF m 73 #[lI p0, lI p1, lI p2, lR os_2, lR os_7, lR os_14, lR b18, lR os_47, lI (Int32.ofNat cs_5.length), lI (Int32.ofNat cs_10.length), lI (Int32.ofNat cs_17.length)] [(.int ((13 : Int32) + (Int32.ofNat cs_5.length))), (.int (Int32.ofNat (own_R cs_5 cs_10 cs_17).length))]))
  refine Go.st (fun _ => XS.iload X66.here hx rfl (hb hby at_73) rfl) ?_
  show Go _ _ _ _ (T66.setTop (mkF m 75 #[lI p0, lI p1, lI p2, lR os_2, lR os_7, lR os_14, lR b18, lR os_47, lI (Int32.ofNat cs_5.length), lI (Int32.ofNat cs_10.length), lI (Int32.ofNat cs_17.length)] [(.int (Int32.ofNat cs_10.length)), (.int ((13 : Int32) + (Int32.ofNat cs_5.length))), (.int (Int32.ofNat (own_R cs_5 cs_10 cs_17).length))]))
  refine Go.st (fun _ => XS.iadd X66.here hx rfl (hb hby at_75) rfl) ?_
  show Go _ _ _ _ (T66.setTop (mkF m 76 #[lI p0, lI p1, lI p2, lR os_2, lR os_7, lR os_14, lR b18, lR os_47, lI (Int32.ofNat cs_5.length), lI (Int32.ofNat cs_10.length), lI (Int32.ofNat cs_17.length)] [(.int (((13 : Int32) + (Int32.ofNat cs_5.length)) + (Int32.ofNat cs_10.length))), (.int (Int32.ofNat (own_R cs_5 cs_10 cs_17).length))]))
  refine Go.st (fun _ => XS.iload X66.here hx rfl (hb hby at_76) rfl) ?_
  show Go _ _ _ _ (T66.setTop (mkF m 78 #[lI p0, lI p1, lI p2, lR os_2, lR os_7, lR os_14, lR b18, lR os_47, lI (Int32.ofNat cs_5.length), lI (Int32.ofNat cs_10.length), lI (Int32.ofNat cs_17.length)] [(.int (Int32.ofNat cs_17.length)), (.int (((13 : Int32) + (Int32.ofNat cs_5.length)) + (Int32.ofNat cs_10.length))), (.int (Int32.ofNat (own_R cs_5 cs_10 cs_17).length))]))
  refine Go.st (fun _ => XS.iadd X66.here hx rfl (hb hby at_78) rfl) ?_
  show Go _ _ _ _ (T66.setTop (mkF m 79 #[lI p0, lI p1, lI p2, lR os_2, lR os_7, lR os_14, lR b18, lR os_47, lI (Int32.ofNat cs_5.length), lI (Int32.ofNat cs_10.length), lI (Int32.ofNat cs_17.length)] [(.int ((((13 : Int32) + (Int32.ofNat cs_5.length)) + (Int32.ofNat cs_10.length)) + (Int32.ofNat cs_17.length))), (.int (Int32.ofNat (own_R cs_5 cs_10 cs_17).length))]))
  have hb67 : (Int32.ofNat (own_R cs_5 cs_10 cs_17).length) = ((((13 : Int32) + (Int32.ofNat cs_5.length)) + (Int32.ofNat cs_10.length)) + (Int32.ofNat cs_17.length)) := own_totlen _ _ _
  refine Go.st (fun _ => XS.icmpYes X66.here hx rfl (pc0 := 79) (pc' := 84) rfl (hb hby at_79) rfl (teq hb67).1 (by decide) (by decide)) ?_
  show Go _ _ _ _ (T66.setTop (mkF m 84 #[lI p0, lI p1, lI p2, lR os_2, lR os_7, lR os_14, lR b18, lR os_47, lI (Int32.ofNat cs_5.length), lI (Int32.ofNat cs_10.length), lI (Int32.ofNat cs_17.length)] []))
  refine Go.st (fun _ => XS.aload X66.here hx rfl (hb hby at_84) rfl rfl) ?_
  show Go _ _ _ _ (T66.setTop (mkF m 86 #[lI p0, lI p1, lI p2, lR os_2, lR os_7, lR os_14, lR b18, lR os_47, lI (Int32.ofNat cs_5.length), lI (Int32.ofNat cs_10.length), lI (Int32.ofNat cs_17.length)] [(.ref os_47)]))
  refine Go.st (fun _ => XS.iconst X66.here hx rfl (hb hby at_86)) ?_
  show Go _ _ _ _ (T66.setTop (mkF m 87 #[lI p0, lI p1, lI p2, lR os_2, lR os_7, lR os_14, lR b18, lR os_47, lI (Int32.ofNat cs_5.length), lI (Int32.ofNat cs_10.length), lI (Int32.ofNat cs_17.length)] [(.int (0 : Int32)), (.ref os_47)]))
  have c69 := (q26_0.keep K34q)
  obtain ⟨a68, T68, h68, kk68, b68, kb68, X68, e68, E68, hS68, hk68, hZ68, hown68, Ea68, Ca68, Va68, Ab68, alt68, blt68, hCR68, Li68, hne68, st68⟩ := ldcCH X66 hx hZ34 hown34 (ow hw 198 rfl) (fun a ha => hw a (own_strAtoms a ha)) e66 hSS34 (Nat.le_refl _) hEL (by decide +kernel) CR34.1 (vs := [(.int (117 : Int32)), (.int (110 : Int32)), (.int (117 : Int32)), (.int (115 : Int32)), (.int (101 : Int32)), (.int (100 : Int32)), (.int (32 : Int32))]) (z := (7 : Int32)) (by decide +kernel) (by decide) rfl (g := (mkF m 87 #[.val (.int p0), .val (.int p1), .val (.int p2), .val (.ref os_2), .val (.ref os_7), .val (.ref os_14), .val (.ref b18), .val (.ref os_47), .val (.int (Int32.ofNat cs_5.length)), .val (.int (Int32.ofNat cs_10.length)), .val (.int (Int32.ofNat cs_17.length))] [(.int (0 : Int32)), (.ref os_47)])) rfl (hb hby at_87) (n := 28) (by decide +kernel) (by decide) (by decide) (by decide)
  refine Go.st st68 ?_
  have K68 : Keep h0 h68 [] := K34.ext E68
  have O68 := O34.ext E68
  have sf70 := hCR68.safe c69.lt sf50
  have CR68 := CR34.trans hCR68
  have ne71 := hne68 b18 sf70
  show Go _ _ _ _ (T68.setTop (mkF m 89 #[lI p0, lI p1, lI p2, lR os_2, lR os_7, lR os_14, lR b18, lR os_47, lI (Int32.ofNat cs_5.length), lI (Int32.ofNat cs_10.length), lI (Int32.ofNat cs_17.length)] [(.ref a68), (.int (0 : Int32)), (.ref os_47)]))
  have c73 := (q34_1.ext E68)
  have c74 := (q34_2.ext E68)
  have c75 := (q34_3.ext E68)
  have c76 := (q34_4.ext E68)
  obtain ⟨_, _, ⟨T72, L72, k72, n72⟩, -, X72, ⟨Lc72, hQ72, l72, y72, z72⟩, st72⟩ := Jvm.LawKit.callS X68 hx (y := (⟨"com/example/strikeboard/strikeboard/engine/UnusedToStringPinLaw", "strAt", "(Ljava/lang/String;ILjava/lang/String;)Z"⟩ : MethodName)) hown68 (mvT hZ68 (ow hw 199 rfl)) (mvT hZ68 (ow hw 200 rfl)) (mvT hZ68 (ow hw 2 rfl)) (mvT hZ68 (ow hw 201 rfl)) (by decide) (backOf (W := 0) (rm_strAt l Z a0 hw [] g_CS S_CS nz_CS g_SF S_SF r_SF os_47 (0 : Int32) a68 (own_R cs_5 cs_10 cs_17) ob_48 kb_49 ([(117 : Int32), (110 : Int32), (117 : Int32), (115 : Int32), (101 : Int32), (100 : Int32), (32 : Int32)] : List Int32) b68 kb68 0 h68 n0 O68 c73 c74 c75 c76 (own_smallR q1_5 q6_5 q11_5) (own_leR q1_6 q6_6 q11_6) Ea68 Ca68 Va68 (by rw [own_litU]; exact Ab68) (show ∀ c ∈ ([(117 : Int32), (110 : Int32), (117 : Int32), (115 : Int32), (101 : Int32), (100 : Int32), (32 : Int32)] : List Int32), ¬ c < 0 ∧ ¬ (255 : Int32) < c by decide) (Nat.le_of_ble_eq_true rfl) rfl (own_s1 _ _ _)) hZ68 (ow hw 201 rfl) (ow hw 2 rfl) (by decide) (by decide)) (g := (mkF m 89 #[.val (.int p0), .val (.int p1), .val (.int p2), .val (.ref os_2), .val (.ref os_7), .val (.ref os_14), .val (.ref b18), .val (.ref os_47), .val (.int (Int32.ofNat cs_5.length)), .val (.int (Int32.ofNat cs_10.length)), .val (.int (Int32.ofNat cs_17.length))] [(.ref a68), (.int (0 : Int32)), (.ref os_47)])) rfl (by rw [hml]; rfl) (argsL := [(.ref os_47), (.int (0 : Int32)), (.ref a68)]) (rest := []) (lenOf own_pd30 rfl) rfl (by show 2 * 0 + _ ≤ _; exact Nat.le_of_eq rfl) (hb hby at_89) (fun _ _ => ⟨rfl, e68, (by decide : 38 + 0 ≤ _), (by decide : 345 + 0 ≤ _)⟩)
  dsimp only [Pt.U, Pt.locs, Pt.cells, Pt.slots] at X72 l72 y72 z72 st72 hQ72
  subst y72 z72
  refine Go.st st72 ?_
  obtain ⟨rfl, N72q, e72⟩ := hQ72
  have N72 : Fr n0 L72 := by rw [l72]; exact Fr.app N66 N72q
  show Go _ _ _ _ (T72.setTop (mkF m 92 #[lI p0, lI p1, lI p2, lR os_2, lR os_7, lR os_14, lR b18, lR os_47, lI (Int32.ofNat cs_5.length), lI (Int32.ofNat cs_10.length), lI (Int32.ofNat cs_17.length)] [(.int (1 : Int32))]))
  refine Go.st (fun _ => XS.ifNo X72.here hx rfl (hb hby at_92) rfl ((if0 _ _).trans (feq (by decide)).1)) ?_
  show Go _ _ _ _ (T72.setTop (mkF m 95 #[lI p0, lI p1, lI p2, lR os_2, lR os_7, lR os_14, lR b18, lR os_47, lI (Int32.ofNat cs_5.length), lI (Int32.ofNat cs_10.length), lI (Int32.ofNat cs_17.length)] []))
  refine Go.st (fun _ => XS.aload X72.here hx rfl (hb hby at_95) rfl rfl) ?_
  show Go _ _ _ _ (T72.setTop (mkF m 97 #[lI p0, lI p1, lI p2, lR os_2, lR os_7, lR os_14, lR b18, lR os_47, lI (Int32.ofNat cs_5.length), lI (Int32.ofNat cs_10.length), lI (Int32.ofNat cs_17.length)] [(.ref os_47)]))
  refine Go.st (fun _ => XS.bipush X72.here hx rfl (hb hby at_97)) ?_
  show Go _ _ _ _ (T72.setTop (mkF m 99 #[lI p0, lI p1, lI p2, lR os_2, lR os_7, lR os_14, lR b18, lR os_47, lI (Int32.ofNat cs_5.length), lI (Int32.ofNat cs_10.length), lI (Int32.ofNat cs_17.length)] [(.int (7 : Int32)), (.ref os_47)]))
  refine Go.st (fun _ => XS.aloadN X72.here hx rfl (hb hby at_99) rfl rfl) ?_
  show Go _ _ _ _ (T72.setTop (mkF m 100 #[lI p0, lI p1, lI p2, lR os_2, lR os_7, lR os_14, lR b18, lR os_47, lI (Int32.ofNat cs_5.length), lI (Int32.ofNat cs_10.length), lI (Int32.ofNat cs_17.length)] [(.ref os_2), (.int (7 : Int32)), (.ref os_47)]))
  have c78 := (c52.ext E68)
  have c79 := (c54.ext E68)
  have c80 := (c53.ext E68)
  have c81 := (c55.ext E68)
  obtain ⟨_, _, ⟨T77, L77, k77, n77⟩, -, X77, ⟨Lc77, hQ77, l77, y77, z77⟩, st77⟩ := Jvm.LawKit.callS X72 hx (y := (⟨"com/example/strikeboard/strikeboard/engine/UnusedToStringPinLaw", "strAt", "(Ljava/lang/String;ILjava/lang/String;)Z"⟩ : MethodName)) hown68 (mvT hZ68 (ow hw 199 rfl)) (mvT hZ68 (ow hw 200 rfl)) (mvT hZ68 (ow hw 2 rfl)) (mvT hZ68 (ow hw 201 rfl)) (by decide) (backOf (W := 0) (rm_strAt l Z a0 hw [] g_CS S_CS nz_CS g_SF S_SF r_SF os_47 (7 : Int32) os_2 (own_R cs_5 cs_10 cs_17) ob_48 kb_49 cs_5 vb_3 kb_4 7 h68 n0 O68 c73 c74 c75 c76 (own_smallR q1_5 q6_5 q11_5) (own_leR q1_6 q6_6 q11_6) c78 c79 c80 c81 q1_5 (Nat.le_trans q1_6 (by decide)) rfl (own_s2 _ _ _)) hZ68 (ow hw 201 rfl) (ow hw 2 rfl) (by decide) (by decide)) (g := (mkF m 100 #[.val (.int p0), .val (.int p1), .val (.int p2), .val (.ref os_2), .val (.ref os_7), .val (.ref os_14), .val (.ref b18), .val (.ref os_47), .val (.int (Int32.ofNat cs_5.length)), .val (.int (Int32.ofNat cs_10.length)), .val (.int (Int32.ofNat cs_17.length))] [(.ref os_2), (.int (7 : Int32)), (.ref os_47)])) rfl (by rw [hml]; rfl) (argsL := [(.ref os_47), (.int (7 : Int32)), (.ref os_2)]) (rest := []) (lenOf own_pd30 rfl) rfl (by show 2 * 0 + _ ≤ _; exact Nat.le_of_eq rfl) (hb hby at_100) (fun _ _ => ⟨rfl, e72, (by decide : 38 + 0 ≤ _), (by decide : 345 + 0 ≤ _)⟩)
  dsimp only [Pt.U, Pt.locs, Pt.cells, Pt.slots] at X77 l77 y77 z77 st77 hQ77
  subst y77 z77
  refine Go.st st77 ?_
  obtain ⟨rfl, N77q, e77⟩ := hQ77
  have N77 : Fr n0 L77 := by rw [l77]; exact Fr.app N72 N77q
  show Go _ _ _ _ (T77.setTop (mkF m 103 #[lI p0, lI p1, lI p2, lR os_2, lR os_7, lR os_14, lR b18, lR os_47, lI (Int32.ofNat cs_5.length), lI (Int32.ofNat cs_10.length), lI (Int32.ofNat cs_17.length)] [(.int (1 : Int32))]))
  refine Go.st (fun _ => XS.ifNo X77.here hx rfl (hb hby at_103) rfl ((if0 _ _).trans (feq (by decide)).1)) ?_
  show Go _ _ _ _ (T77.setTop (mkF m 106 #[lI p0, lI p1, lI p2, lR os_2, lR os_7, lR os_14, lR b18, lR os_47, lI (Int32.ofNat cs_5.length), lI (Int32.ofNat cs_10.length), lI (Int32.ofNat cs_17.length)] []))
  refine Go.st (fun _ => XS.aload X77.here hx rfl (hb hby at_106) rfl rfl) ?_
  show Go _ _ _ _ (T77.setTop (mkF m 108 #[lI p0, lI p1, lI p2, lR os_2, lR os_7, lR os_14, lR b18, lR os_47, lI (Int32.ofNat cs_5.length), lI (Int32.ofNat cs_10.length), lI (Int32.ofNat cs_17.length)] [(.ref os_47)]))
  refine Go.st (fun _ => XS.bipush X77.here hx rfl (hb hby at_108)) ?_
  show Go _ _ _ _ (T77.setTop (mkF m 110 #[lI p0, lI p1, lI p2, lR os_2, lR os_7, lR os_14, lR b18, lR os_47, lI (Int32.ofNat cs_5.length), lI (Int32.ofNat cs_10.length), lI (Int32.ofNat cs_17.length)] [(.int (7 : Int32)), (.ref os_47)]))
  refine Go.st (fun _ => XS.iload X77.here hx rfl (hb hby at_110) rfl) ?_
  show Go _ _ _ _ (T77.setTop (mkF m 112 #[lI p0, lI p1, lI p2, lR os_2, lR os_7, lR os_14, lR b18, lR os_47, lI (Int32.ofNat cs_5.length), lI (Int32.ofNat cs_10.length), lI (Int32.ofNat cs_17.length)] [(.int (Int32.ofNat cs_5.length)), (.int (7 : Int32)), (.ref os_47)]))
  refine Go.st (fun _ => XS.iadd X77.here hx rfl (hb hby at_112) rfl) ?_
  show Go _ _ _ _ (T77.setTop (mkF m 113 #[lI p0, lI p1, lI p2, lR os_2, lR os_7, lR os_14, lR b18, lR os_47, lI (Int32.ofNat cs_5.length), lI (Int32.ofNat cs_10.length), lI (Int32.ofNat cs_17.length)] [(.int ((7 : Int32) + (Int32.ofNat cs_5.length))), (.ref os_47)]))
  have c83 := (c57.ext E68)
  have c84 := (c60.ext E68)
  have c85 := (c62.ext E68)
  have c86 := (c65.ext E68)
  have c87 := (c69.ext E68)
  obtain ⟨a82, T82, h82, kk82, b82, kb82, X82, e82, E82, hS82, hk82, hZ82, hown82, Ea82, Ca82, Va82, Ab82, alt82, blt82, hCR82, Li82, hne82, st82⟩ := ldcCH X77 hx hZ68 hown68 (ow hw 224 rfl) (fun a ha => hw a (own_strAtoms a ha)) e77 hS68 hk68 hEL (by decide +kernel) CR68.1 (vs := [(.int (32 : Int32))]) (z := (1 : Int32)) (by decide +kernel) (by decide) rfl (g := (mkF m 113 #[.val (.int p0), .val (.int p1), .val (.int p2), .val (.ref os_2), .val (.ref os_7), .val (.ref os_14), .val (.ref b18), .val (.ref os_47), .val (.int (Int32.ofNat cs_5.length)), .val (.int (Int32.ofNat cs_10.length)), .val (.int (Int32.ofNat cs_17.length))] [(.int ((7 : Int32) + (Int32.ofNat cs_5.length))), (.ref os_47)])) rfl (hb hby at_113) (n := 4) (by decide +kernel) (by decide) (by decide) (by decide)
  refine Go.st st82 ?_
  have K82 : Keep h0 h82 [] := K68.ext E82
  have O82 := O68.ext E82
  have sf88 := hCR82.safe c87.lt sf70
  have CR82 := CR68.trans hCR82
  have ne89 := hne82 b18 sf88
  show Go _ _ _ _ (T82.setTop (mkF m 115 #[lI p0, lI p1, lI p2, lR os_2, lR os_7, lR os_14, lR b18, lR os_47, lI (Int32.ofNat cs_5.length), lI (Int32.ofNat cs_10.length), lI (Int32.ofNat cs_17.length)] [(.ref a82), (.int ((7 : Int32) + (Int32.ofNat cs_5.length))), (.ref os_47)]))
  have c91 := (c73.ext E82)
  have c92 := (c74.ext E82)
  have c93 := (c75.ext E82)
  have c94 := (c76.ext E82)
  obtain ⟨_, _, ⟨T90, L90, k90, n90⟩, -, X90, ⟨Lc90, hQ90, l90, y90, z90⟩, st90⟩ := Jvm.LawKit.callS X82 hx (y := (⟨"com/example/strikeboard/strikeboard/engine/UnusedToStringPinLaw", "strAt", "(Ljava/lang/String;ILjava/lang/String;)Z"⟩ : MethodName)) hown82 (mvT hZ82 (ow hw 199 rfl)) (mvT hZ82 (ow hw 200 rfl)) (mvT hZ82 (ow hw 2 rfl)) (mvT hZ82 (ow hw 201 rfl)) (by decide) (backOf (W := 0) (rm_strAt l Z a0 hw [] g_CS S_CS nz_CS g_SF S_SF r_SF os_47 ((7 : Int32) + (Int32.ofNat cs_5.length)) a82 (own_R cs_5 cs_10 cs_17) ob_48 kb_49 ([(32 : Int32)] : List Int32) b82 kb82 (7 + cs_5.length) h82 n0 O82 c91 c92 c93 c94 (own_smallR q1_5 q6_5 q11_5) (own_leR q1_6 q6_6 q11_6) Ea82 Ca82 Va82 (by rw [own_litS]; exact Ab82) (show ∀ c ∈ ([(32 : Int32)] : List Int32), ¬ c < 0 ∧ ¬ (255 : Int32) < c by decide) (Nat.le_of_ble_eq_true rfl) (own_addj (k := 7) cs_5.length rfl) (own_s3 _ _ _)) hZ82 (ow hw 201 rfl) (ow hw 2 rfl) (by decide) (by decide)) (g := (mkF m 115 #[.val (.int p0), .val (.int p1), .val (.int p2), .val (.ref os_2), .val (.ref os_7), .val (.ref os_14), .val (.ref b18), .val (.ref os_47), .val (.int (Int32.ofNat cs_5.length)), .val (.int (Int32.ofNat cs_10.length)), .val (.int (Int32.ofNat cs_17.length))] [(.ref a82), (.int ((7 : Int32) + (Int32.ofNat cs_5.length))), (.ref os_47)])) rfl (by rw [hml]; rfl) (argsL := [(.ref os_47), (.int ((7 : Int32) + (Int32.ofNat cs_5.length))), (.ref a82)]) (rest := []) (lenOf own_pd30 rfl) rfl (by show 2 * 0 + _ ≤ _; exact Nat.le_of_eq rfl) (hb hby at_115) (fun _ _ => ⟨rfl, e82, (by decide : 40 + 0 ≤ _), (by decide : 353 + 0 ≤ _)⟩)
  dsimp only [Pt.U, Pt.locs, Pt.cells, Pt.slots] at X90 l90 y90 z90 st90 hQ90
  subst y90 z90
  refine Go.st st90 ?_
  obtain ⟨rfl, N90q, e90⟩ := hQ90
  have N90 : Fr n0 L90 := by rw [l90]; exact Fr.app N77 N90q
  show Go _ _ _ _ (T90.setTop (mkF m 118 #[lI p0, lI p1, lI p2, lR os_2, lR os_7, lR os_14, lR b18, lR os_47, lI (Int32.ofNat cs_5.length), lI (Int32.ofNat cs_10.length), lI (Int32.ofNat cs_17.length)] [(.int (1 : Int32))]))
  refine Go.st (fun _ => XS.ifNo X90.here hx rfl (hb hby at_118) rfl ((if0 _ _).trans (feq (by decide)).1)) ?_
  show Go _ _ _ _ (T90.setTop (mkF m 121 #[lI p0, lI p1, lI p2, lR os_2, lR os_7, lR os_14, lR b18, lR os_47, lI (Int32.ofNat cs_5.length), lI (Int32.ofNat cs_10.length), lI (Int32.ofNat cs_17.length)] []))
  refine Go.st (fun _ => XS.aload X90.here hx rfl (hb hby at_121) rfl rfl) ?_
  show Go _ _ _ _ (T90.setTop (mkF m 123 #[lI p0, lI p1, lI p2, lR os_2, lR os_7, lR os_14, lR b18, lR os_47, lI (Int32.ofNat cs_5.length), lI (Int32.ofNat cs_10.length), lI (Int32.ofNat cs_17.length)] [(.ref os_47)]))
  refine Go.st (fun _ => XS.bipush X90.here hx rfl (hb hby at_123)) ?_
  show Go _ _ _ _ (T90.setTop (mkF m 125 #[lI p0, lI p1, lI p2, lR os_2, lR os_7, lR os_14, lR b18, lR os_47, lI (Int32.ofNat cs_5.length), lI (Int32.ofNat cs_10.length), lI (Int32.ofNat cs_17.length)] [(.int (8 : Int32)), (.ref os_47)]))
  refine Go.st (fun _ => XS.iload X90.here hx rfl (hb hby at_125) rfl) ?_
  show Go _ _ _ _ (T90.setTop (mkF m 127 #[lI p0, lI p1, lI p2, lR os_2, lR os_7, lR os_14, lR b18, lR os_47, lI (Int32.ofNat cs_5.length), lI (Int32.ofNat cs_10.length), lI (Int32.ofNat cs_17.length)] [(.int (Int32.ofNat cs_5.length)), (.int (8 : Int32)), (.ref os_47)]))
  refine Go.st (fun _ => XS.iadd X90.here hx rfl (hb hby at_127) rfl) ?_
  show Go _ _ _ _ (T90.setTop (mkF m 128 #[lI p0, lI p1, lI p2, lR os_2, lR os_7, lR os_14, lR b18, lR os_47, lI (Int32.ofNat cs_5.length), lI (Int32.ofNat cs_10.length), lI (Int32.ofNat cs_17.length)] [(.int ((8 : Int32) + (Int32.ofNat cs_5.length))), (.ref os_47)]))
  refine Go.st (fun _ => XS.aload X90.here hx rfl (hb hby at_128) rfl rfl) ?_
  show Go _ _ _ _ (T90.setTop (mkF m 130 #[lI p0, lI p1, lI p2, lR os_2, lR os_7, lR os_14, lR b18, lR os_47, lI (Int32.ofNat cs_5.length), lI (Int32.ofNat cs_10.length), lI (Int32.ofNat cs_17.length)] [(.ref os_7), (.int ((8 : Int32) + (Int32.ofNat cs_5.length))), (.ref os_47)]))
  have c96 := (c83.ext E82)
  have c97 := ((c59.ext E68).ext E82)
  have c98 := ((c58.ext E68).ext E82)
  have c99 := (c84.ext E82)
  obtain ⟨_, _, ⟨T95, L95, k95, n95⟩, -, X95, ⟨Lc95, hQ95, l95, y95, z95⟩, st95⟩ := Jvm.LawKit.callS X90 hx (y := (⟨"com/example/strikeboard/strikeboard/engine/UnusedToStringPinLaw", "strAt", "(Ljava/lang/String;ILjava/lang/String;)Z"⟩ : MethodName)) hown82 (mvT hZ82 (ow hw 199 rfl)) (mvT hZ82 (ow hw 200 rfl)) (mvT hZ82 (ow hw 2 rfl)) (mvT hZ82 (ow hw 201 rfl)) (by decide) (backOf (W := 0) (rm_strAt l Z a0 hw [] g_CS S_CS nz_CS g_SF S_SF r_SF os_47 ((8 : Int32) + (Int32.ofNat cs_5.length)) os_7 (own_R cs_5 cs_10 cs_17) ob_48 kb_49 cs_10 vb_8 kb_9 (8 + cs_5.length) h82 n0 O82 c91 c92 c93 c94 (own_smallR q1_5 q6_5 q11_5) (own_leR q1_6 q6_6 q11_6) c96 c97 c98 c99 q6_5 (Nat.le_trans q6_6 (by decide)) (own_addj (k := 8) cs_5.length rfl) (own_s4 _ _ _)) hZ82 (ow hw 201 rfl) (ow hw 2 rfl) (by decide) (by decide)) (g := (mkF m 130 #[.val (.int p0), .val (.int p1), .val (.int p2), .val (.ref os_2), .val (.ref os_7), .val (.ref os_14), .val (.ref b18), .val (.ref os_47), .val (.int (Int32.ofNat cs_5.length)), .val (.int (Int32.ofNat cs_10.length)), .val (.int (Int32.ofNat cs_17.length))] [(.ref os_7), (.int ((8 : Int32) + (Int32.ofNat cs_5.length))), (.ref os_47)])) rfl (by rw [hml]; rfl) (argsL := [(.ref os_47), (.int ((8 : Int32) + (Int32.ofNat cs_5.length))), (.ref os_7)]) (rest := []) (lenOf own_pd30 rfl) rfl (by show 2 * 0 + _ ≤ _; exact Nat.le_of_eq rfl) (hb hby at_130) (fun _ _ => ⟨rfl, e90, (by decide : 40 + 0 ≤ _), (by decide : 353 + 0 ≤ _)⟩)
  dsimp only [Pt.U, Pt.locs, Pt.cells, Pt.slots] at X95 l95 y95 z95 st95 hQ95
  subst y95 z95
  refine Go.st st95 ?_
  obtain ⟨rfl, N95q, e95⟩ := hQ95
  have N95 : Fr n0 L95 := by rw [l95]; exact Fr.app N90 N95q
  show Go _ _ _ _ (T95.setTop (mkF m 133 #[lI p0, lI p1, lI p2, lR os_2, lR os_7, lR os_14, lR b18, lR os_47, lI (Int32.ofNat cs_5.length), lI (Int32.ofNat cs_10.length), lI (Int32.ofNat cs_17.length)] [(.int (1 : Int32))]))
  refine Go.st (fun _ => XS.ifNo X95.here hx rfl (hb hby at_133) rfl ((if0 _ _).trans (feq (by decide)).1)) ?_
  show Go _ _ _ _ (T95.setTop (mkF m 136 #[lI p0, lI p1, lI p2, lR os_2, lR os_7, lR os_14, lR b18, lR os_47, lI (Int32.ofNat cs_5.length), lI (Int32.ofNat cs_10.length), lI (Int32.ofNat cs_17.length)] []))
  refine Go.st (fun _ => XS.aload X95.here hx rfl (hb hby at_136) rfl rfl) ?_
  show Go _ _ _ _ (T95.setTop (mkF m 138 #[lI p0, lI p1, lI p2, lR os_2, lR os_7, lR os_14, lR b18, lR os_47, lI (Int32.ofNat cs_5.length), lI (Int32.ofNat cs_10.length), lI (Int32.ofNat cs_17.length)] [(.ref os_47)]))
  refine Go.st (fun _ => XS.bipush X95.here hx rfl (hb hby at_138)) ?_
  show Go _ _ _ _ (T95.setTop (mkF m 140 #[lI p0, lI p1, lI p2, lR os_2, lR os_7, lR os_14, lR b18, lR os_47, lI (Int32.ofNat cs_5.length), lI (Int32.ofNat cs_10.length), lI (Int32.ofNat cs_17.length)] [(.int (8 : Int32)), (.ref os_47)]))
  refine Go.st (fun _ => XS.iload X95.here hx rfl (hb hby at_140) rfl) ?_
  show Go _ _ _ _ (T95.setTop (mkF m 142 #[lI p0, lI p1, lI p2, lR os_2, lR os_7, lR os_14, lR b18, lR os_47, lI (Int32.ofNat cs_5.length), lI (Int32.ofNat cs_10.length), lI (Int32.ofNat cs_17.length)] [(.int (Int32.ofNat cs_5.length)), (.int (8 : Int32)), (.ref os_47)]))
  refine Go.st (fun _ => XS.iadd X95.here hx rfl (hb hby at_142) rfl) ?_
  show Go _ _ _ _ (T95.setTop (mkF m 143 #[lI p0, lI p1, lI p2, lR os_2, lR os_7, lR os_14, lR b18, lR os_47, lI (Int32.ofNat cs_5.length), lI (Int32.ofNat cs_10.length), lI (Int32.ofNat cs_17.length)] [(.int ((8 : Int32) + (Int32.ofNat cs_5.length))), (.ref os_47)]))
  refine Go.st (fun _ => XS.iload X95.here hx rfl (hb hby at_143) rfl) ?_
  show Go _ _ _ _ (T95.setTop (mkF m 145 #[lI p0, lI p1, lI p2, lR os_2, lR os_7, lR os_14, lR b18, lR os_47, lI (Int32.ofNat cs_5.length), lI (Int32.ofNat cs_10.length), lI (Int32.ofNat cs_17.length)] [(.int (Int32.ofNat cs_10.length)), (.int ((8 : Int32) + (Int32.ofNat cs_5.length))), (.ref os_47)]))
  refine Go.st (fun _ => XS.iadd X95.here hx rfl (hb hby at_145) rfl) ?_
  show Go _ _ _ _ (T95.setTop (mkF m 146 #[lI p0, lI p1, lI p2, lR os_2, lR os_7, lR os_14, lR b18, lR os_47, lI (Int32.ofNat cs_5.length), lI (Int32.ofNat cs_10.length), lI (Int32.ofNat cs_17.length)] [(.int (((8 : Int32) + (Int32.ofNat cs_5.length)) + (Int32.ofNat cs_10.length))), (.ref os_47)]))
  have c101 := (c78.ext E82)
  have c102 := (c81.ext E82)
  have c103 := (c85.ext E82)
  have c104 := (c86.ext E82)
  have c105 := (c87.ext E82)
  have c106 := (Ea68.ext E82)
  have c107 := (Ab68.ext E82)
  obtain ⟨a100, T100, h100, kk100, b100, kb100, X100, e100, E100, hS100, hk100, hZ100, hown100, Ea100, Ca100, Va100, Ab100, alt100, blt100, hCR100, Li100, hne100, st100⟩ := ldcCH X95 hx hZ82 hown82 (ow hw 225 rfl) (fun a ha => hw a (own_strAtoms a ha)) e95 hS82 hk82 hEL (by decide +kernel) CR82.1 (vs := [(.int (32 : Int32)), (.int (102 : Int32)), (.int (111 : Int32)), (.int (114 : Int32)), (.int (32 : Int32))]) (z := (5 : Int32)) (by decide +kernel) (by decide) rfl (g := (mkF m 146 #[.val (.int p0), .val (.int p1), .val (.int p2), .val (.ref os_2), .val (.ref os_7), .val (.ref os_14), .val (.ref b18), .val (.ref os_47), .val (.int (Int32.ofNat cs_5.length)), .val (.int (Int32.ofNat cs_10.length)), .val (.int (Int32.ofNat cs_17.length))] [(.int (((8 : Int32) + (Int32.ofNat cs_5.length)) + (Int32.ofNat cs_10.length))), (.ref os_47)])) rfl (hb hby at_146) (n := 20) (by decide +kernel) (by decide) (by decide) (by decide)
  refine Go.st st100 ?_
  have K100 : Keep h0 h100 [] := K82.ext E100
  have O100 := O82.ext E100
  have sf108 := hCR100.safe c105.lt sf88
  have CR100 := CR82.trans hCR100
  have ne109 := hne100 b18 sf108
  show Go _ _ _ _ (T100.setTop (mkF m 148 #[lI p0, lI p1, lI p2, lR os_2, lR os_7, lR os_14, lR b18, lR os_47, lI (Int32.ofNat cs_5.length), lI (Int32.ofNat cs_10.length), lI (Int32.ofNat cs_17.length)] [(.ref a100), (.int (((8 : Int32) + (Int32.ofNat cs_5.length)) + (Int32.ofNat cs_10.length))), (.ref os_47)]))
  have c111 := (c91.ext E100)
  have c112 := (c92.ext E100)
  have c113 := (c93.ext E100)
  have c114 := (c94.ext E100)
  obtain ⟨_, _, ⟨T110, L110, k110, n110⟩, -, X110, ⟨Lc110, hQ110, l110, y110, z110⟩, st110⟩ := Jvm.LawKit.callS X100 hx (y := (⟨"com/example/strikeboard/strikeboard/engine/UnusedToStringPinLaw", "strAt", "(Ljava/lang/String;ILjava/lang/String;)Z"⟩ : MethodName)) hown100 (mvT hZ100 (ow hw 199 rfl)) (mvT hZ100 (ow hw 200 rfl)) (mvT hZ100 (ow hw 2 rfl)) (mvT hZ100 (ow hw 201 rfl)) (by decide) (backOf (W := 0) (rm_strAt l Z a0 hw [] g_CS S_CS nz_CS g_SF S_SF r_SF os_47 (((8 : Int32) + (Int32.ofNat cs_5.length)) + (Int32.ofNat cs_10.length)) a100 (own_R cs_5 cs_10 cs_17) ob_48 kb_49 ([(32 : Int32), (102 : Int32), (111 : Int32), (114 : Int32), (32 : Int32)] : List Int32) b100 kb100 (8 + cs_5.length + cs_10.length) h100 n0 O100 c111 c112 c113 c114 (own_smallR q1_5 q6_5 q11_5) (own_leR q1_6 q6_6 q11_6) Ea100 Ca100 Va100 (by rw [own_litF]; exact Ab100) (show ∀ c ∈ ([(32 : Int32), (102 : Int32), (111 : Int32), (114 : Int32), (32 : Int32)] : List Int32), ¬ c < 0 ∧ ¬ (255 : Int32) < c by decide) (Nat.le_of_ble_eq_true rfl) (own_addj cs_10.length (own_addj (k := 8) cs_5.length rfl)) (own_s5 _ _ _)) hZ100 (ow hw 201 rfl) (ow hw 2 rfl) (by decide) (by decide)) (g := (mkF m 148 #[.val (.int p0), .val (.int p1), .val (.int p2), .val (.ref os_2), .val (.ref os_7), .val (.ref os_14), .val (.ref b18), .val (.ref os_47), .val (.int (Int32.ofNat cs_5.length)), .val (.int (Int32.ofNat cs_10.length)), .val (.int (Int32.ofNat cs_17.length))] [(.ref a100), (.int (((8 : Int32) + (Int32.ofNat cs_5.length)) + (Int32.ofNat cs_10.length))), (.ref os_47)])) rfl (by rw [hml]; rfl) (argsL := [(.ref os_47), (.int (((8 : Int32) + (Int32.ofNat cs_5.length)) + (Int32.ofNat cs_10.length))), (.ref a100)]) (rest := []) (lenOf own_pd30 rfl) rfl (by show 2 * 0 + _ ≤ _; exact Nat.le_of_eq rfl) (hb hby at_148) (fun _ _ => ⟨rfl, e100, (by decide : 42 + 0 ≤ _), (by decide : 377 + 0 ≤ _)⟩)
  dsimp only [Pt.U, Pt.locs, Pt.cells, Pt.slots] at X110 l110 y110 z110 st110 hQ110
  subst y110 z110
  refine Go.st st110 ?_
  obtain ⟨rfl, N110q, e110⟩ := hQ110
  have N110 : Fr n0 L110 := by rw [l110]; exact Fr.app N95 N110q
  show Go _ _ _ _ (T110.setTop (mkF m 151 #[lI p0, lI p1, lI p2, lR os_2, lR os_7, lR os_14, lR b18, lR os_47, lI (Int32.ofNat cs_5.length), lI (Int32.ofNat cs_10.length), lI (Int32.ofNat cs_17.length)] [(.int (1 : Int32))]))
  refine Go.st (fun _ => XS.ifNo X110.here hx rfl (hb hby at_151) rfl ((if0 _ _).trans (feq (by decide)).1)) ?_
  show Go _ _ _ _ (T110.setTop (mkF m 154 #[lI p0, lI p1, lI p2, lR os_2, lR os_7, lR os_14, lR b18, lR os_47, lI (Int32.ofNat cs_5.length), lI (Int32.ofNat cs_10.length), lI (Int32.ofNat cs_17.length)] []))
  refine Go.st (fun _ => XS.aload X110.here hx rfl (hb hby at_154) rfl rfl) ?_
  show Go _ _ _ _ (T110.setTop (mkF m 156 #[lI p0, lI p1, lI p2, lR os_2, lR os_7, lR os_14, lR b18, lR os_47, lI (Int32.ofNat cs_5.length), lI (Int32.ofNat cs_10.length), lI (Int32.ofNat cs_17.length)] [(.ref os_47)]))
  refine Go.st (fun _ => XS.bipush X110.here hx rfl (hb hby at_156)) ?_
  show Go _ _ _ _ (T110.setTop (mkF m 158 #[lI p0, lI p1, lI p2, lR os_2, lR os_7, lR os_14, lR b18, lR os_47, lI (Int32.ofNat cs_5.length), lI (Int32.ofNat cs_10.length), lI (Int32.ofNat cs_17.length)] [(.int (13 : Int32)), (.ref os_47)]))
  refine Go.st (fun _ => XS.iload X110.here hx rfl (hb hby at_158) rfl) ?_
  show Go _ _ _ _ (T110.setTop (mkF m 160 #[lI p0, lI p1, lI p2, lR os_2, lR os_7, lR os_14, lR b18, lR os_47, lI (Int32.ofNat cs_5.length), lI (Int32.ofNat cs_10.length), lI (Int32.ofNat cs_17.length)] [(.int (Int32.ofNat cs_5.length)), (.int (13 : Int32)), (.ref os_47)]))
  refine Go.st (fun _ => XS.iadd X110.here hx rfl (hb hby at_160) rfl) ?_
  show Go _ _ _ _ (T110.setTop (mkF m 161 #[lI p0, lI p1, lI p2, lR os_2, lR os_7, lR os_14, lR b18, lR os_47, lI (Int32.ofNat cs_5.length), lI (Int32.ofNat cs_10.length), lI (Int32.ofNat cs_17.length)] [(.int ((13 : Int32) + (Int32.ofNat cs_5.length))), (.ref os_47)]))
  refine Go.st (fun _ => XS.iload X110.here hx rfl (hb hby at_161) rfl) ?_
  show Go _ _ _ _ (T110.setTop (mkF m 163 #[lI p0, lI p1, lI p2, lR os_2, lR os_7, lR os_14, lR b18, lR os_47, lI (Int32.ofNat cs_5.length), lI (Int32.ofNat cs_10.length), lI (Int32.ofNat cs_17.length)] [(.int (Int32.ofNat cs_10.length)), (.int ((13 : Int32) + (Int32.ofNat cs_5.length))), (.ref os_47)]))
  refine Go.st (fun _ => XS.iadd X110.here hx rfl (hb hby at_163) rfl) ?_
  show Go _ _ _ _ (T110.setTop (mkF m 164 #[lI p0, lI p1, lI p2, lR os_2, lR os_7, lR os_14, lR b18, lR os_47, lI (Int32.ofNat cs_5.length), lI (Int32.ofNat cs_10.length), lI (Int32.ofNat cs_17.length)] [(.int (((13 : Int32) + (Int32.ofNat cs_5.length)) + (Int32.ofNat cs_10.length))), (.ref os_47)]))
  refine Go.st (fun _ => XS.aload X110.here hx rfl (hb hby at_164) rfl rfl) ?_
  show Go _ _ _ _ (T110.setTop (mkF m 166 #[lI p0, lI p1, lI p2, lR os_2, lR os_7, lR os_14, lR b18, lR os_47, lI (Int32.ofNat cs_5.length), lI (Int32.ofNat cs_10.length), lI (Int32.ofNat cs_17.length)] [(.ref os_14), (.int (((13 : Int32) + (Int32.ofNat cs_5.length)) + (Int32.ofNat cs_10.length))), (.ref os_47)]))
  have c116 := (c103.ext E100)
  have c117 := (((c64.ext E68).ext E82).ext E100)
  have c118 := (((c63.ext E68).ext E82).ext E100)
  have c119 := (c104.ext E100)
  obtain ⟨_, _, ⟨T115, L115, k115, n115⟩, -, X115, ⟨Lc115, hQ115, l115, y115, z115⟩, st115⟩ := Jvm.LawKit.callS X110 hx (y := (⟨"com/example/strikeboard/strikeboard/engine/UnusedToStringPinLaw", "strAt", "(Ljava/lang/String;ILjava/lang/String;)Z"⟩ : MethodName)) hown100 (mvT hZ100 (ow hw 199 rfl)) (mvT hZ100 (ow hw 200 rfl)) (mvT hZ100 (ow hw 2 rfl)) (mvT hZ100 (ow hw 201 rfl)) (by decide) (backOf (W := 0) (rm_strAt l Z a0 hw [] g_CS S_CS nz_CS g_SF S_SF r_SF os_47 (((13 : Int32) + (Int32.ofNat cs_5.length)) + (Int32.ofNat cs_10.length)) os_14 (own_R cs_5 cs_10 cs_17) ob_48 kb_49 cs_17 vb_15 kb_16 (13 + cs_5.length + cs_10.length) h100 n0 O100 c111 c112 c113 c114 (own_smallR q1_5 q6_5 q11_5) (own_leR q1_6 q6_6 q11_6) c116 c117 c118 c119 q11_5 (Nat.le_trans q11_6 (by decide)) (own_addj cs_10.length (own_addj (k := 13) cs_5.length rfl)) (own_s6 _ _ _)) hZ100 (ow hw 201 rfl) (ow hw 2 rfl) (by decide) (by decide)) (g := (mkF m 166 #[.val (.int p0), .val (.int p1), .val (.int p2), .val (.ref os_2), .val (.ref os_7), .val (.ref os_14), .val (.ref b18), .val (.ref os_47), .val (.int (Int32.ofNat cs_5.length)), .val (.int (Int32.ofNat cs_10.length)), .val (.int (Int32.ofNat cs_17.length))] [(.ref os_14), (.int (((13 : Int32) + (Int32.ofNat cs_5.length)) + (Int32.ofNat cs_10.length))), (.ref os_47)])) rfl (by rw [hml]; rfl) (argsL := [(.ref os_47), (.int (((13 : Int32) + (Int32.ofNat cs_5.length)) + (Int32.ofNat cs_10.length))), (.ref os_14)]) (rest := []) (lenOf own_pd30 rfl) rfl (by show 2 * 0 + _ ≤ _; exact Nat.le_of_eq rfl) (hb hby at_166) (fun _ _ => ⟨rfl, e110, (by decide : 42 + 0 ≤ _), (by decide : 377 + 0 ≤ _)⟩)
  dsimp only [Pt.U, Pt.locs, Pt.cells, Pt.slots] at X115 l115 y115 z115 st115 hQ115
  subst y115 z115
  refine Go.st st115 ?_
  obtain ⟨rfl, N115q, e115⟩ := hQ115
  have N115 : Fr n0 L115 := by rw [l115]; exact Fr.app N110 N115q
  show Go _ _ _ _ (T115.setTop (mkF m 169 #[lI p0, lI p1, lI p2, lR os_2, lR os_7, lR os_14, lR b18, lR os_47, lI (Int32.ofNat cs_5.length), lI (Int32.ofNat cs_10.length), lI (Int32.ofNat cs_17.length)] [(.int (1 : Int32))]))
  refine Go.st (fun _ => XS.ifNo X115.here hx rfl (hb hby at_169) rfl ((if0 _ _).trans (feq (by decide)).1)) ?_
  show Go _ _ _ _ (T115.setTop (mkF m 172 #[lI p0, lI p1, lI p2, lR os_2, lR os_7, lR os_14, lR b18, lR os_47, lI (Int32.ofNat cs_5.length), lI (Int32.ofNat cs_10.length), lI (Int32.ofNat cs_17.length)] []))
  refine Go.st (fun _ => XS.iconst X115.here hx rfl (hb hby at_172)) ?_
  show Go _ _ _ _ (T115.setTop (mkF m 173 #[lI p0, lI p1, lI p2, lR os_2, lR os_7, lR os_14, lR b18, lR os_47, lI (Int32.ofNat cs_5.length), lI (Int32.ofNat cs_10.length), lI (Int32.ofNat cs_17.length)] [(.int (1 : Int32))]))
  refine Go.st (fun _ => XS.goto X115.here hx rfl (pc0 := 173) (pc' := 177) rfl (hb hby at_173) (by decide) (by decide)) ?_
  show Go _ _ _ _ (T115.setTop (mkF m 177 #[lI p0, lI p1, lI p2, lR os_2, lR os_7, lR os_14, lR b18, lR os_47, lI (Int32.ofNat cs_5.length), lI (Int32.ofNat cs_10.length), lI (Int32.ofNat cs_17.length)] [(.int (1 : Int32))]))
  obtain ⟨fs, hr, hrun, hended, -, hW, hpair, hsame⟩ := X115.leaveW hS100 (by rw [e115]; exact hk100) (v := some (.int (1 : Int32))) (fun h => by rw [Bd.returns] at h; cases h)
  have hCRe := CR100.trans (CHv.at X115 hZ100 hEL CR100.1)
  refine ⟨_, ?_, hPend _ _ hrun hended ⟨_, _, rfl, ?_, ?_, ⟨_, rfl⟩, hW, hpair, hsame.mono (by decide) (by decide)⟩⟩
  · exact retN X115 hx (t := .boolean) Bd.returns (by simp) (hb hby at_177) hr
  · show Q_rm_law Z _ _ _ _ _ h0 n0 _ T115.heap _
    rw [e115]
    exact ⟨rfl, N115, K100⟩
  · show CHr Z consts_1 s.vm s.heap T115.vm T115.heap
    rw [hh, e115]
    exact hCRe
set_option maxRecDepth 65536 in
set_option maxHeartbeats 40000000 in
theorem comes_1 {Post : Tables → Env → Array Value → State → Outcome → State → Prop} (hpost : ∀ tb e args s v u, (limb_1_1.after args s (.returned v) u = true ∧ limb_1_2.after args s (.returned v) u = true ∧ True) → ReturnedEndW s (.returned v) u (Jvm.fieldLocs frame_1_writes args s ++ Jvm.arrayLocs frame_1_arrays args s ++ Jvm.staticLocs frame_1_statics s) 64 10624 → Post tb e args s (.returned v) u) :
    ArmFor flags0 classFile x code maxLocals ret World_1 tables_1 room_1 Calls_1 rest_1 Pre_1 Post := by
  intro l hfl _ _ p e ha hc hk s m args below hf hA hF happ hP
  obtain ⟨hcalls, hrest, hpre⟩ := hP
  obtain ⟨-, -, -, hnamed, -, -, -, hat⟩ := (Spec.applies_iff hf).mp happ
  obtain ⟨hg, hn⟩ := and_e (Cond.before_iff.mp (show (Jvm.Cond.and given_1 narrow_1).before args s = true from hpre))
  obtain ⟨hc_1, hc_2⟩ := and_e hg
  obtain ⟨hc_3, hc_4⟩ := and_e hc_2
  obtain ⟨hc_5, hc_6⟩ := and_e hc_4
  obtain ⟨w0, w1, w2, rfl⟩ : ∃ w0 w1 w2 : Value, args = #[w0, w1, w2] := by
    have hs : args.size = 3 := by simpa [Cond.value, given_1] using hc_1
    obtain ⟨L⟩ := args
    match L, hs with
    | [w0, w1, w2], _ => exact ⟨w0, w1, w2, rfl⟩
  have hw := fun d (hd : d ∈ tables_1) => atoms_spec (ws := Jvm.Cond.code x code maxLocals ret :: tables_1) hat d (List.mem_cons_of_mem _ hd)
  have hfit : Fit s := fun {y c} hc i hi => by
    obtain ⟨ha, rfl⟩ := Array.getElem?_eq_some_iff.mp hc
    have q := List.all_eq_true.mp ((Array.all_eq_true_iff_forall_mem.mp hF) _ (Array.getElem_mem ha)) i (List.mem_range.mpr hi)
    simpa [Array.getElem?_eq_getElem hi] using q
  obtain ⟨hsets, hown0⟩ := atoms_of _ (rest_1_c_eq ▸ (show rest_1_c.before _ s = true from hrest))
  have nCS := not_v (Cond.before_iff.mp (hsets _ (List.mem_of_getElem? (i := 2) rfl)))
  obtain ⟨g_CS, eCS⟩ := is_v (Cond.before_iff.mp (hsets _ (List.mem_of_getElem? (i := 1) rfl)))
  have S_CS := Sta.start eCS (Or.inl (hsets _ (List.mem_of_getElem? (i := 0) rfl)))
  have nz_CS : ¬ (g_CS = (0 : Int32)) := gotF (Cond.eq_ints eCS (Term.int_eval (0))) nCS
  obtain ⟨g_SF, eSF, r_SF⟩ := isR_v (Cond.before_iff.mp (hsets _ (List.mem_of_getElem? (i := 8) rfl)))
  have S_SF := Sta.start eSF (Or.inl (hsets _ (List.mem_of_getElem? (i := 7) rfl)))
  obtain ⟨i0, ea0⟩ := is_v hc_3
  obtain rfl : w0 = (.int i0) := Option.some.inj ea0
  obtain ⟨i1, ea1⟩ := is_v hc_5
  obtain rfl : w1 = (.int i1) := Option.some.inj ea1
  obtain ⟨i2, ea2⟩ := is_v hc_6
  obtain rfl : w2 = (.int i2) := Option.some.inj ea2
  obtain ⟨n, o, h1, h2, h3, _, L, rfl, ⟨rfl, N, _⟩, -, hq⟩ := rm_law l s _ hw tables_1 g_CS S_CS nz_CS g_SF S_SF r_SF i0 i1 i2 s.heap s.heap.size (Old.start s) p e ha hc hk s m _ below hf ((Spec.applies_iff_loose hf).mp happ).1 ⟨rfl, State.Warmed39.refl s, rfl, (CHv.start (own_EW s _ hw) (fun p hp => hcalls.1 p hp) (hsets _ (List.mem_of_getElem? (i := 2) rfl)) (ow hw 19 rfl) (ow hw 5 rfl))⟩ trivial
  refine ⟨n, _, h1, h2, h3, hpost _ _ _ _ _ _ ⟨Cond.after_iff.mpr rfl, Cond.after_iff.mpr (eq_i res_at (Term.int_eval (1)) rfl), trivial⟩ ⟨hq.1, hq.2.1, hq.2.2.1, (hq.2.2.2.sift fun y hy => Or.inr (N y hy)).mono (by decide) (by decide)⟩⟩
theorem main_1_1 : Claimed_1_1 := comes_1 fun _ _ _ _ _ _ h hF => ⟨h.1, hF⟩
theorem main_1_2 : Claimed_1_2 := comes_1 fun _ _ _ _ _ _ h hF => ⟨h.2.1, hF⟩
end Jvm.Pilot.@@N@@
namespace Jvm.Pilot.@@N@@
open Jvm Jvm.ClassFile Sem Op Lib Jvm.Free Jvm.Stand Jvm.Pilot.@@N@@.Jvm.D
/-! MADE BY PROGRAM (witnessworld.py) out of the Statement's table words and the real class files: 29 classes; the members and pool entries that the words name. The judged class is class 1, her method 3. -/
namespace start1
open Jvm.ClassFile
def u (s : String) : CpInfo := .utf8 (stringToUtf16 s)
/-- a pool by its gaps: so many unusable entries, then the entry; so many at the end -/
def gap : Nat → List CpInfo → List CpInfo
  | 0, r => r
  | n + 1, r => .unusable :: gap n r
def poolList (es : List (Nat × CpInfo)) (last : Nat) : List CpInfo := es.foldr (fun e r => gap e.1 (e.2 :: r)) (gap last [])
def pool (es : List (Nat × CpInfo)) (last : Nat) : Array CpInfo := ⟨poolList es last⟩
def fileOf (pool : Array CpInfo) (this : Nat) (attrs : Array Attribute := #[]) (ms : Array MethodInfo := #[]) (fl : Nat := 33) (sup : Nat := 0) (ifs : Array Nat := #[]) (fds : Array FieldInfo := #[]) : ClassFile where
  minorVersion := 0
  majorVersion := 65
  constantPool := pool
  accessFlags := fl
  thisClass := this
  superClass := sup
  interfaces := ifs
  fields := fds
  methods := ms
  attributes := attrs
def plain (name : String) (sup : Option ClassId) : Class where
  name := name
  kind := .ordinary
  loader := none
  accessFlags := 33
  super := sup
  interfaces := #[]
  cf := none
  fields := #[]
  methods := #[]
  instanceTypes := #[]
  staticTypes := #[]
  resolved := #[]
  callSites := []
  init := .initialized
  statics := none
  mirror := none

def pool0 : Array CpInfo := pool [(5, u "<init>"), (0, u "()V"), (1, .class_ 10), (1, u "java/lang/Object"), (85, u "clone"), (0, u "()Ljava/lang/Object;")] 26

def k0c0 : Code := { maxStack := 0, maxLocals := 1, code := object_method_1_code, exceptionTable := #[], attributes := #[] }
def k0m0 : Method := { name := "<init>", desc := "()V", sig := { parameters := [], returnType := none }, accessFlags := 1, code := some k0c0 }
def k0m1 : Method := { name := "clone", desc := "()Ljava/lang/Object;", sig := { parameters := [], returnType := some (.object "java/lang/Object") }, accessFlags := 260, code := none }
/-- java/lang/Object -/
def k0 : Class := { plain "java/lang/Object" none with
  accessFlags := 33
  interfaces := #[]
  cf := some (fileOf pool0 8 #[] #[{ accessFlags := 1, nameIndex := 5, descriptorIndex := 6, attributes := #[] }, { accessFlags := 260, nameIndex := 96, descriptorIndex := 97, attributes := #[] }] 33 0 #[] #[])
  fields := #[]
  methods := #[k0m0, k0m1]
  instanceTypes := #[]
  staticTypes := #[]
  resolved := Array.replicate 124 none
  statics := none }

def pool1 : Array CpInfo := pool [(2, .class_ 4), (1, u "java/lang/Object"), (0, u "<init>"), (0, u "()V"), (0, .class_ 8), (0, u "java/lang/String"), (0, .methodref 7 10), (0, .nameAndType 5 11), (0, u "([C)V"), (0, .methodref 7 13), (0, .nameAndType 14 15), (0, u "valueOf"), (0, u "(C)Ljava/lang/String;"), (0, .methodref 7 17), (0, .nameAndType 18 19), (0, u "length"), (0, u "()I"), (0, .methodref 7 21), (0, .nameAndType 22 23), (0, u "charAt"), (0, u "(I)C"), (0, .methodref 25 26), (0, .class_ 27), (0, .nameAndType 28 29), (0, u "com/example/strikeboard/strikeboard/engine/UnusedToStringPinLaw"), (0, u "mk"), (0, u "(I)Ljava/lang/String;"), (0, .class_ 31), (0, u "com/example/strikeboard/strikeboard/engine/Explanation$Unused"), (0, .methodref 30 33), (0, .nameAndType 5 34), (0, u "(Ljava/lang/String;Ljava/lang/String;Ljava/lang/String;)V"), (0, .methodref 30 36), (0, .nameAndType 37 38), (0, u "toString"), (0, u "()Ljava/lang/String;"), (0, .string 40), (0, u "unused "), (0, .methodref 25 42), (0, .nameAndType 43 44), (0, u "strAt"), (0, u "(Ljava/lang/String;ILjava/lang/String;)Z"), (0, .string 46), (0, u " "), (0, .string 48), (0, u " for "), (3, u "law"), (0, u "(III)Z")] 6

def k1m0 : Method := { name := "<init>", desc := "()V", sig := { parameters := [], returnType := none }, accessFlags := 2, code := none }
def k1c1 : Code := { maxStack := 6, maxLocals := 5, code := method_2_code, exceptionTable := #[], attributes := #[] }
def k1m1 : Method := { name := "mk", desc := "(I)Ljava/lang/String;", sig := { parameters := [.int], returnType := some (.object "java/lang/String") }, accessFlags := 10, code := some k1c1 }
def k1c2 : Code := { maxStack := 3, maxLocals := 4, code := method_3_code, exceptionTable := #[], attributes := #[] }
def k1m2 : Method := { name := "strAt", desc := "(Ljava/lang/String;ILjava/lang/String;)Z", sig := { parameters := [(.object "java/lang/String"), .int, (.object "java/lang/String")], returnType := some .boolean }, accessFlags := 10, code := some k1c2 }
def k1c3 : Code := { maxStack := 5, maxLocals := 11, code := code, exceptionTable := #[], attributes := #[] }
def k1m3 : Method := { name := "law", desc := "(III)Z", sig := { parameters := [.int, .int, .int], returnType := some .boolean }, accessFlags := 9, code := some k1c3 }
/-- com/example/strikeboard/strikeboard/engine/UnusedToStringPinLaw -/
def k1 : Class := { plain "com/example/strikeboard/strikeboard/engine/UnusedToStringPinLaw" (some 0) with
  accessFlags := 49
  interfaces := #[]
  cf := some (fileOf pool1 25 #[] #[{ accessFlags := 2, nameIndex := 5, descriptorIndex := 6, attributes := #[] }, { accessFlags := 10, nameIndex := 28, descriptorIndex := 29, attributes := #[] }, { accessFlags := 10, nameIndex := 43, descriptorIndex := 44, attributes := #[] }, { accessFlags := 9, nameIndex := 52, descriptorIndex := 53, attributes := #[] }] 49 2 #[] #[])
  fields := #[]
  methods := #[k1m0, k1m1, k1m2, k1m3]
  instanceTypes := #[]
  staticTypes := #[]
  resolved := Array.replicate 60 none
  statics := none }

def pool2 : Array CpInfo := pool [(1, .class_ 2), (0, u "java/io/Serializable"), (0, .class_ 4), (0, u "java/lang/Object")] 2

/-- java/io/Serializable -/
def k2 : Class := { plain "java/io/Serializable" (some 0) with
  accessFlags := 1537
  interfaces := #[]
  cf := some (fileOf pool2 1 #[] #[] 1537 3 #[] #[])
  fields := #[]
  methods := #[]
  instanceTypes := #[]
  staticTypes := #[]
  resolved := Array.replicate 7 none
  statics := none }

def pool3 : Array CpInfo := pool [(1, .class_ 2), (0, u "java/lang/Comparable"), (0, .class_ 4), (0, u "java/lang/Object")] 7

/-- java/lang/Comparable -/
def k3 : Class := { plain "java/lang/Comparable" (some 0) with
  accessFlags := 1537
  interfaces := #[]
  cf := some (fileOf pool3 1 #[] #[] 1537 3 #[] #[])
  fields := #[]
  methods := #[]
  instanceTypes := #[]
  staticTypes := #[]
  resolved := Array.replicate 12 none
  statics := none }

def pool4 : Array CpInfo := pool [(2, .class_ 4), (1, u "java/lang/CharSequence"), (42, .class_ 48), (0, u "java/lang/CharSequence$1CodePointIterator"), (10, .class_ 60), (0, u "java/lang/CharSequence$1CharIterator"), (5, .class_ 67), (0, u "java/lang/Object")] 63

/-- java/lang/CharSequence -/
def k4 : Class := { plain "java/lang/CharSequence" (some 0) with
  accessFlags := 1537
  interfaces := #[]
  cf := some (fileOf pool4 2 #[.nestMembers #[47, 59]] #[] 1537 66 #[] #[])
  fields := #[]
  methods := #[]
  instanceTypes := #[]
  staticTypes := #[]
  resolved := Array.replicate 131 none
  statics := none }

def pool5 : Array CpInfo := pool [(1, .class_ 2), (0, u "java/lang/constant/Constable"), (0, .class_ 4), (0, u "java/lang/Object")] 6

/-- java/lang/constant/Constable -/
def k5 : Class := { plain "java/lang/constant/Constable" (some 0) with
  accessFlags := 1537
  interfaces := #[]
  cf := some (fileOf pool5 1 #[] #[] 1537 3 #[] #[])
  fields := #[]
  methods := #[]
  instanceTypes := #[]
  staticTypes := #[]
  resolved := Array.replicate 11 none
  statics := none }

def pool6 : Array CpInfo := pool [(1, .class_ 2), (0, u "java/lang/constant/ConstantDesc"), (0, .class_ 4), (0, u "java/lang/Object")] 32

/-- java/lang/constant/ConstantDesc -/
def k6 : Class := { plain "java/lang/constant/ConstantDesc" (some 0) with
  accessFlags := 1537
  interfaces := #[]
  cf := some (fileOf pool6 1 #[] #[] 1537 3 #[] #[])
  fields := #[]
  methods := #[]
  instanceTypes := #[]
  staticTypes := #[]
  resolved := Array.replicate 37 none
  statics := none }

def pool7 : Array CpInfo := pool [(1, .methodref 2 3), (0, .class_ 4), (0, .nameAndType 5 6), (0, u "java/lang/Object"), (0, u "<init>"), (0, u "()V"), (0, .string 8), (0, u ""), (0, .fieldref 10 11), (0, .class_ 12), (0, .nameAndType 13 14), (0, u "java/lang/String"), (0, u "value"), (0, u "[B"), (0, .fieldref 10 16), (0, .nameAndType 17 18), (0, u "coder"), (0, u "B"), (2, u "hash"), (0, u "I"), (2, u "hashIsZero"), (0, u "Z"), (0, .methodref 10 28), (0, .nameAndType 5 29), (0, u "([CIILjava/lang/Void;)V"), (8, .fieldref 10 39), (0, .nameAndType 40 26), (0, u "COMPACT_STRINGS"), (1, .class_ 44), (1, u "java/lang/StringUTF16"), (0, u "compress"), (1, .methodref 42 48), (0, .nameAndType 49 50), (0, u "coderFromArrayLen"), (0, u "([BI)B"), (2, u "toBytes"), (0, .methodref 55 56), (0, .class_ 57), (0, .nameAndType 58 59), (0, u "java/util/Arrays"), (0, u "copyOfRange"), (0, u "([BII)[B"), (47, .class_ 109), (1, u "java/lang/StringLatin1"), (32, u "()Z"), (34, .methodref 42 178), (0, .nameAndType 45 179), (0, u "([CII)[B"), (13, .class_ 195), (1, u "java/lang/System"), (13, .methodref 10 210), (0, .nameAndType 5 211), (0, u "([BB)V"), (0, .methodref 193 213), (0, .nameAndType 214 215), (0, u "arraycopy"), (0, u "(Ljava/lang/Object;ILjava/lang/Object;II)V"), (118, u "()I"), (0, .methodref 10 336), (0, .nameAndType 17 337), (0, u "()B"), (2, u "()[B"), (22, u "([BI)C"), (5, u "(C)Z"), (21, u "(II)V"), (35, u "(I)C"), (61, .methodref 10 490), (0, .nameAndType 5 491), (0, u "(Ljava/lang/AbstractStringBuilder;Ljava/lang/Void;)V"), (0, .methodref 10 493), (0, .nameAndType 494 142), (0, u "isLatin1"), (0, .methodref 107 496), (0, .nameAndType 497 363), (0, u "charAt"), (3, u "checkIndex"), (4, .nameAndType 507 334), (0, u "length"), (24, u "getBytes"), (16, .methodref 550 506), (0, .class_ 551), (0, u "java/lang/AbstractStringBuilder"), (0, .methodref 550 553), (0, .nameAndType 554 340), (0, u "getValue"), (20, .class_ 576), (0, u "java/lang/CharSequence"), (22, u "CASE_INSENSITIVE_ORDER"), (0, u "Ljava/util/Comparator;"), (181, u "valueOf"), (0, u "(C)Ljava/lang/String;"), (37, u "([BIB)V"), (188, u "([C)V"), (4, .methodref 107 1016), (0, .nameAndType 1017 369), (0, u "canEncode"), (0, .methodref 107 1019), (0, .nameAndType 53 1020), (0, u "(C)[B"), (26, .methodref 550 493), (5, .fieldref 1054 1055), (0, .class_ 1056), (0, .nameAndType 1057 1058), (0, u "jdk/internal/util/Preconditions"), (0, u "SIOOBE_FORMATTER"), (0, u "Ljava/util/function/BiFunction;"), (0, .methodref 1054 1060), (0, .nameAndType 501 1061), (0, u "(IILjava/util/function/BiFunction;)I"), (39, u "serialPersistentFields"), (0, u "[Ljava/io/ObjectStreamField;"), (0, .class_ 1104), (0, u "java/lang/String$CaseInsensitiveComparator"), (1, .class_ 1107), (0, u "java/io/Serializable"), (0, .class_ 1109), (0, u "java/lang/Comparable"), (0, .class_ 1111), (0, u "java/lang/constant/Constable"), (0, .class_ 1113), (0, u "java/lang/constant/ConstantDesc"), (2, u "serialVersionUID"), (0, u "J"), (3, u "REPL"), (0, u "C"), (2, u "LATIN1"), (1, u "UTF16"), (105, u "(Ljava/lang/StringBuilder;)V")] 217

def k7m0 : Method := { name := "<init>", desc := "()V", sig := { parameters := [], returnType := none }, accessFlags := 1, code := none }
def k7c1 : Code := { maxStack := 5, maxLocals := 2, code := jdk_42_method_3_code, exceptionTable := #[], attributes := #[] }
def k7m1 : Method := { name := "<init>", desc := "([C)V", sig := { parameters := [(.array .char)], returnType := none }, accessFlags := 1, code := some k7c1 }
def k7c2 : Code := { maxStack := 3, maxLocals := 2, code := jdk_42_method_53_code, exceptionTable := #[], attributes := #[] }
def k7m2 : Method := { name := "<init>", desc := "(Ljava/lang/StringBuilder;)V", sig := { parameters := [(.object "java/lang/StringBuilder")], returnType := none }, accessFlags := 1, code := some k7c2 }
def k7c3 : Code := { maxStack := 2, maxLocals := 1, code := jdk_42_method_54_code, exceptionTable := #[], attributes := #[] }
def k7m3 : Method := { name := "length", desc := "()I", sig := { parameters := [], returnType := some .int }, accessFlags := 1, code := some k7c3 }
def k7c4 : Code := { maxStack := 2, maxLocals := 2, code := jdk_42_method_56_code, exceptionTable := #[], attributes := #[] }
def k7m4 : Method := { name := "charAt", desc := "(I)C", sig := { parameters := [.int], returnType := some .char }, accessFlags := 1, code := some k7c4 }
def k7c5 : Code := { maxStack := 4, maxLocals := 1, code := jdk_42_method_139_code, exceptionTable := #[], attributes := #[] }
def k7m5 : Method := { name := "valueOf", desc := "(C)Ljava/lang/String;", sig := { parameters := [.char], returnType := some (.object "java/lang/String") }, accessFlags := 9, code := some k7c5 }
def k7c6 : Code := { maxStack := 5, maxLocals := 4, code := jdk_42_method_147_code, exceptionTable := #[], attributes := #[] }
def k7m6 : Method := { name := "getBytes", desc := "([BIB)V", sig := { parameters := [(.array .byte), .int, .byte], returnType := none }, accessFlags := 0, code := some k7c6 }
def k7c7 : Code := { maxStack := 4, maxLocals := 6, code := jdk_42_method_149_code, exceptionTable := #[], attributes := #[] }
def k7m7 : Method := { name := "<init>", desc := "([CIILjava/lang/Void;)V", sig := { parameters := [(.array .char), .int, .int, (.object "java/lang/Void")], returnType := none }, accessFlags := 2, code := some k7c7 }
def k7c8 : Code := { maxStack := 5, maxLocals := 5, code := jdk_42_method_150_code, exceptionTable := #[], attributes := #[] }
def k7m8 : Method := { name := "<init>", desc := "(Ljava/lang/AbstractStringBuilder;Ljava/lang/Void;)V", sig := { parameters := [(.object "java/lang/AbstractStringBuilder"), (.object "java/lang/Void")], returnType := none }, accessFlags := 0, code := some k7c8 }
def k7c9 : Code := { maxStack := 2, maxLocals := 3, code := jdk_42_method_151_code, exceptionTable := #[], attributes := #[] }
def k7m9 : Method := { name := "<init>", desc := "([BB)V", sig := { parameters := [(.array .byte), .byte], returnType := none }, accessFlags := 0, code := some k7c9 }
def k7c10 : Code := { maxStack := 1, maxLocals := 1, code := jdk_42_method_152_code, exceptionTable := #[], attributes := #[] }
def k7m10 : Method := { name := "coder", desc := "()B", sig := { parameters := [], returnType := some .byte }, accessFlags := 0, code := some k7c10 }
def k7c11 : Code := { maxStack := 1, maxLocals := 1, code := jdk_42_method_154_code, exceptionTable := #[], attributes := #[] }
def k7m11 : Method := { name := "isLatin1", desc := "()Z", sig := { parameters := [], returnType := some .boolean }, accessFlags := 0, code := some k7c11 }
def k7c12 : Code := { maxStack := 3, maxLocals := 2, code := jdk_42_method_155_code, exceptionTable := #[], attributes := #[] }
def k7m12 : Method := { name := "checkIndex", desc := "(II)V", sig := { parameters := [.int, .int], returnType := none }, accessFlags := 8, code := some k7c12 }
/-- java/lang/String -/
def k7 : Class := { plain "java/lang/String" (some 0) with
  accessFlags := 49
  interfaces := #[2, 3, 4, 5, 6]
  cf := some (fileOf pool7 10 #[.nestMembers #[1103]] #[{ accessFlags := 1, nameIndex := 5, descriptorIndex := 6, attributes := #[] }, { accessFlags := 1, nameIndex := 5, descriptorIndex := 1010, attributes := #[] }, { accessFlags := 1, nameIndex := 5, descriptorIndex := 1233, attributes := #[] }, { accessFlags := 1, nameIndex := 507, descriptorIndex := 334, attributes := #[] }, { accessFlags := 1, nameIndex := 497, descriptorIndex := 427, attributes := #[] }, { accessFlags := 9, nameIndex := 782, descriptorIndex := 783, attributes := #[] }, { accessFlags := 0, nameIndex := 532, descriptorIndex := 821, attributes := #[] }, { accessFlags := 2, nameIndex := 5, descriptorIndex := 29, attributes := #[] }, { accessFlags := 0, nameIndex := 5, descriptorIndex := 491, attributes := #[] }, { accessFlags := 0, nameIndex := 5, descriptorIndex := 211, attributes := #[] }, { accessFlags := 0, nameIndex := 17, descriptorIndex := 337, attributes := #[] }, { accessFlags := 0, nameIndex := 494, descriptorIndex := 142, attributes := #[] }, { accessFlags := 8, nameIndex := 501, descriptorIndex := 391, attributes := #[] }] 49 2 #[1106, 1108, 575, 1110, 1112] #[{ accessFlags := 18, nameIndex := 13, descriptorIndex := 14, attributes := #[] }, { accessFlags := 18, nameIndex := 17, descriptorIndex := 18, attributes := #[] }, { accessFlags := 2, nameIndex := 21, descriptorIndex := 22, attributes := #[] }, { accessFlags := 2, nameIndex := 25, descriptorIndex := 26, attributes := #[] }, { accessFlags := 26, nameIndex := 1116, descriptorIndex := 1117, attributes := #[] }, { accessFlags := 24, nameIndex := 40, descriptorIndex := 26, attributes := #[] }, { accessFlags := 26, nameIndex := 1101, descriptorIndex := 1102, attributes := #[] }, { accessFlags := 26, nameIndex := 1121, descriptorIndex := 1122, attributes := #[] }, { accessFlags := 25, nameIndex := 599, descriptorIndex := 600, attributes := #[] }, { accessFlags := 24, nameIndex := 1125, descriptorIndex := 18, attributes := #[] }, { accessFlags := 24, nameIndex := 1127, descriptorIndex := 18, attributes := #[] }])
  fields := #[{ name := "value", type := (.array .byte), accessFlags := 18, slot := 0, constantValue := 0 }, { name := "coder", type := .byte, accessFlags := 18, slot := 1, constantValue := 0 }, { name := "hash", type := .int, accessFlags := 2, slot := 2, constantValue := 0 }, { name := "hashIsZero", type := .boolean, accessFlags := 2, slot := 3, constantValue := 0 }, { name := "serialVersionUID", type := .long, accessFlags := 26, slot := 0, constantValue := 0 }, { name := "COMPACT_STRINGS", type := .boolean, accessFlags := 24, slot := 1, constantValue := 0 }, { name := "serialPersistentFields", type := (.array (.object "java/io/ObjectStreamField")), accessFlags := 26, slot := 2, constantValue := 0 }, { name := "REPL", type := .char, accessFlags := 26, slot := 3, constantValue := 0 }, { name := "CASE_INSENSITIVE_ORDER", type := (.object "java/util/Comparator"), accessFlags := 25, slot := 4, constantValue := 0 }, { name := "LATIN1", type := .byte, accessFlags := 24, slot := 5, constantValue := 0 }, { name := "UTF16", type := .byte, accessFlags := 24, slot := 6, constantValue := 0 }]
  methods := #[k7m0, k7m1, k7m2, k7m3, k7m4, k7m5, k7m6, k7m7, k7m8, k7m9, k7m10, k7m11, k7m12]
  instanceTypes := #[(.array .byte), .byte, .int, .boolean]
  staticTypes := #[.long, .boolean, (.array (.object "java/io/ObjectStreamField")), .char, (.object "java/util/Comparator"), .byte, .byte]
  resolved := Array.replicate 1451 none
  statics := some 0 }

def pool8 : Array CpInfo := pool [(6, .class_ 8), (1, u "java/lang/Object"), (0, u "<init>"), (0, u "()V"), (1, .class_ 14), (1, u "java/lang/StringUTF16"), (31, u "$assertionsDisabled"), (0, u "Z"), (13, u "HI_BYTE_SHIFT"), (0, u "I"), (2, u "LO_BYTE_SHIFT"), (49, .methodref 12 116), (0, .nameAndType 117 118), (0, u "compress"), (0, u "([CI[BII)I"), (3, u "([CII)[B"), (138, u "coderFromArrayLen"), (0, u "([BI)B"), (106, .class_ 371), (1, u "java/lang/StringUTF16$LinesSpliterator"), (58, u "MAX_LENGTH"), (196, .class_ 628), (0, u "java/lang/StringUTF16$CodePointsSpliterator"), (0, .class_ 630), (0, u "java/lang/StringUTF16$CharsSpliterator")] 4

def k8m0 : Method := { name := "<init>", desc := "()V", sig := { parameters := [], returnType := none }, accessFlags := 0, code := none }
def k8c1 : Code := { maxStack := 2, maxLocals := 2, code := jdk_52_method_15_code, exceptionTable := #[], attributes := #[] }
def k8m1 : Method := { name := "coderFromArrayLen", desc := "([BI)B", sig := { parameters := [(.array .byte), .int], returnType := some .byte }, accessFlags := 8, code := some k8c1 }
def k8c2 : Code := { maxStack := 5, maxLocals := 6, code := jdk_52_method_16_code, exceptionTable := #[], attributes := #[] }
def k8m2 : Method := { name := "compress", desc := "([CII)[B", sig := { parameters := [(.array .char), .int, .int], returnType := some (.array .byte) }, accessFlags := 9, code := some k8c2 }
def k8c3 : Code := { maxStack := 3, maxLocals := 7, code := jdk_52_method_21_code, exceptionTable := #[], attributes := #[] }
def k8m3 : Method := { name := "compress", desc := "([CI[BII)I", sig := { parameters := [(.array .char), .int, (.array .byte), .int, .int], returnType := some .int }, accessFlags := 9, code := some k8c3 }
/-- java/lang/StringUTF16 -/
def k8 : Class := { plain "java/lang/StringUTF16" (some 0) with
  accessFlags := 48
  interfaces := #[]
  cf := some (fileOf pool8 12 #[.nestMembers #[627, 629, 369]] #[{ accessFlags := 0, nameIndex := 9, descriptorIndex := 10, attributes := #[] }, { accessFlags := 8, nameIndex := 261, descriptorIndex := 262, attributes := #[] }, { accessFlags := 9, nameIndex := 117, descriptorIndex := 122, attributes := #[] }, { accessFlags := 9, nameIndex := 117, descriptorIndex := 118, attributes := #[] }] 48 6 #[] #[{ accessFlags := 26, nameIndex := 61, descriptorIndex := 62, attributes := #[] }, { accessFlags := 26, nameIndex := 65, descriptorIndex := 62, attributes := #[] }, { accessFlags := 24, nameIndex := 430, descriptorIndex := 62, attributes := #[] }, { accessFlags := 4120, nameIndex := 46, descriptorIndex := 47, attributes := #[] }])
  fields := #[{ name := "HI_BYTE_SHIFT", type := .int, accessFlags := 26, slot := 0, constantValue := 0 }, { name := "LO_BYTE_SHIFT", type := .int, accessFlags := 26, slot := 1, constantValue := 0 }, { name := "MAX_LENGTH", type := .int, accessFlags := 24, slot := 2, constantValue := 0 }, { name := "$assertionsDisabled", type := .boolean, accessFlags := 4120, slot := 3, constantValue := 0 }]
  methods := #[k8m0, k8m1, k8m2, k8m3]
  instanceTypes := #[]
  staticTypes := #[.int, .int, .int, .boolean]
  resolved := Array.replicate 635 none
  statics := none }

def pool9 : Array CpInfo := pool [(1, .methodref 2 3), (0, .class_ 4), (0, .nameAndType 5 6), (0, u "java/lang/Object"), (0, u "<init>"), (0, u "()V"), (0, .class_ 8), (0, u "java/lang/Record")] 13

def k9c0 : Code := { maxStack := 1, maxLocals := 1, code := jdk_30_method_1_code, exceptionTable := #[], attributes := #[] }
def k9m0 : Method := { name := "<init>", desc := "()V", sig := { parameters := [], returnType := none }, accessFlags := 4, code := some k9c0 }
/-- java/lang/Record -/
def k9 : Class := { plain "java/lang/Record" (some 0) with
  accessFlags := 1057
  interfaces := #[]
  cf := some (fileOf pool9 7 #[] #[{ accessFlags := 4, nameIndex := 5, descriptorIndex := 6, attributes := #[] }] 1057 2 #[] #[])
  fields := #[]
  methods := #[k9m0]
  instanceTypes := #[]
  staticTypes := #[]
  resolved := Array.replicate 22 none
  statics := none }

def pool10 : Array CpInfo := pool [(1, .class_ 2), (0, u "com/example/strikeboard/strikeboard/engine/Explanation$Step"), (0, .class_ 4), (0, u "java/lang/Object"), (3, .class_ 9), (0, u "com/example/strikeboard/strikeboard/engine/Explanation")] 36

/-- com/example/strikeboard/strikeboard/engine/Explanation$Step -/
def k10 : Class := { plain "com/example/strikeboard/strikeboard/engine/Explanation$Step" (some 0) with
  accessFlags := 1537
  interfaces := #[]
  cf := some (fileOf pool10 1 #[.nestHost 8] #[] 1537 3 #[] #[])
  fields := #[]
  methods := #[]
  instanceTypes := #[]
  staticTypes := #[]
  resolved := Array.replicate 46 none
  statics := none }

def pool11 : Array CpInfo := pool [(1, .methodref 2 3), (0, .class_ 4), (0, .nameAndType 5 6), (0, u "java/lang/Record"), (0, u "<init>"), (0, u "()V"), (0, .string 8), (0, u "modifier"), (0, .methodref 10 11), (0, .class_ 12), (0, .nameAndType 13 14), (0, u "java/util/Objects"), (0, u "requireNonNull"), (0, u "(Ljava/lang/Object;Ljava/lang/String;)Ljava/lang/Object;"), (0, .string 16), (0, u "offence"), (0, .string 18), (0, u "used"), (0, .fieldref 20 21), (0, .class_ 22), (0, .nameAndType 8 23), (0, u "com/example/strikeboard/strikeboard/engine/Explanation$Unused"), (0, u "Ljava/lang/String;"), (0, .fieldref 20 25), (0, .nameAndType 16 23), (0, .fieldref 20 27), (0, .nameAndType 18 23), (0, .class_ 29), (0, u "java/lang/StringBuilder"), (0, .methodref 28 3), (0, .string 32), (0, u "unused "), (0, .methodref 28 34), (0, .nameAndType 35 36), (0, u "append"), (0, u "(Ljava/lang/String;)Ljava/lang/StringBuilder;"), (0, .string 38), (0, u " "), (0, .string 40), (0, u " for "), (0, .methodref 28 42), (0, .nameAndType 43 44), (0, u "toString"), (0, u "()Ljava/lang/String;"), (8, .class_ 54), (0, u "com/example/strikeboard/strikeboard/engine/Explanation$Step"), (0, u "(Ljava/lang/String;Ljava/lang/String;Ljava/lang/String;)V"), (8, .class_ 65), (0, u "com/example/strikeboard/strikeboard/engine/Explanation")] 22

def k11c0 : Code := { maxStack := 2, maxLocals := 4, code := prog_26_method_1_code, exceptionTable := #[], attributes := #[] }
def k11m0 : Method := { name := "<init>", desc := "(Ljava/lang/String;Ljava/lang/String;Ljava/lang/String;)V", sig := { parameters := [(.object "java/lang/String"), (.object "java/lang/String"), (.object "java/lang/String")], returnType := none }, accessFlags := 1, code := some k11c0 }
def k11c1 : Code := { maxStack := 2, maxLocals := 1, code := prog_26_method_2_code, exceptionTable := #[], attributes := #[] }
def k11m1 : Method := { name := "toString", desc := "()Ljava/lang/String;", sig := { parameters := [], returnType := some (.object "java/lang/String") }, accessFlags := 1, code := some k11c1 }
/-- com/example/strikeboard/strikeboard/engine/Explanation$Unused -/
def k11 : Class := { plain "com/example/strikeboard/strikeboard/engine/Explanation$Unused" (some 9) with
  accessFlags := 49
  interfaces := #[10]
  cf := some (fileOf pool11 20 #[.nestHost 64] #[{ accessFlags := 1, nameIndex := 5, descriptorIndex := 55, attributes := #[] }, { accessFlags := 1, nameIndex := 43, descriptorIndex := 44, attributes := #[] }] 49 2 #[53] #[{ accessFlags := 18, nameIndex := 8, descriptorIndex := 23, attributes := #[] }, { accessFlags := 18, nameIndex := 16, descriptorIndex := 23, attributes := #[] }, { accessFlags := 18, nameIndex := 18, descriptorIndex := 23, attributes := #[] }])
  fields := #[{ name := "modifier", type := (.object "java/lang/String"), accessFlags := 18, slot := 0, constantValue := 0 }, { name := "offence", type := (.object "java/lang/String"), accessFlags := 18, slot := 1, constantValue := 0 }, { name := "used", type := (.object "java/lang/String"), accessFlags := 18, slot := 2, constantValue := 0 }]
  methods := #[k11m0, k11m1]
  instanceTypes := #[(.object "java/lang/String"), (.object "java/lang/String"), (.object "java/lang/String")]
  staticTypes := #[]
  resolved := Array.replicate 88 none
  statics := none }

def pool12 : Array CpInfo := pool [(2, .class_ 4), (1, u "java/lang/Object"), (0, u "<init>"), (0, u "()V"), (35, .class_ 44), (1, u "java/util/Objects"), (0, u "requireNonNull"), (48, u "(Ljava/lang/Object;Ljava/lang/String;)Ljava/lang/Object;")] 89

def k12m0 : Method := { name := "<init>", desc := "()V", sig := { parameters := [], returnType := none }, accessFlags := 2, code := none }
def k12c1 : Code := { maxStack := 3, maxLocals := 2, code := jdk_31_method_11_code, exceptionTable := #[], attributes := #[] }
def k12m1 : Method := { name := "requireNonNull", desc := "(Ljava/lang/Object;Ljava/lang/String;)Ljava/lang/Object;", sig := { parameters := [(.object "java/lang/Object"), (.object "java/lang/String")], returnType := some (.object "java/lang/Object") }, accessFlags := 9, code := some k12c1 }
/-- java/util/Objects -/
def k12 : Class := { plain "java/util/Objects" (some 0) with
  accessFlags := 49
  interfaces := #[]
  cf := some (fileOf pool12 42 #[] #[{ accessFlags := 2, nameIndex := 5, descriptorIndex := 6, attributes := #[] }, { accessFlags := 9, nameIndex := 45, descriptorIndex := 94, attributes := #[] }] 49 2 #[] #[])
  fields := #[]
  methods := #[k12m0, k12m1]
  instanceTypes := #[]
  staticTypes := #[]
  resolved := Array.replicate 184 none
  statics := none }

def pool13 : Array CpInfo := pool [(1, .class_ 2), (0, u "java/lang/Appendable"), (0, .class_ 4), (0, u "java/lang/Object")] 9

/-- java/lang/Appendable -/
def k13 : Class := { plain "java/lang/Appendable" (some 0) with
  accessFlags := 1537
  interfaces := #[]
  cf := some (fileOf pool13 1 #[] #[] 1537 3 #[] #[])
  fields := #[]
  methods := #[]
  instanceTypes := #[]
  staticTypes := #[]
  resolved := Array.replicate 14 none
  statics := none }

def pool14 : Array CpInfo := pool [(1, .class_ 2), (0, u "java/lang/String"), (0, .methodref 4 5), (0, .class_ 6), (0, .nameAndType 7 8), (0, u "java/lang/Object"), (0, u "<init>"), (0, u "()V"), (1, .class_ 12), (1, u "java/lang/AbstractStringBuilder"), (0, u "EMPTYVALUE"), (0, u "[B"), (0, .fieldref 10 16), (0, .nameAndType 17 14), (0, u "value"), (0, .fieldref 1 19), (0, .nameAndType 20 21), (0, u "COMPACT_STRINGS"), (0, u "Z"), (0, .fieldref 10 23), (0, .nameAndType 24 25), (0, u "coder"), (0, u "B"), (6, .methodref 1 33), (0, .nameAndType 34 35), (0, u "length"), (0, u "()I"), (3, .integer 2147483647), (0, .methodref 1 41), (0, .nameAndType 24 42), (0, u "()B"), (2, u "append"), (0, u "(Ljava/lang/String;)Ljava/lang/AbstractStringBuilder;"), (1, .class_ 49), (0, u "java/lang/CharSequence"), (19, u "(Ljava/lang/String;)V"), (5, u "maybeLatin1"), (3, .fieldref 10 80), (0, .nameAndType 81 82), (0, u "count"), (0, u "I"), (2, u "isLatin1"), (0, u "()Z"), (13, .methodref 10 101), (0, .nameAndType 102 103), (0, u "ensureCapacityInternal"), (0, u "(I)V"), (0, .methodref 10 105), (0, .nameAndType 106 107), (0, u "newCapacity"), (0, u "(I)I"), (0, .methodref 109 110), (0, .class_ 111), (0, .nameAndType 112 113), (0, u "java/util/Arrays"), (0, u "copyOf"), (0, u "([BI)[B"), (0, .methodref 115 116), (0, .class_ 117), (0, .nameAndType 118 119), (0, u "jdk/internal/util/ArraysSupport"), (0, u "newLength"), (0, u "(III)I"), (88, .methodref 10 209), (0, .nameAndType 210 211), (0, u "putStringAt"), (0, u "(ILjava/lang/String;)V"), (5, u "inflateIfNeededFor"), (2, .nameAndType 221 222), (0, u "getBytes"), (0, u "([BIB)V"), (174, .methodref 10 398), (0, .nameAndType 217 69), (0, .methodref 1 220), (3, u "()[B"), (40, .class_ 445), (0, u "java/lang/Appendable"), (106, u "getValue")] 56

def k14m0 : Method := { name := "<init>", desc := "()V", sig := { parameters := [], returnType := none }, accessFlags := 0, code := none }
def k14c1 : Code := { maxStack := 2, maxLocals := 2, code := jdk_68_method_2_code, exceptionTable := #[], attributes := #[] }
def k14m1 : Method := { name := "<init>", desc := "(I)V", sig := { parameters := [.int], returnType := none }, accessFlags := 0, code := some k14c1 }
def k14c2 : Code := { maxStack := 1, maxLocals := 1, code := jdk_68_method_6_code, exceptionTable := #[], attributes := #[] }
def k14m2 : Method := { name := "length", desc := "()I", sig := { parameters := [], returnType := some .int }, accessFlags := 1, code := some k14c2 }
def k14c3 : Code := { maxStack := 4, maxLocals := 3, code := jdk_68_method_9_code, exceptionTable := #[], attributes := #[] }
def k14m3 : Method := { name := "ensureCapacityInternal", desc := "(I)V", sig := { parameters := [.int], returnType := none }, accessFlags := 2, code := some k14c3 }
def k14c4 : Code := { maxStack := 5, maxLocals := 6, code := jdk_68_method_10_code, exceptionTable := #[], attributes := #[] }
def k14m4 : Method := { name := "newCapacity", desc := "(I)I", sig := { parameters := [.int], returnType := some .int }, accessFlags := 2, code := some k14c4 }
def k14c5 : Code := { maxStack := 3, maxLocals := 3, code := jdk_68_method_22_code, exceptionTable := #[], attributes := #[] }
def k14m5 : Method := { name := "append", desc := "(Ljava/lang/String;)Ljava/lang/AbstractStringBuilder;", sig := { parameters := [(.object "java/lang/String")], returnType := some (.object "java/lang/AbstractStringBuilder") }, accessFlags := 1, code := some k14c5 }
def k14c6 : Code := { maxStack := 1, maxLocals := 1, code := jdk_68_method_64_code, exceptionTable := #[], attributes := #[] }
def k14m6 : Method := { name := "getValue", desc := "()[B", sig := { parameters := [], returnType := some (.array .byte) }, accessFlags := 16, code := some k14c6 }
def k14c7 : Code := { maxStack := 1, maxLocals := 1, code := jdk_68_method_68_code, exceptionTable := #[], attributes := #[] }
def k14m7 : Method := { name := "isLatin1", desc := "()Z", sig := { parameters := [], returnType := some .boolean }, accessFlags := 16, code := some k14c7 }
def k14c8 : Code := { maxStack := 2, maxLocals := 2, code := jdk_68_method_71_code, exceptionTable := #[], attributes := #[] }
def k14m8 : Method := { name := "inflateIfNeededFor", desc := "(Ljava/lang/String;)V", sig := { parameters := [(.object "java/lang/String")], returnType := none }, accessFlags := 2, code := some k14c8 }
def k14c9 : Code := { maxStack := 4, maxLocals := 3, code := jdk_68_method_73_code, exceptionTable := #[], attributes := #[] }
def k14m9 : Method := { name := "putStringAt", desc := "(ILjava/lang/String;)V", sig := { parameters := [.int, (.object "java/lang/String")], returnType := none }, accessFlags := 2, code := some k14c9 }
/-- java/lang/AbstractStringBuilder -/
def k14 : Class := { plain "java/lang/AbstractStringBuilder" (some 0) with
  accessFlags := 1056
  interfaces := #[13, 4]
  cf := some (fileOf pool14 10 #[] #[{ accessFlags := 0, nameIndex := 7, descriptorIndex := 8, attributes := #[] }, { accessFlags := 0, nameIndex := 7, descriptorIndex := 103, attributes := #[] }, { accessFlags := 1, nameIndex := 34, descriptorIndex := 35, attributes := #[] }, { accessFlags := 2, nameIndex := 102, descriptorIndex := 103, attributes := #[] }, { accessFlags := 2, nameIndex := 106, descriptorIndex := 107, attributes := #[] }, { accessFlags := 1, nameIndex := 45, descriptorIndex := 46, attributes := #[] }, { accessFlags := 16, nameIndex := 552, descriptorIndex := 403, attributes := #[] }, { accessFlags := 16, nameIndex := 85, descriptorIndex := 86, attributes := #[] }, { accessFlags := 2, nameIndex := 217, descriptorIndex := 69, attributes := #[] }, { accessFlags := 2, nameIndex := 210, descriptorIndex := 211, attributes := #[] }] 1056 4 #[444, 48] #[{ accessFlags := 0, nameIndex := 17, descriptorIndex := 14, attributes := #[] }, { accessFlags := 0, nameIndex := 24, descriptorIndex := 25, attributes := #[] }, { accessFlags := 0, nameIndex := 75, descriptorIndex := 21, attributes := #[] }, { accessFlags := 0, nameIndex := 81, descriptorIndex := 82, attributes := #[] }, { accessFlags := 26, nameIndex := 13, descriptorIndex := 14, attributes := #[] }])
  fields := #[{ name := "value", type := (.array .byte), accessFlags := 0, slot := 0, constantValue := 0 }, { name := "coder", type := .byte, accessFlags := 0, slot := 1, constantValue := 0 }, { name := "maybeLatin1", type := .boolean, accessFlags := 0, slot := 2, constantValue := 0 }, { name := "count", type := .int, accessFlags := 0, slot := 3, constantValue := 0 }, { name := "EMPTYVALUE", type := (.array .byte), accessFlags := 26, slot := 0, constantValue := 0 }]
  methods := #[k14m0, k14m1, k14m2, k14m3, k14m4, k14m5, k14m6, k14m7, k14m8, k14m9]
  instanceTypes := #[(.array .byte), .byte, .boolean, .int]
  staticTypes := #[(.array .byte)]
  resolved := Array.replicate 609 none
  statics := none }

def pool15 : Array CpInfo := pool [(1, .methodref 2 3), (0, .class_ 4), (0, .nameAndType 5 6), (0, u "java/lang/AbstractStringBuilder"), (0, u "<init>"), (0, u "(I)V"), (11, .class_ 20), (1, u "java/lang/String"), (3, .class_ 26), (1, u "java/lang/StringBuilder"), (0, u "append"), (0, u "(Ljava/lang/String;)Ljava/lang/StringBuilder;"), (0, .methodref 2 30), (0, .nameAndType 27 31), (0, u "(Ljava/lang/String;)Ljava/lang/AbstractStringBuilder;"), (105, .methodref 18 138), (0, .nameAndType 5 139), (0, u "(Ljava/lang/StringBuilder;)V"), (5, u "()V"), (10, u "()I"), (186, .methodref 2 344), (0, .nameAndType 345 156), (0, u "length"), (3, .class_ 350), (0, u "java/lang/Appendable"), (0, .class_ 352), (0, u "java/io/Serializable"), (0, .class_ 354), (0, u "java/lang/Comparable"), (0, .class_ 356), (0, u "java/lang/CharSequence"), (0, u "serialVersionUID"), (0, u "J"), (40, u "toString"), (0, u "()Ljava/lang/String;")] 21

def k15c0 : Code := { maxStack := 2, maxLocals := 1, code := jdk_67_method_1_code, exceptionTable := #[], attributes := #[] }
def k15m0 : Method := { name := "<init>", desc := "()V", sig := { parameters := [], returnType := none }, accessFlags := 1, code := some k15c0 }
def k15c1 : Code := { maxStack := 2, maxLocals := 2, code := jdk_67_method_7_code, exceptionTable := #[], attributes := #[] }
def k15m1 : Method := { name := "append", desc := "(Ljava/lang/String;)Ljava/lang/StringBuilder;", sig := { parameters := [(.object "java/lang/String")], returnType := some (.object "java/lang/StringBuilder") }, accessFlags := 1, code := some k15c1 }
def k15c2 : Code := { maxStack := 3, maxLocals := 1, code := jdk_67_method_42_code, exceptionTable := #[], attributes := #[] }
def k15m2 : Method := { name := "toString", desc := "()Ljava/lang/String;", sig := { parameters := [], returnType := some (.object "java/lang/String") }, accessFlags := 1, code := some k15c2 }
def k15c3 : Code := { maxStack := 1, maxLocals := 1, code := jdk_67_method_93_code, exceptionTable := #[], attributes := #[] }
def k15m3 : Method := { name := "length", desc := "()I", sig := { parameters := [], returnType := some .int }, accessFlags := 4161, code := some k15c3 }
/-- java/lang/StringBuilder -/
def k15 : Class := { plain "java/lang/StringBuilder" (some 14) with
  accessFlags := 49
  interfaces := #[13, 2, 3, 4]
  cf := some (fileOf pool15 24 #[] #[{ accessFlags := 1, nameIndex := 5, descriptorIndex := 145, attributes := #[] }, { accessFlags := 1, nameIndex := 27, descriptorIndex := 28, attributes := #[] }, { accessFlags := 1, nameIndex := 399, descriptorIndex := 400, attributes := #[] }, { accessFlags := 4161, nameIndex := 345, descriptorIndex := 156, attributes := #[] }] 49 2 #[349, 351, 353, 355] #[{ accessFlags := 24, nameIndex := 357, descriptorIndex := 358, attributes := #[] }])
  fields := #[{ name := "serialVersionUID", type := .long, accessFlags := 24, slot := 0, constantValue := 0 }]
  methods := #[k15m0, k15m1, k15m2, k15m3]
  instanceTypes := #[(.array .byte), .byte, .boolean, .int]
  staticTypes := #[.long]
  resolved := Array.replicate 422 none
  statics := none }

def pool16 : Array CpInfo := pool [(2, .class_ 4), (1, u "java/lang/Object"), (0, u "<init>"), (0, u "()V"), (1, .class_ 10), (1, u "java/lang/System"), (0, u "allowSecurityManager"), (0, u "I"), (16, u "cons"), (0, u "Ljava/io/Console;"), (77, .class_ 110), (1, u "java/lang/System$CallersHolder"), (43, u "initialErrStream"), (0, u "Ljava/io/PrintStream;"), (19, u "security"), (0, u "Ljava/lang/SecurityManager;"), (31, .class_ 209), (0, u "java/lang/System$1"), (7, u "props"), (0, u "Ljava/util/Properties;"), (2, u "lineSeparator"), (0, u "Ljava/lang/String;"), (96, .class_ 321), (1, u "java/lang/System$LoggerFinder"), (5, .class_ 328), (0, u "java/lang/System$Logger"), (67, u "err"), (2, u "out"), (91, u "notSupportedJnuEncoding"), (15, u "in"), (17, u "initialIn"), (0, u "Ljava/io/InputStream;"), (35, u "bootLayer"), (0, u "Ljava/lang/ModuleLayer;"), (99, .class_ 664), (0, u "java/lang/System$2"), (9, u "NEVER"), (2, u "MAYBE"), (49, u "arraycopy"), (0, u "(Ljava/lang/Object;ILjava/lang/Object;II)V"), (72, .class_ 802), (0, u "java/lang/System$Logger$Level")] 31

def k16m0 : Method := { name := "<init>", desc := "()V", sig := { parameters := [], returnType := none }, accessFlags := 2, code := none }
def k16m1 : Method := { name := "arraycopy", desc := "(Ljava/lang/Object;ILjava/lang/Object;II)V", sig := { parameters := [(.object "java/lang/Object"), .int, (.object "java/lang/Object"), .int, .int], returnType := none }, accessFlags := 265, code := none }
/-- java/lang/System -/
def k16 : Class := { plain "java/lang/System" (some 0) with
  accessFlags := 49
  interfaces := #[]
  cf := some (fileOf pool16 8 #[.nestMembers #[319, 327, 801, 108, 663, 208]] #[{ accessFlags := 2, nameIndex := 5, descriptorIndex := 6, attributes := #[] }, { accessFlags := 265, nameIndex := 727, descriptorIndex := 728, attributes := #[] }] 49 2 #[] #[{ accessFlags := 25, nameIndex := 507, descriptorIndex := 526, attributes := #[] }, { accessFlags := 25, nameIndex := 399, descriptorIndex := 155, attributes := #[] }, { accessFlags := 25, nameIndex := 396, descriptorIndex := 155, attributes := #[] }, { accessFlags := 10, nameIndex := 525, descriptorIndex := 526, attributes := #[] }, { accessFlags := 26, nameIndex := 674, descriptorIndex := 12, attributes := #[] }, { accessFlags := 26, nameIndex := 677, descriptorIndex := 12, attributes := #[] }, { accessFlags := 10, nameIndex := 11, descriptorIndex := 12, attributes := #[] }, { accessFlags := 74, nameIndex := 175, descriptorIndex := 176, attributes := #[] }, { accessFlags := 10, nameIndex := 491, descriptorIndex := 222, attributes := #[] }, { accessFlags := 74, nameIndex := 29, descriptorIndex := 30, attributes := #[] }, { accessFlags := 74, nameIndex := 154, descriptorIndex := 155, attributes := #[] }, { accessFlags := 10, nameIndex := 217, descriptorIndex := 218, attributes := #[] }, { accessFlags := 10, nameIndex := 221, descriptorIndex := 222, attributes := #[] }, { accessFlags := 8, nameIndex := 562, descriptorIndex := 563, attributes := #[] }])
  fields := #[{ name := "in", type := (.object "java/io/InputStream"), accessFlags := 25, slot := 0, constantValue := 0 }, { name := "out", type := (.object "java/io/PrintStream"), accessFlags := 25, slot := 1, constantValue := 0 }, { name := "err", type := (.object "java/io/PrintStream"), accessFlags := 25, slot := 2, constantValue := 0 }, { name := "initialIn", type := (.object "java/io/InputStream"), accessFlags := 10, slot := 3, constantValue := 0 }, { name := "NEVER", type := .int, accessFlags := 26, slot := 4, constantValue := 0 }, { name := "MAYBE", type := .int, accessFlags := 26, slot := 5, constantValue := 0 }, { name := "allowSecurityManager", type := .int, accessFlags := 10, slot := 6, constantValue := 0 }, { name := "security", type := (.object "java/lang/SecurityManager"), accessFlags := 74, slot := 7, constantValue := 0 }, { name := "notSupportedJnuEncoding", type := (.object "java/lang/String"), accessFlags := 10, slot := 8, constantValue := 0 }, { name := "cons", type := (.object "java/io/Console"), accessFlags := 74, slot := 9, constantValue := 0 }, { name := "initialErrStream", type := (.object "java/io/PrintStream"), accessFlags := 74, slot := 10, constantValue := 0 }, { name := "props", type := (.object "java/util/Properties"), accessFlags := 10, slot := 11, constantValue := 0 }, { name := "lineSeparator", type := (.object "java/lang/String"), accessFlags := 10, slot := 12, constantValue := 0 }, { name := "bootLayer", type := (.object "java/lang/ModuleLayer"), accessFlags := 8, slot := 13, constantValue := 0 }]
  methods := #[k16m0, k16m1]
  instanceTypes := #[]
  staticTypes := #[(.object "java/io/InputStream"), (.object "java/io/PrintStream"), (.object "java/io/PrintStream"), (.object "java/io/InputStream"), .int, .int, .int, (.object "java/lang/SecurityManager"), (.object "java/lang/String"), (.object "java/io/Console"), (.object "java/io/PrintStream"), (.object "java/util/Properties"), (.object "java/lang/String"), (.object "java/lang/ModuleLayer")]
  resolved := Array.replicate 834 none
  statics := none }

def pool17 : Array CpInfo := pool [(9, u "<init>"), (6, .class_ 18), (1, u "java/lang/Object"), (0, u "()V"), (1, .class_ 23), (1, u "jdk/internal/util/ArraysSupport"), (0, u "LOG2_ARRAY_LONG_INDEX_SCALE"), (0, u "I"), (2, u "U"), (0, u "Ljdk/internal/misc/Unsafe;"), (8, u "BIG_ENDIAN"), (0, u "Z"), (8, u "LOG2_BYTE_BIT_SIZE"), (4, u "LOG2_ARRAY_INT_INDEX_SCALE"), (54, u "JLA"), (0, u "Ljdk/internal/access/JavaLangAccess;"), (11, u "LOG2_ARRAY_BOOLEAN_INDEX_SCALE"), (9, u "LOG2_ARRAY_BYTE_INDEX_SCALE"), (5, u "LOG2_ARRAY_CHAR_INDEX_SCALE"), (5, u "LOG2_ARRAY_SHORT_INDEX_SCALE"), (18, u "LOG2_ARRAY_FLOAT_INDEX_SCALE"), (24, u "LOG2_ARRAY_DOUBLE_INDEX_SCALE"), (6, .methodref 195 196), (0, .class_ 197), (0, .nameAndType 198 199), (0, u "java/lang/Math"), (0, u "max"), (0, u "(II)I"), (0, .integer 2147483639), (76, u "T_BOOLEAN"), (2, u "T_CHAR"), (1, u "T_FLOAT"), (1, u "T_DOUBLE"), (1, u "T_BYTE"), (1, u "T_SHORT"), (1, u "T_INT"), (1, u "T_LONG"), (1, u "SOFT_MAX_ARRAY_LENGTH"), (56, u "newLength"), (0, u "(III)I")] 25

def k17m0 : Method := { name := "<init>", desc := "()V", sig := { parameters := [], returnType := none }, accessFlags := 2, code := none }
def k17c1 : Code := { maxStack := 3, maxLocals := 4, code := jdk_48_method_27_code, exceptionTable := #[], attributes := #[] }
def k17m1 : Method := { name := "newLength", desc := "(III)I", sig := { parameters := [.int, .int, .int], returnType := some .int }, accessFlags := 9, code := some k17c1 }
/-- jdk/internal/util/ArraysSupport -/
def k17 : Class := { plain "jdk/internal/util/ArraysSupport" (some 0) with
  accessFlags := 33
  interfaces := #[]
  cf := some (fileOf pool17 21 #[] #[{ accessFlags := 2, nameIndex := 9, descriptorIndex := 19, attributes := #[] }, { accessFlags := 9, nameIndex := 351, descriptorIndex := 352, attributes := #[] }] 33 16 #[] #[{ accessFlags := 24, nameIndex := 28, descriptorIndex := 29, attributes := #[] }, { accessFlags := 26, nameIndex := 38, descriptorIndex := 39, attributes := #[] }, { accessFlags := 25, nameIndex := 121, descriptorIndex := 25, attributes := #[] }, { accessFlags := 25, nameIndex := 131, descriptorIndex := 25, attributes := #[] }, { accessFlags := 25, nameIndex := 137, descriptorIndex := 25, attributes := #[] }, { accessFlags := 25, nameIndex := 143, descriptorIndex := 25, attributes := #[] }, { accessFlags := 25, nameIndex := 53, descriptorIndex := 25, attributes := #[] }, { accessFlags := 25, nameIndex := 24, descriptorIndex := 25, attributes := #[] }, { accessFlags := 25, nameIndex := 162, descriptorIndex := 25, attributes := #[] }, { accessFlags := 25, nameIndex := 187, descriptorIndex := 25, attributes := #[] }, { accessFlags := 26, nameIndex := 48, descriptorIndex := 25, attributes := #[] }, { accessFlags := 25, nameIndex := 277, descriptorIndex := 25, attributes := #[] }, { accessFlags := 25, nameIndex := 280, descriptorIndex := 25, attributes := #[] }, { accessFlags := 25, nameIndex := 282, descriptorIndex := 25, attributes := #[] }, { accessFlags := 25, nameIndex := 284, descriptorIndex := 25, attributes := #[] }, { accessFlags := 25, nameIndex := 286, descriptorIndex := 25, attributes := #[] }, { accessFlags := 25, nameIndex := 288, descriptorIndex := 25, attributes := #[] }, { accessFlags := 25, nameIndex := 290, descriptorIndex := 25, attributes := #[] }, { accessFlags := 25, nameIndex := 292, descriptorIndex := 25, attributes := #[] }, { accessFlags := 26, nameIndex := 108, descriptorIndex := 109, attributes := #[] }, { accessFlags := 25, nameIndex := 294, descriptorIndex := 25, attributes := #[] }])
  fields := #[{ name := "U", type := (.object "jdk/internal/misc/Unsafe"), accessFlags := 24, slot := 0, constantValue := 0 }, { name := "BIG_ENDIAN", type := .boolean, accessFlags := 26, slot := 1, constantValue := 0 }, { name := "LOG2_ARRAY_BOOLEAN_INDEX_SCALE", type := .int, accessFlags := 25, slot := 2, constantValue := 0 }, { name := "LOG2_ARRAY_BYTE_INDEX_SCALE", type := .int, accessFlags := 25, slot := 3, constantValue := 0 }, { name := "LOG2_ARRAY_CHAR_INDEX_SCALE", type := .int, accessFlags := 25, slot := 4, constantValue := 0 }, { name := "LOG2_ARRAY_SHORT_INDEX_SCALE", type := .int, accessFlags := 25, slot := 5, constantValue := 0 }, { name := "LOG2_ARRAY_INT_INDEX_SCALE", type := .int, accessFlags := 25, slot := 6, constantValue := 0 }, { name := "LOG2_ARRAY_LONG_INDEX_SCALE", type := .int, accessFlags := 25, slot := 7, constantValue := 0 }, { name := "LOG2_ARRAY_FLOAT_INDEX_SCALE", type := .int, accessFlags := 25, slot := 8, constantValue := 0 }, { name := "LOG2_ARRAY_DOUBLE_INDEX_SCALE", type := .int, accessFlags := 25, slot := 9, constantValue := 0 }, { name := "LOG2_BYTE_BIT_SIZE", type := .int, accessFlags := 26, slot := 10, constantValue := 0 }, { name := "T_BOOLEAN", type := .int, accessFlags := 25, slot := 11, constantValue := 0 }, { name := "T_CHAR", type := .int, accessFlags := 25, slot := 12, constantValue := 0 }, { name := "T_FLOAT", type := .int, accessFlags := 25, slot := 13, constantValue := 0 }, { name := "T_DOUBLE", type := .int, accessFlags := 25, slot := 14, constantValue := 0 }, { name := "T_BYTE", type := .int, accessFlags := 25, slot := 15, constantValue := 0 }, { name := "T_SHORT", type := .int, accessFlags := 25, slot := 16, constantValue := 0 }, { name := "T_INT", type := .int, accessFlags := 25, slot := 17, constantValue := 0 }, { name := "T_LONG", type := .int, accessFlags := 25, slot := 18, constantValue := 0 }, { name := "JLA", type := (.object "jdk/internal/access/JavaLangAccess"), accessFlags := 26, slot := 19, constantValue := 0 }, { name := "SOFT_MAX_ARRAY_LENGTH", type := .int, accessFlags := 25, slot := 20, constantValue := 0 }]
  methods := #[k17m0, k17m1]
  instanceTypes := #[]
  staticTypes := #[(.object "jdk/internal/misc/Unsafe"), .boolean, .int, .int, .int, .int, .int, .int, .int, .int, .int, .int, .int, .int, .int, .int, .int, .int, .int, (.object "jdk/internal/access/JavaLangAccess"), .int]
  resolved := Array.replicate 378 none
  statics := none }

def pool18 : Array CpInfo := pool [(1, .class_ 2), (0, u "java/lang/Math"), (1, .class_ 6), (1, u "java/lang/Object"), (0, u "<init>"), (0, u "()V"), (89, .class_ 100), (1, u "java/lang/Math$RandomNumberGeneratorHolder"), (71, u "negativeZeroFloatBits"), (0, u "J"), (2, u "negativeZeroDoubleBits"), (21, u "max"), (2, u "min"), (43, u "$assertionsDisabled"), (0, u "Z"), (88, u "(II)I"), (2, u "twoToTheDoubleScaleDown"), (0, u "D"), (4, u "twoToTheDoubleScaleUp"), (9, u "E"), (3, u "PI"), (2, u "TAU"), (2, u "DEGREES_TO_RADIANS"), (0, u "RADIANS_TO_DEGREES")] 94

def k18m0 : Method := { name := "<init>", desc := "()V", sig := { parameters := [], returnType := none }, accessFlags := 2, code := none }
def k18c1 : Code := { maxStack := 2, maxLocals := 2, code := jdk_29_method_65_code, exceptionTable := #[], attributes := #[] }
def k18m1 : Method := { name := "max", desc := "(II)I", sig := { parameters := [.int, .int], returnType := some .int }, accessFlags := 9, code := some k18c1 }
def k18c2 : Code := { maxStack := 2, maxLocals := 2, code := jdk_29_method_69_code, exceptionTable := #[], attributes := #[] }
def k18m2 : Method := { name := "min", desc := "(II)I", sig := { parameters := [.int, .int], returnType := some .int }, accessFlags := 9, code := some k18c2 }
/-- java/lang/Math -/
def k18 : Class := { plain "java/lang/Math" (some 0) with
  accessFlags := 49
  interfaces := #[]
  cf := some (fileOf pool18 1 #[.nestMembers #[98]] #[{ accessFlags := 2, nameIndex := 7, descriptorIndex := 8, attributes := #[] }, { accessFlags := 9, nameIndex := 198, descriptorIndex := 335, attributes := #[] }, { accessFlags := 9, nameIndex := 201, descriptorIndex := 335, attributes := #[] }] 49 4 #[] #[{ accessFlags := 25, nameIndex := 354, descriptorIndex := 339, attributes := #[] }, { accessFlags := 25, nameIndex := 358, descriptorIndex := 339, attributes := #[] }, { accessFlags := 25, nameIndex := 361, descriptorIndex := 339, attributes := #[] }, { accessFlags := 26, nameIndex := 364, descriptorIndex := 339, attributes := #[] }, { accessFlags := 26, nameIndex := 365, descriptorIndex := 339, attributes := #[] }, { accessFlags := 26, nameIndex := 172, descriptorIndex := 173, attributes := #[] }, { accessFlags := 26, nameIndex := 176, descriptorIndex := 173, attributes := #[] }, { accessFlags := 8, nameIndex := 344, descriptorIndex := 339, attributes := #[] }, { accessFlags := 8, nameIndex := 338, descriptorIndex := 339, attributes := #[] }, { accessFlags := 4120, nameIndex := 245, descriptorIndex := 246, attributes := #[] }])
  fields := #[{ name := "E", type := .double, accessFlags := 25, slot := 0, constantValue := 0 }, { name := "PI", type := .double, accessFlags := 25, slot := 1, constantValue := 0 }, { name := "TAU", type := .double, accessFlags := 25, slot := 2, constantValue := 0 }, { name := "DEGREES_TO_RADIANS", type := .double, accessFlags := 26, slot := 3, constantValue := 0 }, { name := "RADIANS_TO_DEGREES", type := .double, accessFlags := 26, slot := 4, constantValue := 0 }, { name := "negativeZeroFloatBits", type := .long, accessFlags := 26, slot := 5, constantValue := 0 }, { name := "negativeZeroDoubleBits", type := .long, accessFlags := 26, slot := 6, constantValue := 0 }, { name := "twoToTheDoubleScaleUp", type := .double, accessFlags := 8, slot := 7, constantValue := 0 }, { name := "twoToTheDoubleScaleDown", type := .double, accessFlags := 8, slot := 8, constantValue := 0 }, { name := "$assertionsDisabled", type := .boolean, accessFlags := 4120, slot := 9, constantValue := 0 }]
  methods := #[k18m0, k18m1, k18m2]
  instanceTypes := #[]
  staticTypes := #[.double, .double, .double, .double, .double, .long, .long, .double, .double, .boolean]
  resolved := Array.replicate 460 none
  statics := none }

def pool19 : Array CpInfo := pool [(2, .class_ 4), (1, u "java/lang/Object"), (0, u "<init>"), (0, u "()V"), (7, .class_ 16), (1, u "java/util/Arrays"), (57, .class_ 76), (1, u "java/util/Arrays$NaturalOrder"), (32, u "()Ljava/lang/Object;"), (3, .class_ 115), (1, u "java/util/Arrays$LegacyMergeSort"), (1, u "Z"), (10, .nameAndType 129 109), (0, u "clone"), (9, u "copyOfRange"), (10, .methodref 151 152), (0, .class_ 153), (0, .nameAndType 154 155), (0, u "java/lang/System"), (0, u "arraycopy"), (0, u "(Ljava/lang/Object;ILjava/lang/Object;II)V"), (146, u "copyOf"), (1, .methodref 305 306), (0, .class_ 307), (0, .nameAndType 308 309), (0, u "java/lang/Math"), (0, u "min"), (0, u "(II)I"), (0, .methodref 311 128), (0, .class_ 312), (0, u "[B"), (26, .methodref 14 340), (0, .nameAndType 341 342), (0, u "copyOfRangeByte"), (0, u "([BII)[B"), (0, .methodref 14 344), (0, .nameAndType 345 346), (0, u "checkLength"), (0, u "(II)V"), (28, .class_ 376), (0, u "java/util/Arrays$ArrayList"), (68, u "$assertionsDisabled"), (269, u "MIN_ARRAY_SORT_GRAN"), (0, u "I"), (2, u "INSERTIONSORT_THRESHOLD"), (149, u "([BI)[B"), (105, .class_ 976), (0, u "java/util/Arrays$ArrayItr")] 52

def k19m0 : Method := { name := "<init>", desc := "()V", sig := { parameters := [], returnType := none }, accessFlags := 2, code := none }
def k19c1 : Code := { maxStack := 6, maxLocals := 3, code := jdk_65_method_121_code, exceptionTable := #[], attributes := #[] }
def k19m1 : Method := { name := "copyOf", desc := "([BI)[B", sig := { parameters := [(.array .byte), .int], returnType := some (.array .byte) }, accessFlags := 9, code := some k19c1 }
def k19c2 : Code := { maxStack := 4, maxLocals := 2, code := jdk_65_method_131_code, exceptionTable := #[], attributes := #[] }
def k19m2 : Method := { name := "checkLength", desc := "(II)V", sig := { parameters := [.int, .int], returnType := none }, accessFlags := 10, code := some k19c2 }
def k19c3 : Code := { maxStack := 3, maxLocals := 3, code := jdk_65_method_132_code, exceptionTable := #[], attributes := #[] }
def k19m3 : Method := { name := "copyOfRange", desc := "([BII)[B", sig := { parameters := [(.array .byte), .int, .int], returnType := some (.array .byte) }, accessFlags := 9, code := some k19c3 }
def k19c4 : Code := { maxStack := 6, maxLocals := 5, code := jdk_65_method_133_code, exceptionTable := #[], attributes := #[] }
def k19m4 : Method := { name := "copyOfRangeByte", desc := "([BII)[B", sig := { parameters := [(.array .byte), .int, .int], returnType := some (.array .byte) }, accessFlags := 10, code := some k19c4 }
/-- java/util/Arrays -/
def k19 : Class := { plain "java/util/Arrays" (some 0) with
  accessFlags := 49
  interfaces := #[]
  cf := some (fileOf pool19 14 #[.nestMembers #[975, 375, 113, 74]] #[{ accessFlags := 2, nameIndex := 5, descriptorIndex := 6, attributes := #[] }, { accessFlags := 9, nameIndex := 302, descriptorIndex := 869, attributes := #[] }, { accessFlags := 10, nameIndex := 345, descriptorIndex := 346, attributes := #[] }, { accessFlags := 9, nameIndex := 139, descriptorIndex := 342, attributes := #[] }, { accessFlags := 10, nameIndex := 341, descriptorIndex := 342, attributes := #[] }] 49 2 #[] #[{ accessFlags := 26, nameIndex := 715, descriptorIndex := 716, attributes := #[] }, { accessFlags := 26, nameIndex := 719, descriptorIndex := 716, attributes := #[] }, { accessFlags := 4120, nameIndex := 445, descriptorIndex := 117, attributes := #[] }])
  fields := #[{ name := "MIN_ARRAY_SORT_GRAN", type := .int, accessFlags := 26, slot := 0, constantValue := 0 }, { name := "INSERTIONSORT_THRESHOLD", type := .int, accessFlags := 26, slot := 1, constantValue := 0 }, { name := "$assertionsDisabled", type := .boolean, accessFlags := 4120, slot := 2, constantValue := 0 }]
  methods := #[k19m0, k19m1, k19m2, k19m3, k19m4]
  instanceTypes := #[]
  staticTypes := #[.int, .int, .boolean]
  resolved := Array.replicate 1029 none
  statics := none }

def pool20 : Array CpInfo := pool [(1, .class_ 2), (0, u "java/lang/String"), (1, .class_ 6), (1, u "java/lang/Object"), (0, u "<init>"), (0, u "()V"), (0, .methodref 1 10), (0, .nameAndType 11 12), (0, u "checkIndex"), (0, u "(II)V"), (1, .class_ 16), (1, u "java/lang/StringLatin1"), (36, u "([BI)C"), (36, u "canEncode"), (14, u "(C)Z"), (15, u "$assertionsDisabled"), (0, u "Z"), (98, .class_ 223), (1, u "java/lang/StringLatin1$LinesSpliterator"), (28, u "charAt"), (127, u "toBytes"), (1, u "(C)[B"), (7, .class_ 391), (0, u "java/lang/StringLatin1$CharsSpliterator")] 3

def k20m0 : Method := { name := "<init>", desc := "()V", sig := { parameters := [], returnType := none }, accessFlags := 0, code := none }
def k20c1 : Code := { maxStack := 2, maxLocals := 2, code := jdk_43_method_2_code, exceptionTable := #[], attributes := #[] }
def k20m1 : Method := { name := "charAt", desc := "([BI)C", sig := { parameters := [(.array .byte), .int], returnType := some .char }, accessFlags := 9, code := some k20c1 }
def k20c2 : Code := { maxStack := 2, maxLocals := 1, code := jdk_43_method_3_code, exceptionTable := #[], attributes := #[] }
def k20m2 : Method := { name := "canEncode", desc := "(C)Z", sig := { parameters := [.char], returnType := some .boolean }, accessFlags := 9, code := some k20c2 }
def k20c3 : Code := { maxStack := 4, maxLocals := 1, code := jdk_43_method_46_code, exceptionTable := #[], attributes := #[] }
def k20m3 : Method := { name := "toBytes", desc := "(C)[B", sig := { parameters := [.char], returnType := some (.array .byte) }, accessFlags := 9, code := some k20c3 }
/-- java/lang/StringLatin1 -/
def k20 : Class := { plain "java/lang/StringLatin1" (some 0) with
  accessFlags := 48
  interfaces := #[]
  cf := some (fileOf pool20 14 #[.nestMembers #[390, 221]] #[{ accessFlags := 0, nameIndex := 7, descriptorIndex := 8, attributes := #[] }, { accessFlags := 9, nameIndex := 252, descriptorIndex := 53, attributes := #[] }, { accessFlags := 9, nameIndex := 90, descriptorIndex := 105, attributes := #[] }, { accessFlags := 9, nameIndex := 380, descriptorIndex := 382, attributes := #[] }] 48 4 #[] #[{ accessFlags := 4120, nameIndex := 121, descriptorIndex := 122, attributes := #[] }])
  fields := #[{ name := "$assertionsDisabled", type := .boolean, accessFlags := 4120, slot := 0, constantValue := 0 }]
  methods := #[k20m0, k20m1, k20m2, k20m3]
  instanceTypes := #[]
  staticTypes := #[.boolean]
  resolved := Array.replicate 395 none
  statics := none }

def pool21 : Array CpInfo := pool [(2, .class_ 4), (1, u "java/lang/Object"), (0, u "<init>"), (0, u "()V"), (17, .class_ 26), (1, u "jdk/internal/util/Preconditions"), (6, u "checkIndex"), (21, .class_ 56), (0, u "jdk/internal/util/Preconditions$4"), (57, .class_ 115), (0, u "jdk/internal/util/Preconditions$1"), (7, u "SIOOBE_FORMATTER"), (0, u "Ljava/util/function/BiFunction;"), (0, .class_ 126), (0, u "jdk/internal/util/Preconditions$2"), (3, u "AIOOBE_FORMATTER"), (0, .class_ 132), (0, u "jdk/internal/util/Preconditions$3"), (3, u "IOOBE_FORMATTER"), (41, u "(IILjava/util/function/BiFunction;)I")] 15

def k21m0 : Method := { name := "<init>", desc := "()V", sig := { parameters := [], returnType := none }, accessFlags := 1, code := none }
def k21c1 : Code := { maxStack := 3, maxLocals := 3, code := jdk_41_method_11_code, exceptionTable := #[], attributes := #[] }
def k21m1 : Method := { name := "checkIndex", desc := "(IILjava/util/function/BiFunction;)I", sig := { parameters := [.int, .int, (.object "java/util/function/BiFunction")], returnType := some .int }, accessFlags := 9, code := some k21c1 }
/-- jdk/internal/util/Preconditions -/
def k21 : Class := { plain "jdk/internal/util/Preconditions" (some 0) with
  accessFlags := 33
  interfaces := #[]
  cf := some (fileOf pool21 24 #[.nestMembers #[55, 131, 125, 114]] #[{ accessFlags := 1, nameIndex := 5, descriptorIndex := 6, attributes := #[] }, { accessFlags := 9, nameIndex := 33, descriptorIndex := 178, attributes := #[] }] 33 2 #[] #[{ accessFlags := 25, nameIndex := 123, descriptorIndex := 124, attributes := #[] }, { accessFlags := 25, nameIndex := 130, descriptorIndex := 124, attributes := #[] }, { accessFlags := 25, nameIndex := 136, descriptorIndex := 124, attributes := #[] }])
  fields := #[{ name := "SIOOBE_FORMATTER", type := (.object "java/util/function/BiFunction"), accessFlags := 25, slot := 0, constantValue := 0 }, { name := "AIOOBE_FORMATTER", type := (.object "java/util/function/BiFunction"), accessFlags := 25, slot := 1, constantValue := 0 }, { name := "IOOBE_FORMATTER", type := (.object "java/util/function/BiFunction"), accessFlags := 25, slot := 2, constantValue := 0 }]
  methods := #[k21m0, k21m1]
  instanceTypes := #[]
  staticTypes := #[(.object "java/util/function/BiFunction"), (.object "java/util/function/BiFunction"), (.object "java/util/function/BiFunction")]
  resolved := Array.replicate 194 none
  statics := some 1 }

def pool22 : Array CpInfo := pool [(1, .class_ 2), (0, u "java/lang/Cloneable"), (0, .class_ 4), (0, u "java/lang/Object")] 2

/-- java/lang/Cloneable -/
def k22 : Class := { plain "java/lang/Cloneable" (some 0) with
  accessFlags := 1537
  interfaces := #[]
  cf := some (fileOf pool22 1 #[] #[] 1537 3 #[] #[])
  fields := #[]
  methods := #[]
  instanceTypes := #[]
  staticTypes := #[]
  resolved := Array.replicate 7 none
  statics := none }

/-- the primitive byte -/
def k23 : Class := { plain "byte" none with kind := .primitive 'B', accessFlags := 0x411 }
/-- [B -/
def k24 : Class := { plain "[B" (some 0) with kind := .array 23 .byte, interfaces := #[22, 2], accessFlags := 1041 }

/-- the primitive char -/
def k25 : Class := { plain "char" none with kind := .primitive 'C', accessFlags := 0x411 }
/-- [C -/
def k26 : Class := { plain "[C" (some 0) with kind := .array 25 .char, interfaces := #[22, 2], accessFlags := 1041 }

/-- the primitive int -/
def k27 : Class := { plain "int" none with kind := .primitive 'I', accessFlags := 0x411 }
/-- [I -/
def k28 : Class := { plain "[I" (some 0) with kind := .array 27 .int, interfaces := #[22, 2], accessFlags := 1041 }

def heap : Heap := #[{ cls := 7, slots := #[.long 0, .int 1, .null, .int 0, .null, .int 0, .int 0], vm := .statics 7 },
  { cls := 21, slots := #[.null, .null, .null], vm := .statics 21 }]
def classes : Array Class := #[k0, k1, k2, k3, k4, k5, k6, k7, k8, k9, k10, k11, k12, k13, k14, k15, k16, k17, k18, k19, k20, k21, k22, k23, k24, k25, k26, k27, k28]
def interned : List (Array UInt16 × Addr) := []
def slotsUsed : Nat := 10
def theMethod : MethodId := ⟨1, 3⟩
def args0 : Array Value := #[.int 5, .int 6, .int 7]
def aboutOver (below : List Frame) : State where
  vm := { classes := classes, interned := interned.toArray }
  heap := heap
  slotsUsed := slotsUsed
  threads := #[{ frames := .invoking theMethod args0 :: below }]
def below0 : List Frame := [.native { method := ⟨0, 0⟩, args := #[] }]
def about1 : State := aboutOver below0
def p0 : Program := .bare "" "" ""
def e0 : Env := launch0.env 0 0 0
theorem w_frames : about1.frames = Frame.invoking theMethod args0 :: below0 := rfl
set_option maxRecDepth 65536 in
theorem w_args : argsFit about1.vm theMethod args0 = true := by decide +kernel
set_option maxRecDepth 65536 in
theorem w_heap : heapFits about1 = true := by decide +kernel
set_option maxRecDepth 65536 in
theorem w_runnable : about1.curStatus? = some .runnable := by decide +kernel
set_option maxRecDepth 65536 in
theorem w_alone : about1.alone = true := by decide +kernel
set_option maxRecDepth 65536 in
theorem w_named : about1.methodNamed? x = some theMethod := by decide +kernel
set_option maxRecDepth 65536 in
theorem w_hears : about1.hears theMethod below0 = true := by decide +kernel
set_option maxRecDepth 65536 in
theorem w_ripe : about1.ripe theMethod args0 below0 = true := by decide +kernel
theorem w_running : about1.status = .running := rfl
set_option maxRecDepth 65536 in
theorem w_room : about1.hasRoom e0.platform room_1 = true :=
  launch0.hasRoom_least _ room_1 (by decide +kernel) (by decide +kernel) (by decide +kernel) (by decide +kernel) (by decide +kernel) (by decide +kernel)
theorem allAtoms_all (ts : List Jvm.Cond) (a : Array Jvm.Value) (st : Jvm.State) : (allAtoms ts).before a st = ts.all (fun c => c.before a st) := by
  induction ts with
  | nil => rfl
  | cons c t ih =>
    show (Jvm.Cond.and c (allAtoms t)).before a st = _
    rw [Jvm.Cond.before_and, ih, List.all_cons]
def words1 : List Jvm.Cond := Jvm.Cond.code x code maxLocals ret :: tables_1
/-- a 'code' word, met by the world's own term for the bytes: nothing is compared byte by byte -/
theorem code_word {y : MethodName} {bytes : ByteArray} {mx : Nat} {rt : Option FieldType} {a : Array Value} {s : State} {m : MethodId} {meth : Method} {c : Code} (h1 : s.methodNamed? y = some m) (h2 : s.vm.method? m = some meth) (h3 : meth.code = some c) (h4 : c.code = bytes)
    (h5 : (c.maxLocals == mx && c.exceptionTable.isEmpty && decide (c.maxStack ≤ mostOperands) && decide (meth.sig.returnType = rt) && !meth.locks && decide (parseMethodDescriptor y.desc = some meth.sig)) = true) : (Jvm.Cond.code y bytes mx rt).before a s = true := by
  simp only [Bool.and_eq_true, beq_iff_eq, Bool.not_eq_true', decide_eq_true_eq] at h5
  obtain ⟨⟨⟨⟨⟨g1, g2⟩, g3⟩, g4⟩, g5⟩, g6⟩ := h5
  simp [Cond.before, Cond.holds, Cond.value, h1, h2, h3, h4, g1, g2, g3, g4, g5, g6]
def isCode : Jvm.Cond → Bool
  | .code _ _ _ _ => true
  | _ => false
theorem all_split {L : List Jvm.Cond} {P : Jvm.Cond → Bool} (h1 : L.all (fun c => isCode c || P c) = true) (h2 : ∀ c ∈ L.filter isCode, P c = true) : L.all P = true := by
  refine List.all_eq_true.mpr fun c hc => ?_
  have h := List.all_eq_true.mp h1 c hc
  rcases Bool.eq_false_or_eq_true (isCode c) with hi | hi
  · exact h2 c (List.mem_filter.mpr ⟨hc, hi⟩)
  · simpa [hi] using h
set_option maxRecDepth 65536 in
theorem w_c0 : (Jvm.Cond.code x code maxLocals ret).before args0 about1 = true := code_word (m := ⟨1, 3⟩) (meth := k1m3) (c := k1c3) (by decide +kernel) rfl rfl rfl (by decide +kernel)
set_option maxRecDepth 65536 in
theorem w_c1 : (Jvm.Cond.code ({ cls := "com/example/strikeboard/strikeboard/engine/UnusedToStringPinLaw", name := "mk", desc := "(I)Ljava/lang/String;" } : Jvm.MethodName) method_2_code (5 : Nat) (Option.some (Jvm.ClassFile.FieldType.object "java/lang/String"))).before args0 about1 = true := code_word (m := ⟨1, 1⟩) (meth := k1m1) (c := k1c1) (by decide +kernel) rfl rfl rfl (by decide +kernel)
set_option maxRecDepth 65536 in
theorem w_c2 : (Jvm.Cond.code ({ cls := "java/lang/String", name := "<init>", desc := "([C)V" } : Jvm.MethodName) jdk_42_method_3_code (2 : Nat) (Option.none : Option Jvm.ClassFile.FieldType)).before args0 about1 = true := code_word (m := ⟨7, 1⟩) (meth := k7m1) (c := k7c1) (by decide +kernel) rfl rfl rfl (by decide +kernel)
set_option maxRecDepth 65536 in
theorem w_c3 : (Jvm.Cond.code ({ cls := "java/lang/String", name := "<init>", desc := "([CIILjava/lang/Void;)V" } : Jvm.MethodName) jdk_42_method_149_code (6 : Nat) (Option.none : Option Jvm.ClassFile.FieldType)).before args0 about1 = true := code_word (m := ⟨7, 7⟩) (meth := k7m7) (c := k7c7) (by decide +kernel) rfl rfl rfl (by decide +kernel)
set_option maxRecDepth 65536 in
theorem w_c4 : (Jvm.Cond.code ({ cls := "java/lang/Object", name := "<init>", desc := "()V" } : Jvm.MethodName) object_method_1_code (1 : Nat) (Option.none : Option Jvm.ClassFile.FieldType)).before args0 about1 = true := code_word (m := ⟨0, 0⟩) (meth := k0m0) (c := k0c0) (by decide +kernel) rfl rfl rfl (by decide +kernel)
set_option maxRecDepth 65536 in
theorem w_c5 : (Jvm.Cond.code ({ cls := "java/lang/StringUTF16", name := "compress", desc := "([CII)[B" } : Jvm.MethodName) jdk_52_method_16_code (6 : Nat) (Option.some (Jvm.ClassFile.FieldType.array Jvm.ClassFile.FieldType.byte))).before args0 about1 = true := code_word (m := ⟨8, 2⟩) (meth := k8m2) (c := k8c2) (by decide +kernel) rfl rfl rfl (by decide +kernel)
set_option maxRecDepth 65536 in
theorem w_c6 : (Jvm.Cond.code ({ cls := "java/lang/StringUTF16", name := "compress", desc := "([CI[BII)I" } : Jvm.MethodName) jdk_52_method_21_code (7 : Nat) (Option.some Jvm.ClassFile.FieldType.int)).before args0 about1 = true := code_word (m := ⟨8, 3⟩) (meth := k8m3) (c := k8c3) (by decide +kernel) rfl rfl rfl (by decide +kernel)
set_option maxRecDepth 65536 in
theorem w_c7 : (Jvm.Cond.code ({ cls := "java/lang/StringUTF16", name := "coderFromArrayLen", desc := "([BI)B" } : Jvm.MethodName) jdk_52_method_15_code (2 : Nat) (Option.some Jvm.ClassFile.FieldType.byte)).before args0 about1 = true := code_word (m := ⟨8, 1⟩) (meth := k8m1) (c := k8c1) (by decide +kernel) rfl rfl rfl (by decide +kernel)
set_option maxRecDepth 65536 in
theorem w_c8 : (Jvm.Cond.code ({ cls := "com/example/strikeboard/strikeboard/engine/Explanation$Unused", name := "<init>", desc := "(Ljava/lang/String;Ljava/lang/String;Ljava/lang/String;)V" } : Jvm.MethodName) prog_26_method_1_code (4 : Nat) (Option.none : Option Jvm.ClassFile.FieldType)).before args0 about1 = true := code_word (m := ⟨11, 0⟩) (meth := k11m0) (c := k11c0) (by decide +kernel) rfl rfl rfl (by decide +kernel)
set_option maxRecDepth 65536 in
theorem w_c9 : (Jvm.Cond.code ({ cls := "java/lang/Record", name := "<init>", desc := "()V" } : Jvm.MethodName) jdk_30_method_1_code (1 : Nat) (Option.none : Option Jvm.ClassFile.FieldType)).before args0 about1 = true := code_word (m := ⟨9, 0⟩) (meth := k9m0) (c := k9c0) (by decide +kernel) rfl rfl rfl (by decide +kernel)
set_option maxRecDepth 65536 in
theorem w_c10 : (Jvm.Cond.code ({ cls := "java/util/Objects", name := "requireNonNull", desc := "(Ljava/lang/Object;Ljava/lang/String;)Ljava/lang/Object;" } : Jvm.MethodName) jdk_31_method_11_code (2 : Nat) (Option.some (Jvm.ClassFile.FieldType.object "java/lang/Object"))).before args0 about1 = true := code_word (m := ⟨12, 1⟩) (meth := k12m1) (c := k12c1) (by decide +kernel) rfl rfl rfl (by decide +kernel)
set_option maxRecDepth 65536 in
theorem w_c11 : (Jvm.Cond.code ({ cls := "com/example/strikeboard/strikeboard/engine/Explanation$Unused", name := "toString", desc := "()Ljava/lang/String;" } : Jvm.MethodName) prog_26_method_2_code (1 : Nat) (Option.some (Jvm.ClassFile.FieldType.object "java/lang/String"))).before args0 about1 = true := code_word (m := ⟨11, 1⟩) (meth := k11m1) (c := k11c1) (by decide +kernel) rfl rfl rfl (by decide +kernel)
set_option maxRecDepth 65536 in
theorem w_c12 : (Jvm.Cond.code ({ cls := "java/lang/StringBuilder", name := "<init>", desc := "()V" } : Jvm.MethodName) jdk_67_method_1_code (1 : Nat) (Option.none : Option Jvm.ClassFile.FieldType)).before args0 about1 = true := code_word (m := ⟨15, 0⟩) (meth := k15m0) (c := k15c0) (by decide +kernel) rfl rfl rfl (by decide +kernel)
set_option maxRecDepth 65536 in
theorem w_c13 : (Jvm.Cond.code ({ cls := "java/lang/AbstractStringBuilder", name := "<init>", desc := "(I)V" } : Jvm.MethodName) jdk_68_method_2_code (2 : Nat) (Option.none : Option Jvm.ClassFile.FieldType)).before args0 about1 = true := code_word (m := ⟨14, 1⟩) (meth := k14m1) (c := k14c1) (by decide +kernel) rfl rfl rfl (by decide +kernel)
set_option maxRecDepth 65536 in
theorem w_c14 : (Jvm.Cond.code ({ cls := "java/lang/StringBuilder", name := "append", desc := "(Ljava/lang/String;)Ljava/lang/StringBuilder;" } : Jvm.MethodName) jdk_67_method_7_code (2 : Nat) (Option.some (Jvm.ClassFile.FieldType.object "java/lang/StringBuilder"))).before args0 about1 = true := code_word (m := ⟨15, 1⟩) (meth := k15m1) (c := k15c1) (by decide +kernel) rfl rfl rfl (by decide +kernel)
set_option maxRecDepth 65536 in
theorem w_c15 : (Jvm.Cond.code ({ cls := "java/lang/AbstractStringBuilder", name := "append", desc := "(Ljava/lang/String;)Ljava/lang/AbstractStringBuilder;" } : Jvm.MethodName) jdk_68_method_22_code (3 : Nat) (Option.some (Jvm.ClassFile.FieldType.object "java/lang/AbstractStringBuilder"))).before args0 about1 = true := code_word (m := ⟨14, 5⟩) (meth := k14m5) (c := k14c5) (by decide +kernel) rfl rfl rfl (by decide +kernel)
set_option maxRecDepth 65536 in
theorem w_c16 : (Jvm.Cond.code ({ cls := "java/lang/String", name := "length", desc := "()I" } : Jvm.MethodName) jdk_42_method_54_code (1 : Nat) (Option.some Jvm.ClassFile.FieldType.int)).before args0 about1 = true := code_word (m := ⟨7, 3⟩) (meth := k7m3) (c := k7c3) (by decide +kernel) rfl rfl rfl (by decide +kernel)
set_option maxRecDepth 65536 in
theorem w_c17 : (Jvm.Cond.code ({ cls := "java/lang/String", name := "coder", desc := "()B" } : Jvm.MethodName) jdk_42_method_152_code (1 : Nat) (Option.some Jvm.ClassFile.FieldType.byte)).before args0 about1 = true := code_word (m := ⟨7, 10⟩) (meth := k7m10) (c := k7c10) (by decide +kernel) rfl rfl rfl (by decide +kernel)
set_option maxRecDepth 65536 in
theorem w_c18 : (Jvm.Cond.code ({ cls := "java/lang/AbstractStringBuilder", name := "ensureCapacityInternal", desc := "(I)V" } : Jvm.MethodName) jdk_68_method_9_code (3 : Nat) (Option.none : Option Jvm.ClassFile.FieldType)).before args0 about1 = true := code_word (m := ⟨14, 3⟩) (meth := k14m3) (c := k14c3) (by decide +kernel) rfl rfl rfl (by decide +kernel)
set_option maxRecDepth 65536 in
theorem w_c19 : (Jvm.Cond.code ({ cls := "java/lang/AbstractStringBuilder", name := "putStringAt", desc := "(ILjava/lang/String;)V" } : Jvm.MethodName) jdk_68_method_73_code (3 : Nat) (Option.none : Option Jvm.ClassFile.FieldType)).before args0 about1 = true := code_word (m := ⟨14, 9⟩) (meth := k14m9) (c := k14c9) (by decide +kernel) rfl rfl rfl (by decide +kernel)
set_option maxRecDepth 65536 in
theorem w_c20 : (Jvm.Cond.code ({ cls := "java/lang/AbstractStringBuilder", name := "inflateIfNeededFor", desc := "(Ljava/lang/String;)V" } : Jvm.MethodName) jdk_68_method_71_code (2 : Nat) (Option.none : Option Jvm.ClassFile.FieldType)).before args0 about1 = true := code_word (m := ⟨14, 8⟩) (meth := k14m8) (c := k14c8) (by decide +kernel) rfl rfl rfl (by decide +kernel)
set_option maxRecDepth 65536 in
theorem w_c21 : (Jvm.Cond.code ({ cls := "java/lang/String", name := "getBytes", desc := "([BIB)V" } : Jvm.MethodName) jdk_42_method_147_code (4 : Nat) (Option.none : Option Jvm.ClassFile.FieldType)).before args0 about1 = true := code_word (m := ⟨7, 6⟩) (meth := k7m6) (c := k7c6) (by decide +kernel) rfl rfl rfl (by decide +kernel)
set_option maxRecDepth 65536 in
theorem w_c22 : (Jvm.Cond.code ({ cls := "java/lang/AbstractStringBuilder", name := "newCapacity", desc := "(I)I" } : Jvm.MethodName) jdk_68_method_10_code (6 : Nat) (Option.some Jvm.ClassFile.FieldType.int)).before args0 about1 = true := code_word (m := ⟨14, 4⟩) (meth := k14m4) (c := k14c4) (by decide +kernel) rfl rfl rfl (by decide +kernel)
set_option maxRecDepth 65536 in
theorem w_c23 : (Jvm.Cond.code ({ cls := "jdk/internal/util/ArraysSupport", name := "newLength", desc := "(III)I" } : Jvm.MethodName) jdk_48_method_27_code (4 : Nat) (Option.some Jvm.ClassFile.FieldType.int)).before args0 about1 = true := code_word (m := ⟨17, 1⟩) (meth := k17m1) (c := k17c1) (by decide +kernel) rfl rfl rfl (by decide +kernel)
set_option maxRecDepth 65536 in
theorem w_c24 : (Jvm.Cond.code ({ cls := "java/lang/Math", name := "max", desc := "(II)I" } : Jvm.MethodName) jdk_29_method_65_code (2 : Nat) (Option.some Jvm.ClassFile.FieldType.int)).before args0 about1 = true := code_word (m := ⟨18, 1⟩) (meth := k18m1) (c := k18c1) (by decide +kernel) rfl rfl rfl (by decide +kernel)
set_option maxRecDepth 65536 in
theorem w_c25 : (Jvm.Cond.code ({ cls := "java/util/Arrays", name := "copyOf", desc := "([BI)[B" } : Jvm.MethodName) jdk_65_method_121_code (3 : Nat) (Option.some (Jvm.ClassFile.FieldType.array Jvm.ClassFile.FieldType.byte))).before args0 about1 = true := code_word (m := ⟨19, 1⟩) (meth := k19m1) (c := k19c1) (by decide +kernel) rfl rfl rfl (by decide +kernel)
set_option maxRecDepth 65536 in
theorem w_c26 : (Jvm.Cond.code ({ cls := "java/lang/Math", name := "min", desc := "(II)I" } : Jvm.MethodName) jdk_29_method_69_code (2 : Nat) (Option.some Jvm.ClassFile.FieldType.int)).before args0 about1 = true := code_word (m := ⟨18, 2⟩) (meth := k18m2) (c := k18c2) (by decide +kernel) rfl rfl rfl (by decide +kernel)
set_option maxRecDepth 65536 in
theorem w_c27 : (Jvm.Cond.code ({ cls := "java/lang/StringBuilder", name := "toString", desc := "()Ljava/lang/String;" } : Jvm.MethodName) jdk_67_method_42_code (1 : Nat) (Option.some (Jvm.ClassFile.FieldType.object "java/lang/String"))).before args0 about1 = true := code_word (m := ⟨15, 2⟩) (meth := k15m2) (c := k15c2) (by decide +kernel) rfl rfl rfl (by decide +kernel)
set_option maxRecDepth 65536 in
theorem w_c28 : (Jvm.Cond.code ({ cls := "java/lang/String", name := "<init>", desc := "(Ljava/lang/StringBuilder;)V" } : Jvm.MethodName) jdk_42_method_53_code (2 : Nat) (Option.none : Option Jvm.ClassFile.FieldType)).before args0 about1 = true := code_word (m := ⟨7, 2⟩) (meth := k7m2) (c := k7c2) (by decide +kernel) rfl rfl rfl (by decide +kernel)
set_option maxRecDepth 65536 in
theorem w_c29 : (Jvm.Cond.code ({ cls := "java/lang/String", name := "<init>", desc := "(Ljava/lang/AbstractStringBuilder;Ljava/lang/Void;)V" } : Jvm.MethodName) jdk_42_method_150_code (5 : Nat) (Option.none : Option Jvm.ClassFile.FieldType)).before args0 about1 = true := code_word (m := ⟨7, 8⟩) (meth := k7m8) (c := k7c8) (by decide +kernel) rfl rfl rfl (by decide +kernel)
set_option maxRecDepth 65536 in
theorem w_c30 : (Jvm.Cond.code ({ cls := "java/lang/AbstractStringBuilder", name := "getValue", desc := "()[B" } : Jvm.MethodName) jdk_68_method_64_code (1 : Nat) (Option.some (Jvm.ClassFile.FieldType.array Jvm.ClassFile.FieldType.byte))).before args0 about1 = true := code_word (m := ⟨14, 6⟩) (meth := k14m6) (c := k14c6) (by decide +kernel) rfl rfl rfl (by decide +kernel)
set_option maxRecDepth 65536 in
theorem w_c31 : (Jvm.Cond.code ({ cls := "java/lang/StringBuilder", name := "length", desc := "()I" } : Jvm.MethodName) jdk_67_method_93_code (1 : Nat) (Option.some Jvm.ClassFile.FieldType.int)).before args0 about1 = true := code_word (m := ⟨15, 3⟩) (meth := k15m3) (c := k15c3) (by decide +kernel) rfl rfl rfl (by decide +kernel)
set_option maxRecDepth 65536 in
theorem w_c32 : (Jvm.Cond.code ({ cls := "java/lang/AbstractStringBuilder", name := "length", desc := "()I" } : Jvm.MethodName) jdk_68_method_6_code (1 : Nat) (Option.some Jvm.ClassFile.FieldType.int)).before args0 about1 = true := code_word (m := ⟨14, 2⟩) (meth := k14m2) (c := k14c2) (by decide +kernel) rfl rfl rfl (by decide +kernel)
set_option maxRecDepth 65536 in
theorem w_c33 : (Jvm.Cond.code ({ cls := "java/lang/AbstractStringBuilder", name := "isLatin1", desc := "()Z" } : Jvm.MethodName) jdk_68_method_68_code (1 : Nat) (Option.some Jvm.ClassFile.FieldType.boolean)).before args0 about1 = true := code_word (m := ⟨14, 7⟩) (meth := k14m7) (c := k14c7) (by decide +kernel) rfl rfl rfl (by decide +kernel)
set_option maxRecDepth 65536 in
theorem w_c34 : (Jvm.Cond.code ({ cls := "java/util/Arrays", name := "copyOfRange", desc := "([BII)[B" } : Jvm.MethodName) jdk_65_method_132_code (3 : Nat) (Option.some (Jvm.ClassFile.FieldType.array Jvm.ClassFile.FieldType.byte))).before args0 about1 = true := code_word (m := ⟨19, 3⟩) (meth := k19m3) (c := k19c3) (by decide +kernel) rfl rfl rfl (by decide +kernel)
set_option maxRecDepth 65536 in
theorem w_c35 : (Jvm.Cond.code ({ cls := "java/util/Arrays", name := "copyOfRangeByte", desc := "([BII)[B" } : Jvm.MethodName) jdk_65_method_133_code (5 : Nat) (Option.some (Jvm.ClassFile.FieldType.array Jvm.ClassFile.FieldType.byte))).before args0 about1 = true := code_word (m := ⟨19, 4⟩) (meth := k19m4) (c := k19c4) (by decide +kernel) rfl rfl rfl (by decide +kernel)
set_option maxRecDepth 65536 in
theorem w_c36 : (Jvm.Cond.code ({ cls := "java/util/Arrays", name := "checkLength", desc := "(II)V" } : Jvm.MethodName) jdk_65_method_131_code (2 : Nat) (Option.none : Option Jvm.ClassFile.FieldType)).before args0 about1 = true := code_word (m := ⟨19, 2⟩) (meth := k19m2) (c := k19c2) (by decide +kernel) rfl rfl rfl (by decide +kernel)
set_option maxRecDepth 65536 in
theorem w_c37 : (Jvm.Cond.code ({ cls := "com/example/strikeboard/strikeboard/engine/UnusedToStringPinLaw", name := "strAt", desc := "(Ljava/lang/String;ILjava/lang/String;)Z" } : Jvm.MethodName) method_3_code (4 : Nat) (Option.some Jvm.ClassFile.FieldType.boolean)).before args0 about1 = true := code_word (m := ⟨1, 2⟩) (meth := k1m2) (c := k1c2) (by decide +kernel) rfl rfl rfl (by decide +kernel)
set_option maxRecDepth 65536 in
theorem w_c38 : (Jvm.Cond.code ({ cls := "java/lang/String", name := "charAt", desc := "(I)C" } : Jvm.MethodName) jdk_42_method_56_code (2 : Nat) (Option.some Jvm.ClassFile.FieldType.char)).before args0 about1 = true := code_word (m := ⟨7, 4⟩) (meth := k7m4) (c := k7c4) (by decide +kernel) rfl rfl rfl (by decide +kernel)
set_option maxRecDepth 65536 in
theorem w_c39 : (Jvm.Cond.code ({ cls := "java/lang/String", name := "isLatin1", desc := "()Z" } : Jvm.MethodName) jdk_42_method_154_code (1 : Nat) (Option.some Jvm.ClassFile.FieldType.boolean)).before args0 about1 = true := code_word (m := ⟨7, 11⟩) (meth := k7m11) (c := k7c11) (by decide +kernel) rfl rfl rfl (by decide +kernel)
set_option maxRecDepth 65536 in
theorem w_c40 : (Jvm.Cond.code ({ cls := "java/lang/StringLatin1", name := "charAt", desc := "([BI)C" } : Jvm.MethodName) jdk_43_method_2_code (2 : Nat) (Option.some Jvm.ClassFile.FieldType.char)).before args0 about1 = true := code_word (m := ⟨20, 1⟩) (meth := k20m1) (c := k20c1) (by decide +kernel) rfl rfl rfl (by decide +kernel)
set_option maxRecDepth 65536 in
theorem w_c41 : (Jvm.Cond.code ({ cls := "java/lang/String", name := "checkIndex", desc := "(II)V" } : Jvm.MethodName) jdk_42_method_155_code (2 : Nat) (Option.none : Option Jvm.ClassFile.FieldType)).before args0 about1 = true := code_word (m := ⟨7, 12⟩) (meth := k7m12) (c := k7c12) (by decide +kernel) rfl rfl rfl (by decide +kernel)
set_option maxRecDepth 65536 in
theorem w_c42 : (Jvm.Cond.code ({ cls := "jdk/internal/util/Preconditions", name := "checkIndex", desc := "(IILjava/util/function/BiFunction;)I" } : Jvm.MethodName) jdk_41_method_11_code (3 : Nat) (Option.some Jvm.ClassFile.FieldType.int)).before args0 about1 = true := code_word (m := ⟨21, 1⟩) (meth := k21m1) (c := k21c1) (by decide +kernel) rfl rfl rfl (by decide +kernel)
set_option maxRecDepth 65536 in
theorem w_c43 : (Jvm.Cond.code ({ cls := "java/lang/String", name := "valueOf", desc := "(C)Ljava/lang/String;" } : Jvm.MethodName) jdk_42_method_139_code (1 : Nat) (Option.some (Jvm.ClassFile.FieldType.object "java/lang/String"))).before args0 about1 = true := code_word (m := ⟨7, 5⟩) (meth := k7m5) (c := k7c5) (by decide +kernel) rfl rfl rfl (by decide +kernel)
set_option maxRecDepth 65536 in
theorem w_c44 : (Jvm.Cond.code ({ cls := "java/lang/StringLatin1", name := "canEncode", desc := "(C)Z" } : Jvm.MethodName) jdk_43_method_3_code (1 : Nat) (Option.some Jvm.ClassFile.FieldType.boolean)).before args0 about1 = true := code_word (m := ⟨20, 2⟩) (meth := k20m2) (c := k20c2) (by decide +kernel) rfl rfl rfl (by decide +kernel)
set_option maxRecDepth 65536 in
theorem w_c45 : (Jvm.Cond.code ({ cls := "java/lang/StringLatin1", name := "toBytes", desc := "(C)[B" } : Jvm.MethodName) jdk_43_method_46_code (1 : Nat) (Option.some (Jvm.ClassFile.FieldType.array Jvm.ClassFile.FieldType.byte))).before args0 about1 = true := code_word (m := ⟨20, 3⟩) (meth := k20m3) (c := k20c3) (by decide +kernel) rfl rfl rfl (by decide +kernel)
set_option maxRecDepth 65536 in
theorem w_c46 : (Jvm.Cond.code ({ cls := "java/lang/String", name := "<init>", desc := "([BB)V" } : Jvm.MethodName) jdk_42_method_151_code (3 : Nat) (Option.none : Option Jvm.ClassFile.FieldType)).before args0 about1 = true := code_word (m := ⟨7, 9⟩) (meth := k7m9) (c := k7c9) (by decide +kernel) rfl rfl rfl (by decide +kernel)
def codes1 : List Jvm.Cond := [Jvm.Cond.code x code maxLocals ret, Jvm.Cond.code ({ cls := "com/example/strikeboard/strikeboard/engine/UnusedToStringPinLaw", name := "mk", desc := "(I)Ljava/lang/String;" } : Jvm.MethodName) method_2_code (5 : Nat) (Option.some (Jvm.ClassFile.FieldType.object "java/lang/String")), Jvm.Cond.code ({ cls := "java/lang/String", name := "<init>", desc := "([C)V" } : Jvm.MethodName) jdk_42_method_3_code (2 : Nat) (Option.none : Option Jvm.ClassFile.FieldType), Jvm.Cond.code ({ cls := "java/lang/String", name := "<init>", desc := "([CIILjava/lang/Void;)V" } : Jvm.MethodName) jdk_42_method_149_code (6 : Nat) (Option.none : Option Jvm.ClassFile.FieldType), Jvm.Cond.code ({ cls := "java/lang/Object", name := "<init>", desc := "()V" } : Jvm.MethodName) object_method_1_code (1 : Nat) (Option.none : Option Jvm.ClassFile.FieldType), Jvm.Cond.code ({ cls := "java/lang/StringUTF16", name := "compress", desc := "([CII)[B" } : Jvm.MethodName) jdk_52_method_16_code (6 : Nat) (Option.some (Jvm.ClassFile.FieldType.array Jvm.ClassFile.FieldType.byte)), Jvm.Cond.code ({ cls := "java/lang/StringUTF16", name := "compress", desc := "([CI[BII)I" } : Jvm.MethodName) jdk_52_method_21_code (7 : Nat) (Option.some Jvm.ClassFile.FieldType.int), Jvm.Cond.code ({ cls := "java/lang/StringUTF16", name := "coderFromArrayLen", desc := "([BI)B" } : Jvm.MethodName) jdk_52_method_15_code (2 : Nat) (Option.some Jvm.ClassFile.FieldType.byte), Jvm.Cond.code ({ cls := "com/example/strikeboard/strikeboard/engine/Explanation$Unused", name := "<init>", desc := "(Ljava/lang/String;Ljava/lang/String;Ljava/lang/String;)V" } : Jvm.MethodName) prog_26_method_1_code (4 : Nat) (Option.none : Option Jvm.ClassFile.FieldType), Jvm.Cond.code ({ cls := "java/lang/Record", name := "<init>", desc := "()V" } : Jvm.MethodName) jdk_30_method_1_code (1 : Nat) (Option.none : Option Jvm.ClassFile.FieldType), Jvm.Cond.code ({ cls := "java/util/Objects", name := "requireNonNull", desc := "(Ljava/lang/Object;Ljava/lang/String;)Ljava/lang/Object;" } : Jvm.MethodName) jdk_31_method_11_code (2 : Nat) (Option.some (Jvm.ClassFile.FieldType.object "java/lang/Object")), Jvm.Cond.code ({ cls := "com/example/strikeboard/strikeboard/engine/Explanation$Unused", name := "toString", desc := "()Ljava/lang/String;" } : Jvm.MethodName) prog_26_method_2_code (1 : Nat) (Option.some (Jvm.ClassFile.FieldType.object "java/lang/String")), Jvm.Cond.code ({ cls := "java/lang/StringBuilder", name := "<init>", desc := "()V" } : Jvm.MethodName) jdk_67_method_1_code (1 : Nat) (Option.none : Option Jvm.ClassFile.FieldType), Jvm.Cond.code ({ cls := "java/lang/AbstractStringBuilder", name := "<init>", desc := "(I)V" } : Jvm.MethodName) jdk_68_method_2_code (2 : Nat) (Option.none : Option Jvm.ClassFile.FieldType), Jvm.Cond.code ({ cls := "java/lang/StringBuilder", name := "append", desc := "(Ljava/lang/String;)Ljava/lang/StringBuilder;" } : Jvm.MethodName) jdk_67_method_7_code (2 : Nat) (Option.some (Jvm.ClassFile.FieldType.object "java/lang/StringBuilder")), Jvm.Cond.code ({ cls := "java/lang/AbstractStringBuilder", name := "append", desc := "(Ljava/lang/String;)Ljava/lang/AbstractStringBuilder;" } : Jvm.MethodName) jdk_68_method_22_code (3 : Nat) (Option.some (Jvm.ClassFile.FieldType.object "java/lang/AbstractStringBuilder")), Jvm.Cond.code ({ cls := "java/lang/String", name := "length", desc := "()I" } : Jvm.MethodName) jdk_42_method_54_code (1 : Nat) (Option.some Jvm.ClassFile.FieldType.int), Jvm.Cond.code ({ cls := "java/lang/String", name := "coder", desc := "()B" } : Jvm.MethodName) jdk_42_method_152_code (1 : Nat) (Option.some Jvm.ClassFile.FieldType.byte), Jvm.Cond.code ({ cls := "java/lang/AbstractStringBuilder", name := "ensureCapacityInternal", desc := "(I)V" } : Jvm.MethodName) jdk_68_method_9_code (3 : Nat) (Option.none : Option Jvm.ClassFile.FieldType), Jvm.Cond.code ({ cls := "java/lang/AbstractStringBuilder", name := "putStringAt", desc := "(ILjava/lang/String;)V" } : Jvm.MethodName) jdk_68_method_73_code (3 : Nat) (Option.none : Option Jvm.ClassFile.FieldType), Jvm.Cond.code ({ cls := "java/lang/AbstractStringBuilder", name := "inflateIfNeededFor", desc := "(Ljava/lang/String;)V" } : Jvm.MethodName) jdk_68_method_71_code (2 : Nat) (Option.none : Option Jvm.ClassFile.FieldType), Jvm.Cond.code ({ cls := "java/lang/String", name := "getBytes", desc := "([BIB)V" } : Jvm.MethodName) jdk_42_method_147_code (4 : Nat) (Option.none : Option Jvm.ClassFile.FieldType), Jvm.Cond.code ({ cls := "java/lang/AbstractStringBuilder", name := "newCapacity", desc := "(I)I" } : Jvm.MethodName) jdk_68_method_10_code (6 : Nat) (Option.some Jvm.ClassFile.FieldType.int), Jvm.Cond.code ({ cls := "jdk/internal/util/ArraysSupport", name := "newLength", desc := "(III)I" } : Jvm.MethodName) jdk_48_method_27_code (4 : Nat) (Option.some Jvm.ClassFile.FieldType.int), Jvm.Cond.code ({ cls := "java/lang/Math", name := "max", desc := "(II)I" } : Jvm.MethodName) jdk_29_method_65_code (2 : Nat) (Option.some Jvm.ClassFile.FieldType.int), Jvm.Cond.code ({ cls := "java/util/Arrays", name := "copyOf", desc := "([BI)[B" } : Jvm.MethodName) jdk_65_method_121_code (3 : Nat) (Option.some (Jvm.ClassFile.FieldType.array Jvm.ClassFile.FieldType.byte)), Jvm.Cond.code ({ cls := "java/lang/Math", name := "min", desc := "(II)I" } : Jvm.MethodName) jdk_29_method_69_code (2 : Nat) (Option.some Jvm.ClassFile.FieldType.int), Jvm.Cond.code ({ cls := "java/lang/StringBuilder", name := "toString", desc := "()Ljava/lang/String;" } : Jvm.MethodName) jdk_67_method_42_code (1 : Nat) (Option.some (Jvm.ClassFile.FieldType.object "java/lang/String")), Jvm.Cond.code ({ cls := "java/lang/String", name := "<init>", desc := "(Ljava/lang/StringBuilder;)V" } : Jvm.MethodName) jdk_42_method_53_code (2 : Nat) (Option.none : Option Jvm.ClassFile.FieldType), Jvm.Cond.code ({ cls := "java/lang/String", name := "<init>", desc := "(Ljava/lang/AbstractStringBuilder;Ljava/lang/Void;)V" } : Jvm.MethodName) jdk_42_method_150_code (5 : Nat) (Option.none : Option Jvm.ClassFile.FieldType), Jvm.Cond.code ({ cls := "java/lang/AbstractStringBuilder", name := "getValue", desc := "()[B" } : Jvm.MethodName) jdk_68_method_64_code (1 : Nat) (Option.some (Jvm.ClassFile.FieldType.array Jvm.ClassFile.FieldType.byte)), Jvm.Cond.code ({ cls := "java/lang/StringBuilder", name := "length", desc := "()I" } : Jvm.MethodName) jdk_67_method_93_code (1 : Nat) (Option.some Jvm.ClassFile.FieldType.int), Jvm.Cond.code ({ cls := "java/lang/AbstractStringBuilder", name := "length", desc := "()I" } : Jvm.MethodName) jdk_68_method_6_code (1 : Nat) (Option.some Jvm.ClassFile.FieldType.int), Jvm.Cond.code ({ cls := "java/lang/AbstractStringBuilder", name := "isLatin1", desc := "()Z" } : Jvm.MethodName) jdk_68_method_68_code (1 : Nat) (Option.some Jvm.ClassFile.FieldType.boolean), Jvm.Cond.code ({ cls := "java/util/Arrays", name := "copyOfRange", desc := "([BII)[B" } : Jvm.MethodName) jdk_65_method_132_code (3 : Nat) (Option.some (Jvm.ClassFile.FieldType.array Jvm.ClassFile.FieldType.byte)), Jvm.Cond.code ({ cls := "java/util/Arrays", name := "copyOfRangeByte", desc := "([BII)[B" } : Jvm.MethodName) jdk_65_method_133_code (5 : Nat) (Option.some (Jvm.ClassFile.FieldType.array Jvm.ClassFile.FieldType.byte)), Jvm.Cond.code ({ cls := "java/util/Arrays", name := "checkLength", desc := "(II)V" } : Jvm.MethodName) jdk_65_method_131_code (2 : Nat) (Option.none : Option Jvm.ClassFile.FieldType), Jvm.Cond.code ({ cls := "com/example/strikeboard/strikeboard/engine/UnusedToStringPinLaw", name := "strAt", desc := "(Ljava/lang/String;ILjava/lang/String;)Z" } : Jvm.MethodName) method_3_code (4 : Nat) (Option.some Jvm.ClassFile.FieldType.boolean), Jvm.Cond.code ({ cls := "java/lang/String", name := "charAt", desc := "(I)C" } : Jvm.MethodName) jdk_42_method_56_code (2 : Nat) (Option.some Jvm.ClassFile.FieldType.char), Jvm.Cond.code ({ cls := "java/lang/String", name := "isLatin1", desc := "()Z" } : Jvm.MethodName) jdk_42_method_154_code (1 : Nat) (Option.some Jvm.ClassFile.FieldType.boolean), Jvm.Cond.code ({ cls := "java/lang/StringLatin1", name := "charAt", desc := "([BI)C" } : Jvm.MethodName) jdk_43_method_2_code (2 : Nat) (Option.some Jvm.ClassFile.FieldType.char), Jvm.Cond.code ({ cls := "java/lang/String", name := "checkIndex", desc := "(II)V" } : Jvm.MethodName) jdk_42_method_155_code (2 : Nat) (Option.none : Option Jvm.ClassFile.FieldType), Jvm.Cond.code ({ cls := "jdk/internal/util/Preconditions", name := "checkIndex", desc := "(IILjava/util/function/BiFunction;)I" } : Jvm.MethodName) jdk_41_method_11_code (3 : Nat) (Option.some Jvm.ClassFile.FieldType.int), Jvm.Cond.code ({ cls := "java/lang/String", name := "valueOf", desc := "(C)Ljava/lang/String;" } : Jvm.MethodName) jdk_42_method_139_code (1 : Nat) (Option.some (Jvm.ClassFile.FieldType.object "java/lang/String")), Jvm.Cond.code ({ cls := "java/lang/StringLatin1", name := "canEncode", desc := "(C)Z" } : Jvm.MethodName) jdk_43_method_3_code (1 : Nat) (Option.some Jvm.ClassFile.FieldType.boolean), Jvm.Cond.code ({ cls := "java/lang/StringLatin1", name := "toBytes", desc := "(C)[B" } : Jvm.MethodName) jdk_43_method_46_code (1 : Nat) (Option.some (Jvm.ClassFile.FieldType.array Jvm.ClassFile.FieldType.byte)), Jvm.Cond.code ({ cls := "java/lang/String", name := "<init>", desc := "([BB)V" } : Jvm.MethodName) jdk_42_method_151_code (3 : Nat) (Option.none : Option Jvm.ClassFile.FieldType)]
set_option maxRecDepth 65536 in
theorem codes_eq : words1.filter isCode = codes1 := rfl
theorem w_codes : ∀ c ∈ words1.filter isCode, c.before args0 about1 = true := by
  rw [codes_eq]
  intro c hc
  simp only [codes1, List.mem_cons, List.not_mem_nil, or_false] at hc
  rcases hc with rfl | rfl | rfl | rfl | rfl | rfl | rfl | rfl | rfl | rfl | rfl | rfl | rfl | rfl | rfl | rfl | rfl | rfl | rfl | rfl | rfl | rfl | rfl | rfl | rfl | rfl | rfl | rfl | rfl | rfl | rfl | rfl | rfl | rfl | rfl | rfl | rfl | rfl | rfl | rfl | rfl | rfl | rfl | rfl | rfl | rfl | rfl
  · exact w_c0
  · exact w_c1
  · exact w_c2
  · exact w_c3
  · exact w_c4
  · exact w_c5
  · exact w_c6
  · exact w_c7
  · exact w_c8
  · exact w_c9
  · exact w_c10
  · exact w_c11
  · exact w_c12
  · exact w_c13
  · exact w_c14
  · exact w_c15
  · exact w_c16
  · exact w_c17
  · exact w_c18
  · exact w_c19
  · exact w_c20
  · exact w_c21
  · exact w_c22
  · exact w_c23
  · exact w_c24
  · exact w_c25
  · exact w_c26
  · exact w_c27
  · exact w_c28
  · exact w_c29
  · exact w_c30
  · exact w_c31
  · exact w_c32
  · exact w_c33
  · exact w_c34
  · exact w_c35
  · exact w_c36
  · exact w_c37
  · exact w_c38
  · exact w_c39
  · exact w_c40
  · exact w_c41
  · exact w_c42
  · exact w_c43
  · exact w_c44
  · exact w_c45
  · exact w_c46
set_option maxRecDepth 65536 in
theorem w_t1 : (words1.take 24).all (fun c => isCode c || c.before args0 about1) = true := by decide +kernel
set_option maxRecDepth 65536 in
theorem w_t2 : ((words1.drop 24).take 24).all (fun c => isCode c || c.before args0 about1) = true := by decide +kernel
set_option maxRecDepth 65536 in
theorem w_t3 : (((words1.drop 24).drop 24).take 24).all (fun c => isCode c || c.before args0 about1) = true := by decide +kernel
set_option maxRecDepth 65536 in
theorem w_t4 : ((((words1.drop 24).drop 24).drop 24).take 24).all (fun c => isCode c || c.before args0 about1) = true := by decide +kernel
set_option maxRecDepth 65536 in
theorem w_t5 : (((((words1.drop 24).drop 24).drop 24).drop 24).take 24).all (fun c => isCode c || c.before args0 about1) = true := by decide +kernel
set_option maxRecDepth 65536 in
theorem w_t6 : ((((((words1.drop 24).drop 24).drop 24).drop 24).drop 24).take 24).all (fun c => isCode c || c.before args0 about1) = true := by decide +kernel
set_option maxRecDepth 65536 in
theorem w_t7 : (((((((words1.drop 24).drop 24).drop 24).drop 24).drop 24).drop 24).take 24).all (fun c => isCode c || c.before args0 about1) = true := by decide +kernel
set_option maxRecDepth 65536 in
theorem w_t8 : ((((((((words1.drop 24).drop 24).drop 24).drop 24).drop 24).drop 24).drop 24).take 24).all (fun c => isCode c || c.before args0 about1) = true := by decide +kernel
set_option maxRecDepth 65536 in
theorem w_t9 : (((((((((words1.drop 24).drop 24).drop 24).drop 24).drop 24).drop 24).drop 24).drop 24).take 24).all (fun c => isCode c || c.before args0 about1) = true := by decide +kernel
set_option maxRecDepth 65536 in
theorem w_t10 : ((((((((((words1.drop 24).drop 24).drop 24).drop 24).drop 24).drop 24).drop 24).drop 24).drop 24).take 24).all (fun c => isCode c || c.before args0 about1) = true := by decide +kernel
set_option maxRecDepth 65536 in
theorem w_t11 : ((((((((((words1.drop 24).drop 24).drop 24).drop 24).drop 24).drop 24).drop 24).drop 24).drop 24).drop 24).all (fun c => isCode c || c.before args0 about1) = true := by decide +kernel
theorem w_tables : (allAtoms (Jvm.Cond.code x code maxLocals ret :: tables_1)).before args0 about1 = true := by
  rw [allAtoms_all]
  show words1.all (fun c => c.before args0 about1) = true
  refine all_split ?_ w_codes
  rw [← List.take_append_drop 24 words1, List.all_append, w_t1, ← List.take_append_drop 24 (words1.drop 24), List.all_append, w_t2, ← List.take_append_drop 24 ((words1.drop 24).drop 24), List.all_append, w_t3, ← List.take_append_drop 24 (((words1.drop 24).drop 24).drop 24), List.all_append, w_t4, ← List.take_append_drop 24 ((((words1.drop 24).drop 24).drop 24).drop 24), List.all_append, w_t5, ← List.take_append_drop 24 (((((words1.drop 24).drop 24).drop 24).drop 24).drop 24), List.all_append, w_t6, ← List.take_append_drop 24 ((((((words1.drop 24).drop 24).drop 24).drop 24).drop 24).drop 24), List.all_append, w_t7, ← List.take_append_drop 24 (((((((words1.drop 24).drop 24).drop 24).drop 24).drop 24).drop 24).drop 24), List.all_append, w_t8, ← List.take_append_drop 24 ((((((((words1.drop 24).drop 24).drop 24).drop 24).drop 24).drop 24).drop 24).drop 24), List.all_append, w_t9, ← List.take_append_drop 24 (((((((((words1.drop 24).drop 24).drop 24).drop 24).drop 24).drop 24).drop 24).drop 24).drop 24), List.all_append, w_t10, w_t11]
  rfl
set_option maxRecDepth 65536 in
theorem w_rest : rest_1_c.before args0 about1 = true := by decide +kernel
set_option maxRecDepth 65536 in
theorem w_case : (Jvm.Cond.and given_1 narrow_1).before args0 about1 = true := by decide +kernel
set_option maxRecDepth 65536 in
theorem w_consts : constsHeld consts_1 about1 := Jvm.Lit.constsHeldB_iff.mp (by decide +kernel)
theorem w_applies : (headSpec (Jvm.Cond.code x code maxLocals ret :: tables_1) room_1).applies x e0.platform about1 = true :=
  (Spec.applies_iff w_frames).mpr ⟨w_running, w_runnable, w_alone, w_named, w_hears, w_ripe, w_room, w_tables⟩
theorem atStart : AtStart classFile x code maxLocals ret World_1 tables_1 room_1 Calls_1 rest_1 Pre_1 launch0 p0 e0 about1 theMethod args0 below0 :=
  ⟨lists_1, trivial, launch0.admits_env _ _ _, launch0.least_env, fairChoices_fair.cas, fairChoices_fair.clock, w_frames, w_args, w_heap, w_applies, ⟨w_consts, trivial⟩, w_rest, w_case⟩
end start1
theorem witness_1 : WitnessClaimed_1 := ⟨start1.p0, start1.e0, start1.about1, start1.theMethod, start1.args0, start1.below0, start1.atStart⟩
end Jvm.Pilot.@@N@@
