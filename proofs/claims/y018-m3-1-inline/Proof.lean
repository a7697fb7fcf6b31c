import JvmDerived
import JvmDerived.Pilot.@@N@@Statement
import JvmDerived.Pilot.@@N@@Code
set_option linter.unusedVariables false
set_option linter.unusedSimpArgs false
/- laws to paste: Road.backV, Road.lenW, Road.chN, Road.codOf (cut by pick.py; bodies as the Statement names them) -/
namespace Jvm.Pilot.@@N@@
namespace StrChars
open Jvm Sem ClassFile Op Lib Jvm.Stand Jvm.Free.XT Jvm.Free.ALB Jvm.Free.JM Jvm.Free
open Jvm.Lib.Cold (StaticIs)
/-- a char array whose places are chars -/
def Ch (a : Addr) (A : Cell) (U : State) : Prop := Arr .char a A U ∧ Typed .char A
theorem Ch.mv {a : Addr} {A : Cell} {U U' : State} (h : Ch a A U) (hal : U.vm.Alike U'.vm) (hh : U'.heap = U.heap) : Ch a A U' := ⟨h.1.mv hal hh, h.2⟩
theorem Ch.keep {a : Addr} {A : Cell} {U U' : State} (h : Ch a A U) (hal : U.vm.Alike U'.vm) (hk : U'.heap[a]? = some A) : Ch a A U' := ⟨h.1.keep hal hk, h.2⟩
/-- what place i of a char[]'s cell holds -/
def cv (A : Cell) (i : Nat) : Int32 := match A.slots[i]? with | some (.int x) => x | _ => 0
theorem Ch.get {a : Addr} {A : Cell} {U : State} (h : Ch a A U) {i : Nat} (hi : i < A.slots.size) : A.slots[i]? = some (.int (cv A i)) := by
  have e := Array.getElem?_eq_getElem hi
  have f := h.2 i _ e
  unfold cv; rw [e]
  generalize A.slots[i] = v at f
  cases v <;> simp [fits] at f ⊢
/-- the byte that i2b leaves of a char -/
def lo8 (x : Int32) : Int32 := x.toInt8.toInt32
theorem fits_lo8 (y : Int32) : fits .byte (.int (lo8 y)) = true := by
  have h1 := y.toInt8.le_toInt
  have h2 := y.toInt8.toInt_lt
  simp only [lo8, fits, Bool.and_eq_true, decide_eq_true_eq, Int32.le_iff_toInt_le, Int8.toInt_toInt32, show (-128 : Int32).toInt = -128 from by decide, show (127 : Int32).toInt = 127 from by decide]
  omega
/-- A' is A but that each place j of lo .. hi - 1 holds f j -/
def Laid (A A' : Cell) (lo hi : Nat) (f : Nat → Value) : Prop := A'.cls = A.cls ∧ A'.vm = A.vm ∧ A'.slots.size = A.slots.size ∧ ∀ i, A'.slots[i]? = if lo ≤ i ∧ i < hi then some (f i) else A.slots[i]?
theorem Laid.zero (A : Cell) (lo : Nat) (f : Nat → Value) : Laid A A lo (lo + 0) f := ⟨rfl, rfl, rfl, fun i => by rw [if_neg (by omega)]⟩
theorem Laid.step {A Ak : Cell} {lo k : Nat} {f : Nat → Value} {v : Value} (h : Laid A Ak lo k f) (hlo : lo ≤ k) (hk : k < Ak.slots.size) (hv : v = f k) : Laid A (Ak.setSlot k v) lo (k + 1) f := by
  refine ⟨h.1, h.2.1, by simpa [Cell.setSlot] using h.2.2.1, fun i => ?_⟩
  by_cases e : k = i
  · subst e; rw [Cell.slots_setSlot_self v hk, if_pos (by omega), hv]
  · rw [Cell.slots_setSlot_ne v e, h.2.2.2 i]
    by_cases q : lo ≤ i ∧ i < k
    · rw [if_pos q, if_pos (by omega)]
    · rw [if_neg q, if_neg (by omega)]
def U16 : String := "java/lang/StringUTF16"
namespace Cmp5
def yN : MethodName := ⟨"java/lang/StringUTF16", "compress", "([CI[BII)I"⟩
abbrev yB : ByteArray := jdk_52_method_21_code
theorem d0 : decode yB 0 = .ok (.iconst 0, 1) := by decide +kernel
theorem d1 : decode yB 1 = .ok (.istore 5, 2) := by decide +kernel
theorem d3 : decode yB 3 = .ok (.iload 5, 2) := by decide +kernel
theorem d5 : decode yB 5 = .ok (.iload 4, 2) := by decide +kernel
theorem d7 : decode yB 7 = .ok (.if_icmp (.ge) 37, 3) := by decide +kernel
theorem d10 : decode yB 10 = .ok (.aload_n 0, 1) := by decide +kernel
theorem d11 : decode yB 11 = .ok (.iload_n 1, 1) := by decide +kernel
theorem d12 : decode yB 12 = .ok (.caload, 1) := by decide +kernel
theorem d13 : decode yB 13 = .ok (.istore 6, 2) := by decide +kernel
theorem d15 : decode yB 15 = .ok (.iload 6, 2) := by decide +kernel
theorem d17 : decode yB 17 = .ok (.sipush 255, 3) := by decide +kernel
theorem d20 : decode yB 20 = .ok (.if_icmp (.le) 6, 3) := by decide +kernel
theorem d26 : decode yB 26 = .ok (.aload_n 2, 1) := by decide +kernel
theorem d27 : decode yB 27 = .ok (.iload_n 3, 1) := by decide +kernel
theorem d28 : decode yB 28 = .ok (.iload 6, 2) := by decide +kernel
theorem d30 : decode yB 30 = .ok (.i2b, 1) := by decide +kernel
theorem d31 : decode yB 31 = .ok (.bastore, 1) := by decide +kernel
theorem d32 : decode yB 32 = .ok (.iinc 1 1, 3) := by decide +kernel
theorem d35 : decode yB 35 = .ok (.iinc 3 1, 3) := by decide +kernel
theorem d38 : decode yB 38 = .ok (.iinc 5 1, 3) := by decide +kernel
theorem d41 : decode yB 41 = .ok (.goto (-38), 3) := by decide +kernel
theorem d44 : decode yB 44 = .ok (.iload 4, 2) := by decide +kernel
theorem d46 : decode yB 46 = .ok (.ireturn, 1) := by decide +kernel
def site : List Cond := []
def tab : Cond := tabOf yN yB 7 (some .int) site
def P (b : Addr) (A : Cell) (d : Addr) (B : Cell) (o q len : Nat) (args : Array Value) (s : State) : Prop := args = #[.ref b, .int (Int32.ofNat o), .ref d, .int (Int32.ofNat q), .int (Int32.ofNat len)] ∧ Ch b A s ∧ Arr .byte d B s ∧ b ≠ d ∧ o + len ≤ A.slots.size ∧ q + len ≤ B.slots.size ∧ ∀ i, i < len → ¬ 255 < cv A (o + i)
def E (b : Addr) (A : Cell) (d : Addr) (B : Cell) (o q len : Nat) (r : Option Value) (s u : State) : Prop := r = some (.int (Int32.ofNat len)) ∧ ∃ B', Put d B' s u ∧ Laid B B' q (q + len) (fun j => Value.int (lo8 (cv A (o + (j - q)))))
/-- no char of the range above 255: len; the places written hold each char's low byte -/
theorem law (l : Launch) (b : Addr) (A : Cell) (d : Addr) (B : Cell) (o q len : Nat) : Law l yN 5 5 0 0 yB 7 (some .int) site (P b A d B o q len) (E b A d B o q len) (copyLocs d q len) 0 0 := by
  refine Law.of_walk (plainFor_of_name (by decide +kernel)) (by decide +kernel) (by decide +kernel) (by decide) (fun _ _ h => by rw [h.1]; rfl) (fun _ U U' hal hh h => ⟨h.1, h.2.1.mv hal hh, h.2.2.1.mv hal hh, h.2.2.2⟩) (fun r U U' V V' h1 hal h2 h => ⟨h.1, h.2.elim fun B' q => ⟨B', q.1.mv h1 h2, q.2⟩⟩) ?_
  intro p e s m args below meth c s₁ X0 hexec hbytes hml hret hlk hnm hown hh0 W hP
  obtain ⟨rfl, hA, hB, hne, l1, l2, hp⟩ := hP
  have c1 : Steps p.tables e below (s₁.setTop (entryFrame m #[.ref b, .int (Int32.ofNat o), .ref d, .int (Int32.ofNat q), .int (Int32.ofNat len)] 7)) (s₁.setTop (mkF m 0 #[.val (.ref b), .val (.int (Int32.ofNat o)), .val (.ref d), .val (.int (Int32.ofNat q)), .val (.int (Int32.ofNat len)), .unset, .unset] [])) := entry rfl
  have hA0 := hA.1.mv X0.warmed.alike hh0
  have hB0 := hB.mv X0.warmed.alike hh0
  have a31 := hA.1.2.2.2
  have c2 : Steps p.tables e below (s₁.setTop (entryFrame m #[.ref b, .int (Int32.ofNat o), .ref d, .int (Int32.ofNat q), .int (Int32.ofNat len)] 7)) (s₁.setTop (mkF m 3 #[.val (.ref b), .val (.int (Int32.ofNat o)), .val (.ref d), .val (.int (Int32.ofNat q)), .val (.int (Int32.ofNat len)), .val (.int 0), .unset] [])) := c1.trans (by
    refine iconstV X0.here hexec rfl 0 (hb hbytes d0) (by decide) ?_
    refine XS.istore X0.here hexec rfl (hb hbytes d1) rfl rfl ?_
    exact Steps.refl _)
  have loop : ∀ (r i : Nat), i + r = len → ∀ (z : Slot), (z = .unset ∨ ∃ w, z = .val w ∧ w.category = 1) → ∀ (Tl : State) (Bk : Cell), Stand p l e { frames := 0, locals := 0, cells := 0, slots := 0 } s m #[.ref b, .int (Int32.ofNat o), .ref d, .int (Int32.ofNat q), .int (Int32.ofNat len)] below meth c Tl ([] ++ copyLocs d q i) 0 0 → Put d Bk s₁ Tl → Laid B Bk q (q + i) (fun j => Value.int (lo8 (cv A (o + (j - q))))) →
      Steps p.tables e below (s₁.setTop (entryFrame m #[.ref b, .int (Int32.ofNat o), .ref d, .int (Int32.ofNat q), .int (Int32.ofNat len)] 7)) (Tl.setTop (mkF m 3 #[.val (.ref b), .val (.int (Int32.ofNat (o + i))), .val (.ref d), .val (.int (Int32.ofNat (q + i))), .val (.int (Int32.ofNat len)), .val (.int (Int32.ofNat i)), z] [])) → ∃ (T' : State) (B' : Cell) (z' : Slot), Stand p l e { frames := 0, locals := 0, cells := 0, slots := 0 } s m #[.ref b, .int (Int32.ofNat o), .ref d, .int (Int32.ofNat q), .int (Int32.ofNat len)] below meth c T' ([] ++ copyLocs d q len) 0 0 ∧ Put d B' s₁ T' ∧ Laid B B' q (q + len) (fun j => Value.int (lo8 (cv A (o + (j - q))))) ∧
      Steps p.tables e below (s₁.setTop (entryFrame m #[.ref b, .int (Int32.ofNat o), .ref d, .int (Int32.ofNat q), .int (Int32.ofNat len)] 7)) (T'.setTop (mkF m 3 #[.val (.ref b), .val (.int (Int32.ofNat (o + len))), .val (.ref d), .val (.int (Int32.ofNat (q + len))), .val (.int (Int32.ofNat len)), .val (.int (Int32.ofNat len)), z'] [])) := by
    intro r
    induction r with
    | zero =>
      intro i hi z hz Tl Bk Xl pl fl cl
      have hil : i = len := by omega
      rw [hil] at Xl fl cl
      exact ⟨Tl, Bk, z, Xl, pl, fl, cl⟩
    | succ r ih =>
      intro i hi z hz Tl Bk Xl pl fl cl
      have all := X0.warmed.alike.symm.trans Xl.warmed.alike
      have hAl := hA0.keep all (pl.other hne hA0.1)
      have hBk := hB0.like all pl.1 fl.1 fl.2.1 fl.2.2.1
      have hlt : q + i < Bk.slots.size := by rw [fl.2.2.1]; omega
      have c3 : Steps p.tables e below (s₁.setTop (entryFrame m #[.ref b, .int (Int32.ofNat o), .ref d, .int (Int32.ofNat q), .int (Int32.ofNat len)] 7)) (Tl.setTop (mkF m 12 #[.val (.ref b), .val (.int (Int32.ofNat (o + i))), .val (.ref d), .val (.int (Int32.ofNat (q + i))), .val (.int (Int32.ofNat len)), .val (.int (Int32.ofNat i)), z] [.int (Int32.ofNat (o + i)), .ref b])) := cl.trans (by
        refine XS.iload Xl.here hexec rfl (hb hbytes d3) rfl ?_
        refine XS.iload Xl.here hexec rfl (hb hbytes d5) rfl ?_
        refine XS.icmpNo Xl.here hexec rfl (hb hbytes d7) rfl (ii_ge_f (lt32 (by omega) (by omega))) ?_
        refine XS.aloadN Xl.here hexec rfl (hb hbytes d10) rfl rfl ?_
        refine XS.iloadN Xl.here hexec rfl (hb hbytes d11) rfl ?_
        exact Steps.refl _)
      have c4 : Steps p.tables e below (s₁.setTop (entryFrame m #[.ref b, .int (Int32.ofNat o), .ref d, .int (Int32.ofNat q), .int (Int32.ofNat len)] 7)) (Tl.setTop (mkF m 13 #[.val (.ref b), .val (.int (Int32.ofNat (o + i))), .val (.ref d), .val (.int (Int32.ofNat (q + i))), .val (.int (Int32.ofNat len)), .val (.int (Int32.ofNat i)), z] [.int (cv A (o + i))])) := c3.trans (by
        refine Xl.aget hexec hAl rfl (hA.get (i := o + i) (by omega)) rfl rfl (hb hbytes d12) ?_
        exact Steps.refl _)
      have c5 : Steps p.tables e below (s₁.setTop (entryFrame m #[.ref b, .int (Int32.ofNat o), .ref d, .int (Int32.ofNat q), .int (Int32.ofNat len)] 7)) (Tl.setTop (mkF m 15 #[.val (.ref b), .val (.int (Int32.ofNat (o + i))), .val (.ref d), .val (.int (Int32.ofNat (q + i))), .val (.int (Int32.ofNat len)), .val (.int (Int32.ofNat i)), .val (.int (cv A (o + i)))] [])) := c4.trans (by
        refine XS.istoreS Xl.here hexec rfl (hb hbytes d13) rfl rfl hz ?_
        exact Steps.refl _)
      have c6 : Steps p.tables e below (s₁.setTop (entryFrame m #[.ref b, .int (Int32.ofNat o), .ref d, .int (Int32.ofNat q), .int (Int32.ofNat len)] 7)) (Tl.setTop (mkF m 31 #[.val (.ref b), .val (.int (Int32.ofNat (o + i))), .val (.ref d), .val (.int (Int32.ofNat (q + i))), .val (.int (Int32.ofNat len)), .val (.int (Int32.ofNat i)), .val (.int (cv A (o + i)))] [.int (lo8 (cv A (o + i))), .int (Int32.ofNat (q + i)), .ref d])) := c5.trans (by
        refine XS.iload Xl.here hexec rfl (hb hbytes d15) rfl ?_
        refine sipushV Xl.here hexec rfl 255 (hb hbytes d17) (by decide) ?_
        refine XS.icmpYes Xl.here hexec rfl (pc0 := 20) rfl (hb hbytes d20) rfl (ii_le_t (hp i (by omega))) (by decide) rfl ?_
        refine XS.aloadN Xl.here hexec rfl (hb hbytes d26) rfl rfl ?_
        refine XS.iloadN Xl.here hexec rfl (hb hbytes d27) rfl ?_
        refine XS.iload Xl.here hexec rfl (hb hbytes d28) rfl ?_
        refine i2b Xl.here hexec rfl (hb hbytes d30) rfl ?_
        exact Steps.refl _)
      obtain ⟨T7, X7, p7, st7⟩ := Xl.aput hexec hBk rfl hlt rfl (fits_lo8 (cv A (o + i))) (g := (mkF m 31 #[.val (.ref b), .val (.int (Int32.ofNat (o + i))), .val (.ref d), .val (.int (Int32.ofNat (q + i))), .val (.int (Int32.ofNat len)), .val (.int (Int32.ofNat i)), .val (.int (cv A (o + i)))] [.int (lo8 (cv A (o + i))), .int (Int32.ofNat (q + i)), .ref d])) rfl (rest := []) rfl (hb hbytes d31)
      have c8 : Steps p.tables e below (s₁.setTop (entryFrame m #[.ref b, .int (Int32.ofNat o), .ref d, .int (Int32.ofNat q), .int (Int32.ofNat len)] 7)) (T7.setTop (mkF m 32 #[.val (.ref b), .val (.int (Int32.ofNat (o + i))), .val (.ref d), .val (.int (Int32.ofNat (q + i))), .val (.int (Int32.ofNat len)), .val (.int (Int32.ofNat i)), .val (.int (cv A (o + i)))] [])) := c6.trans (st7 _ (Steps.refl _))
      have c9 : Steps p.tables e below (s₁.setTop (entryFrame m #[.ref b, .int (Int32.ofNat o), .ref d, .int (Int32.ofNat q), .int (Int32.ofNat len)] 7)) (T7.setTop (mkF m 3 #[.val (.ref b), .val (.int (Int32.ofNat (o + i) + 1)), .val (.ref d), .val (.int (Int32.ofNat (q + i) + 1)), .val (.int (Int32.ofNat len)), .val (.int (Int32.ofNat i + 1)), .val (.int (cv A (o + i)))] [])) := c8.trans (by
        refine iincV X7.here hexec rfl 1 (hb hbytes d32) (by decide) rfl rfl ?_
        refine iincV X7.here hexec rfl 1 (hb hbytes d35) (by decide) rfl rfl ?_
        refine iincV X7.here hexec rfl 1 (hb hbytes d38) (by decide) rfl rfl ?_
        refine XS.goto X7.here hexec rfl (pc0 := 41) rfl (hb hbytes d41) (by decide) rfl ?_
        exact Steps.refl _)
      have c10 : Steps p.tables e below (s₁.setTop (entryFrame m #[.ref b, .int (Int32.ofNat o), .ref d, .int (Int32.ofNat q), .int (Int32.ofNat len)] 7)) (T7.setTop (mkF m 3 #[.val (.ref b), .val (.int (Int32.ofNat (o + (i + 1)))), .val (.ref d), .val (.int (Int32.ofNat (q + (i + 1)))), .val (.int (Int32.ofNat len)), .val (.int (Int32.ofNat (i + 1))), .val (.int (cv A (o + i)))] [])) := by
        have := c9
        rw [succ32, succ32, succ32] at this
        exact this
      exact ih (i + 1) (by omega) _ (Or.inr ⟨_, rfl, rfl⟩) T7 _ (by rw [copyLocs_step, ← List.append_assoc]; exact X7) (pl.trans p7) (fl.step (by omega) hlt (by simp)) c10
  obtain ⟨T9, B9, z9, X9, p9, f9, g9⟩ := loop len 0 (by omega) .unset (Or.inl rfl) s₁ B (by simpa [copyLocs] using X0) ⟨hB0.1, fun _ _ => rfl, rfl⟩ (Laid.zero _ _ _) c2
  have c11 : Steps p.tables e below (s₁.setTop (entryFrame m #[.ref b, .int (Int32.ofNat o), .ref d, .int (Int32.ofNat q), .int (Int32.ofNat len)] 7)) (T9.setTop (mkF m 46 #[.val (.ref b), .val (.int (Int32.ofNat (o + len))), .val (.ref d), .val (.int (Int32.ofNat (q + len))), .val (.int (Int32.ofNat len)), .val (.int (Int32.ofNat len)), z9] [.int (Int32.ofNat len)])) := g9.trans (by
    refine XS.iload X9.here hexec rfl (hb hbytes d3) rfl ?_
    refine XS.iload X9.here hexec rfl (hb hbytes d5) rfl ?_
    refine XS.icmpYes X9.here hexec rfl (pc0 := 7) rfl (hb hbytes d7) rfl (ii_ge_t (nlt32 (by omega) (Nat.le_refl _))) (by decide) rfl ?_
    refine XS.iload X9.here hexec rfl (hb hbytes d44) rfl ?_
    exact Steps.refl _)
  exact ⟨T9, some (.int (Int32.ofNat len)), _, _, _, X9, by simp, rfl, rfl, (fun h => by cases h), ⟨rfl, B9, p9.from hh0, f9⟩, fun fs hl => c11.trans (X9.ireturnOut hexec hret rfl (Or.inl rfl) (hb hbytes d46) hl)⟩
end Cmp5
namespace Cmp3
def yN : MethodName := ⟨"java/lang/StringUTF16", "compress", "([CII)[B"⟩
abbrev yB : ByteArray := jdk_52_method_16_code
theorem d0 : decode yB 0 = .ok (.iload_n 2, 1) := by decide +kernel
theorem d1 : decode yB 1 = .ok (.newarray .byte, 2) := by decide +kernel
theorem d3 : decode yB 3 = .ok (.astore_n 3, 1) := by decide +kernel
theorem d4 : decode yB 4 = .ok (.aload_n 0, 1) := by decide +kernel
theorem d5 : decode yB 5 = .ok (.iload_n 1, 1) := by decide +kernel
theorem d6 : decode yB 6 = .ok (.aload_n 3, 1) := by decide +kernel
theorem d7 : decode yB 7 = .ok (.iconst 0, 1) := by decide +kernel
theorem d8 : decode yB 8 = .ok (.iload_n 2, 1) := by decide +kernel
theorem d9 : decode yB 9 = .ok (.invokestatic 115, 3) := by decide +kernel
theorem d12 : decode yB 12 = .ok (.istore 4, 2) := by decide +kernel
theorem d14 : decode yB 14 = .ok (.iload 4, 2) := by decide +kernel
theorem d16 : decode yB 16 = .ok (.iload_n 2, 1) := by decide +kernel
theorem d17 : decode yB 17 = .ok (.if_icmp (.eq) 40, 3) := by decide +kernel
theorem d57 : decode yB 57 = .ok (.aload_n 3, 1) := by decide +kernel
theorem d58 : decode yB 58 = .ok (.areturn, 1) := by decide +kernel
def site : List Cond := [.arrayClass .byte, Cmp5.tab] ++ staticW U16 115 Cmp5.yN
def tab : Cond := tabOf yN yB 6 (some (.array .byte)) site
def P (b : Addr) (A : Cell) (o len : Nat) (args : Array Value) (s : State) : Prop := args = #[.ref b, .int (Int32.ofNat o), .int (Int32.ofNat len)] ∧ Ch b A s ∧ o + len ≤ A.slots.size ∧ len ≤ 536870912 ∧ ∀ i, i < len → ¬ 255 < cv A (o + i)
def E (b : Addr) (A : Cell) (o len : Nat) (r : Option Value) (s u : State) : Prop := NewArr .byte "[B" len (fun j => .int (lo8 (cv A (o + j)))) r s u ∧ u.heap.size = s.heap.size + 1
/-- no char of the range above 255: a new byte[] of their low bytes -/
theorem law (l : Launch) (b : Addr) (A : Cell) (o len : Nat) : Law l yN 3 3 1 18 yB 6 (some (.array .byte)) site (P b A o len) (E b A o len) [] 1 len := by
  refine Law.of_walk (plainFor_of_name (by decide +kernel)) (by decide +kernel) (by decide +kernel) (by decide) (fun _ _ h => by rw [h.1]; rfl) (fun _ U U' hal hh h => ⟨h.1, h.2.1.mv hal hh, h.2.2⟩) (fun r U U' V V' h1 hal h2 h => ⟨NewArr.mv r U U' V V' h1 hal h2 h.1, by rw [h1, h2]; exact h.2⟩) ?_
  intro p e s m args below meth c s₁ X0 hexec hbytes hml hret hlk hnm hown hh0 W hP
  obtain ⟨rfl, hA, l1, l2, hp⟩ := hP
  have a31 := hA.1.2.2.2
  have c1 : Steps p.tables e below (s₁.setTop (entryFrame m #[.ref b, .int (Int32.ofNat o), .int (Int32.ofNat len)] 6)) (s₁.setTop (mkF m 0 #[.val (.ref b), .val (.int (Int32.ofNat o)), .val (.int (Int32.ofNat len)), .unset, .unset, .unset] [])) := entry rfl
  have c2 : Steps p.tables e below (s₁.setTop (entryFrame m #[.ref b, .int (Int32.ofNat o), .int (Int32.ofNat len)] 6)) (s₁.setTop (mkF m 1 #[.val (.ref b), .val (.int (Int32.ofNat o)), .val (.int (Int32.ofNat len)), .unset, .unset, .unset] [.int (Int32.ofNat len)])) := c1.trans (by
    refine XS.iloadN X0.here hexec rfl (hb hbytes d0) rfl ?_
    exact Steps.refl _)
  obtain ⟨T3, B3, X3, ba3, bs3, bv3, bh3, bf3, st3⟩ := X0.anew hexec (atype := .byte) (wk W (.arrayClass .byte)) rfl (by show len * 1 ≤ _; omega) (by omega) (g := (mkF m 1 #[.val (.ref b), .val (.int (Int32.ofNat o)), .val (.int (Int32.ofNat len)), .unset, .unset, .unset] [.int (Int32.ofNat len)])) rfl (hb hbytes d1) (rest := []) rfl (Nat.le_refl _) (by show 0 + len ≤ len; omega)
  rw [hh0] at ba3 st3
  have kp3 : XT.Kept s T3 := (XT.Kept.of_eq hh0).push bh3
  have hA3 := hA.keep X3.warmed.alike (kp3 _ _ hA.1.1)
  have hne : b ≠ s.heap.size := hA.1.ne
  have c4 : Steps p.tables e below (s₁.setTop (entryFrame m #[.ref b, .int (Int32.ofNat o), .int (Int32.ofNat len)] 6)) (T3.setTop (mkF m 3 #[.val (.ref b), .val (.int (Int32.ofNat o)), .val (.int (Int32.ofNat len)), .unset, .unset, .unset] [.ref s.heap.size])) := c2.trans (st3 _ (Steps.refl _))
  have c5 : Steps p.tables e below (s₁.setTop (entryFrame m #[.ref b, .int (Int32.ofNat o), .int (Int32.ofNat len)] 6)) (T3.setTop (mkF m 9 #[.val (.ref b), .val (.int (Int32.ofNat o)), .val (.int (Int32.ofNat len)), .val (.ref s.heap.size), .unset, .unset] [.int (Int32.ofNat len), .int 0, .ref s.heap.size, .int (Int32.ofNat o), .ref b])) := c4.trans (by
    refine XS.astoreN X3.here hexec rfl (hb hbytes d3) rfl rfl rfl ?_
    refine XS.aloadN X3.here hexec rfl (hb hbytes d4) rfl rfl ?_
    refine XS.iloadN X3.here hexec rfl (hb hbytes d5) rfl ?_
    refine XS.aloadN X3.here hexec rfl (hb hbytes d6) rfl rfl ?_
    refine iconstV X3.here hexec rfl 0 (hb hbytes d7) (by decide) ?_
    refine XS.iloadN X3.here hexec rfl (hb hbytes d8) rfl ?_
    exact Steps.refl _)
  obtain ⟨v6, T6, X6, E6, g6⟩ := X3.callS hexec (Cmp5.law l b A s.heap.size B3 o 0 len) hown (wks W (staticW U16 115 Cmp5.yN)) (wk W Cmp5.tab) (W := 0) (Nat.le_of_ble_eq_true rfl) (Nat.le_of_ble_eq_true rfl) (Nat.le_refl _) (by show 0 + len + 0 ≤ len; omega) (g := (mkF m 9 #[.val (.ref b), .val (.int (Int32.ofNat o)), .val (.int (Int32.ofNat len)), .val (.ref s.heap.size), .unset, .unset] [.int (Int32.ofNat len), .int (Int32.ofNat 0), .ref s.heap.size, .int (Int32.ofNat o), .ref b])) rfl (by rw [hml]; rfl) c5 (argsL := [.ref b, .int (Int32.ofNat o), .ref s.heap.size, .int (Int32.ofNat 0), .int (Int32.ofNat len)]) (rest := []) rfl rfl (by show 2 * 0 + 0 ≤ _; decide) (hb hbytes d9) (⟨rfl, hA3, ba3, hne, l1, by rw [bs3]; simp, hp⟩)
  obtain ⟨rfl, B6, p6, f6⟩ := E6
  have c7 : Steps p.tables e below (s₁.setTop (entryFrame m #[.ref b, .int (Int32.ofNat o), .int (Int32.ofNat len)] 6)) (T6.setTop (mkF m 12 #[.val (.ref b), .val (.int (Int32.ofNat o)), .val (.int (Int32.ofNat len)), .val (.ref s.heap.size), .unset, .unset] [.int (Int32.ofNat len)])) := g6
  have c8 : Steps p.tables e below (s₁.setTop (entryFrame m #[.ref b, .int (Int32.ofNat o), .int (Int32.ofNat len)] 6)) (T6.setTop (mkF m 58 #[.val (.ref b), .val (.int (Int32.ofNat o)), .val (.int (Int32.ofNat len)), .val (.ref s.heap.size), .val (.int (Int32.ofNat len)), .unset] [.ref s.heap.size])) := c7.trans (by
    refine XS.istore X6.here hexec rfl (hb hbytes d12) rfl rfl ?_
    refine XS.iload X6.here hexec rfl (hb hbytes d14) rfl ?_
    refine XS.iloadN X6.here hexec rfl (hb hbytes d16) rfl ?_
    refine XS.icmpYes X6.here hexec rfl (pc0 := 17) rfl (hb hbytes d17) rfl (ii_eq_t rfl) (by decide) rfl ?_
    refine XS.aloadN X6.here hexec rfl (hb hbytes d57) rfl rfl ?_
    exact Steps.refl _)
  have X8 := X6.wide (L' := []) (cells' := 1) (slots' := len) (fun x hx hlt => by
    simp only [List.nil_append, copyLocs, List.mem_map, List.mem_range] at hx
    obtain ⟨i, -, rfl⟩ := hx
    exact absurd hlt (Nat.lt_irrefl _)) (Nat.le_refl _) (by omega)
  exact ⟨T6, some (.ref s.heap.size), _, _, _, X8, rfl, rfl, rfl, (fun h => by cases h), ⟨⟨rfl, B6, ba3.like (X3.warmed.alike.symm.trans X6.warmed.alike) p6.1 f6.1 f6.2.1 f6.2.2.1, f6.2.1.trans bv3, by rw [X6.warmed.alike.findClass, f6.1]; exact bf3, by rw [f6.2.2.1, bs3]; simp, fun j hj => by rw [f6.2.2.2 j, if_pos (by omega)]; rfl, kp3.put p6 (Nat.le_refl _)⟩, by rw [p6.2.2, bh3, hh0]; simp⟩, fun fs hl => c8.trans (X8.areturnOut hexec rfl hret rfl (hb hbytes d58) hl)⟩
end Cmp3
namespace CodL
def yN : MethodName := ⟨"java/lang/StringUTF16", "coderFromArrayLen", "([BI)B"⟩
abbrev yB : ByteArray := jdk_52_method_15_code
theorem d0 : decode yB 0 = .ok (.iload_n 1, 1) := by decide +kernel
theorem d1 : decode yB 1 = .ok (.aload_n 0, 1) := by decide +kernel
theorem d2 : decode yB 2 = .ok (.arraylength, 1) := by decide +kernel
theorem d3 : decode yB 3 = .ok (.isub, 1) := by decide +kernel
theorem d4 : decode yB 4 = .ok (.bipush 31, 2) := by decide +kernel
theorem d6 : decode yB 6 = .ok (.iushr, 1) := by decide +kernel
theorem d7 : decode yB 7 = .ok (.i2b, 1) := by decide +kernel
theorem d8 : decode yB 8 = .ok (.ireturn, 1) := by decide +kernel
def site : List Cond := []
def tab : Cond := tabOf yN yB 2 (some .byte) site
def P (d : Addr) (B : Cell) (args : Array Value) (s : State) : Prop := args = #[.ref d, .int (Int32.ofNat B.slots.size)] ∧ Arr .byte d B s
def E (r : Option Value) (s u : State) : Prop := XT.PureE (some (.int 0)) r s u
/-- an array as long as the number of chars: LATIN1 -/
theorem law (l : Launch) (d : Addr) (B : Cell) : Law l yN 2 2 0 0 yB 2 (some .byte) site (P d B) E [] 0 0 := by
  refine Law.of_walk (plainFor_of_name (by decide +kernel)) (by decide +kernel) (by decide +kernel) (by decide) (fun _ _ h => by rw [h.1]; rfl) (fun _ U U' hal hh h => ⟨h.1, h.2.mv hal hh⟩) (fun r U U' V V' h1 hal h2 h => XT.PureE.mv r U U' V V' h1 hal h2 h) ?_
  intro p e s m args below meth c s₁ X0 hexec hbytes hml hret hlk hnm hown hh0 W hP
  obtain ⟨rfl, hB⟩ := hP
  have hB0 := hB.mv X0.warmed.alike hh0
  have c1 : Steps p.tables e below (s₁.setTop (entryFrame m #[.ref d, .int (Int32.ofNat B.slots.size)] 2)) (s₁.setTop (mkF m 0 #[.val (.ref d), .val (.int (Int32.ofNat B.slots.size))] [])) := entry rfl
  have c2 : Steps p.tables e below (s₁.setTop (entryFrame m #[.ref d, .int (Int32.ofNat B.slots.size)] 2)) (s₁.setTop (mkF m 2 #[.val (.ref d), .val (.int (Int32.ofNat B.slots.size))] [.ref d, .int (Int32.ofNat B.slots.size)])) := c1.trans (by
    refine XS.iloadN X0.here hexec rfl (hb hbytes d0) rfl ?_
    refine XS.aloadN X0.here hexec rfl (hb hbytes d1) rfl rfl ?_
    exact Steps.refl _)
  have c3 : Steps p.tables e below (s₁.setTop (entryFrame m #[.ref d, .int (Int32.ofNat B.slots.size)] 2)) (s₁.setTop (mkF m 8 #[.val (.ref d), .val (.int (Int32.ofNat B.slots.size))] [.int (lo8 (ushr (Int32.ofNat B.slots.size - Int32.ofNat B.slots.size) 31))])) := c2.trans (by
    refine X0.alen hexec hB0 rfl rfl (hb hbytes d2) ?_
    refine XS.isub X0.here hexec rfl (hb hbytes d3) rfl ?_
    refine bipushV X0.here hexec rfl 31 (hb hbytes d4) (by decide) ?_
    refine iushr X0.here hexec rfl (hb hbytes d6) rfl ?_
    refine i2b X0.here hexec rfl (hb hbytes d7) rfl ?_
    exact Steps.refl _)
  have e0 : lo8 (ushr (Int32.ofNat B.slots.size - Int32.ofNat B.slots.size) 31) = 0 := by rw [Int32.sub_self]; decide
  rw [e0] at c3
  exact ⟨s₁, some (.int 0), _, _, _, X0, rfl, rfl, rfl, (fun h => by cases h), ⟨rfl, hh0⟩, fun fs hl => c3.trans (X0.ireturnOut hexec hret rfl (Or.inr (Or.inr (Or.inl rfl))) (hb hbytes d8) hl)⟩
end CodL
/-- the String at a is Latin-1 over a new byte[] (the heap's one new cell): the low bytes of the len chars of A from o on; every cell but a is kept -/
def Got (a : Addr) (D : Cell) (fV fC : Field) (A : Cell) (o len : Nat) (r : Option Value) (s u : State) : Prop := r = none ∧ ∃ D' V : Cell, Blank "java/lang/String" a D' u ∧ Same D D' [fV.slot, fC.slot] ∧ D'.slots[fV.slot]? = some (.ref s.heap.size) ∧ D'.slots[fC.slot]? = some (.int 0) ∧ Arr .byte s.heap.size V u ∧ V.vm = .none ∧ u.vm.findClass "[B" = some V.cls ∧ V.slots.size = len ∧ (∀ j, j < len → V.slots[j]? = some (.int (lo8 (cv A (o + j))))) ∧ (∀ (y : Addr) (c : Cell), y ≠ a → s.heap[y]? = some c → u.heap[y]? = some c) ∧ u.heap.size = s.heap.size + 1
theorem Got.mv {a : Addr} {D A : Cell} {fV fC : Field} {o len : Nat} : ∀ r (U U' V V' : State), U'.heap = U.heap → V.vm.Alike V'.vm → V'.heap = V.heap → Got a D fV fC A o len r U V → Got a D fV fC A o len r U' V' :=
  fun r U U' V V' h1 hal h2 ⟨e0, D', X, a1, a2, a3, a4, a5, a6, a7, a8, a9, a10, a11⟩ => ⟨e0, D', X, a1.mv hal h2, a2, by rw [h1]; exact a3, a4, by rw [h1]; exact a5.mv hal h2, a6, by rw [hal.findClass]; exact a7, a8, a9, by rw [h1, h2]; exact a10, by rw [h1, h2]; exact a11⟩
namespace New4
def yN : MethodName := ⟨"java/lang/String", "<init>", "([CIILjava/lang/Void;)V"⟩
abbrev yB : ByteArray := jdk_42_method_149_code
theorem d0 : decode yB 0 = .ok (.aload_n 0, 1) := by decide +kernel
theorem d1 : decode yB 1 = .ok (.invokespecial 1, 3) := by decide +kernel
theorem d4 : decode yB 4 = .ok (.iload_n 3, 1) := by decide +kernel
theorem d5 : decode yB 5 = .ok (.ifCond (.ne) 22, 3) := by decide +kernel
theorem d27 : decode yB 27 = .ok (.getstatic 38, 3) := by decide +kernel
theorem d30 : decode yB 30 = .ok (.ifCond (.eq) 28, 3) := by decide +kernel
theorem d33 : decode yB 33 = .ok (.aload_n 1, 1) := by decide +kernel
theorem d34 : decode yB 34 = .ok (.iload_n 2, 1) := by decide +kernel
theorem d35 : decode yB 35 = .ok (.iload_n 3, 1) := by decide +kernel
theorem d36 : decode yB 36 = .ok (.invokestatic 177, 3) := by decide +kernel
theorem d39 : decode yB 39 = .ok (.astore 5, 2) := by decide +kernel
theorem d41 : decode yB 41 = .ok (.aload_n 0, 1) := by decide +kernel
theorem d42 : decode yB 42 = .ok (.aload 5, 2) := by decide +kernel
theorem d44 : decode yB 44 = .ok (.iload_n 3, 1) := by decide +kernel
theorem d45 : decode yB 45 = .ok (.invokestatic 47, 3) := by decide +kernel
theorem d48 : decode yB 48 = .ok (.putfield 15, 3) := by decide +kernel
theorem d51 : decode yB 51 = .ok (.aload_n 0, 1) := by decide +kernel
theorem d52 : decode yB 52 = .ok (.aload 5, 2) := by decide +kernel
theorem d54 : decode yB 54 = .ok (.putfield 9, 3) := by decide +kernel
theorem d57 : decode yB 57 = .ok (.return_, 1) := by decide +kernel
def site : List Cond := [.fieldLink "java/lang/String" 38 "java/lang/String" "COMPACT_STRINGS" "Z", Cmp3.tab, CodL.tab, .laysFinal "java/lang/String" "java/lang/String" "value" "[B", .fieldLink "java/lang/String" 9 "java/lang/String" "value" "[B", .laysFinal "java/lang/String" "java/lang/String" "coder" "B", .fieldLink "java/lang/String" 15 "java/lang/String" "coder" "B"] ++ objW "java/lang/String" 1 ++ staticW "java/lang/String" 177 Cmp3.yN ++ staticW "java/lang/String" 47 CodL.yN
def tab : Cond := tabOf yN yB 6 none site
def P (a : Addr) (D : Cell) (fV fC : Field) (b : Addr) (A : Cell) (z : Int32) (o len : Nat) (args : Array Value) (s : State) : Prop := args = #[.ref a, .ref b, .int (Int32.ofNat o), .int (Int32.ofNat len), .null] ∧ Blank "java/lang/String" a D s ∧ Found "java/lang/String" "value" "[B" fV s ∧ Found "java/lang/String" "coder" "B" fC s ∧ Ch b A s ∧ StaticIs s "java/lang/String" "COMPACT_STRINGS" "Z" (.int z) ∧ ¬ z = 0 ∧ 0 < len ∧ o + len ≤ A.slots.size ∧ len ≤ 536870912 ∧ ∀ i, i < len → ¬ 255 < cv A (o + i)
def E (a : Addr) (D : Cell) (fV fC : Field) (A : Cell) (o len : Nat) (r : Option Value) (s u : State) : Prop := Got a D fV fC A o len r s u
/-- len > 0, no char of the range above 255: a Latin-1 String of their low bytes -/
theorem law (l : Launch) (a : Addr) (D : Cell) (fV fC : Field) (b : Addr) (A : Cell) (z : Int32) (o len : Nat) : Law l yN 5 4 2 35 yB 6 none site (P a D fV fC b A z o len) (E a D fV fC A o len) [⟨a, fC.slot⟩, ⟨a, fV.slot⟩] 1 len := by
  refine Law.of_walk (plainFor_of_name (by decide +kernel)) (by decide +kernel) (by decide +kernel) (by decide) (fun _ _ h => by rw [h.1]; rfl) (fun _ U U' hal hh h => ⟨h.1, h.2.1.mv hal hh, h.2.2.1.al hal, h.2.2.2.1.al hal, h.2.2.2.2.1.mv hal hh, h.2.2.2.2.2.1.there hal hh, h.2.2.2.2.2.2⟩) (fun r U U' V V' h1 hal h2 h => Got.mv r U U' V V' h1 hal h2 h) ?_
  intro p e s m args below meth c s₁ X0 hexec hbytes hml hret hlk hnm hown hh0 W hP
  obtain ⟨rfl, hB, f1, f2, hA, s1, hz, l0, l1, l2, hp⟩ := hP
  have a31 := hA.1.2.2.2
  have c1 : Steps p.tables e below (s₁.setTop (entryFrame m #[.ref a, .ref b, .int (Int32.ofNat o), .int (Int32.ofNat len), .null] 6)) (s₁.setTop (mkF m 0 #[.val (.ref a), .val (.ref b), .val (.int (Int32.ofNat o)), .val (.int (Int32.ofNat len)), .val .null, .unset] [])) := entry rfl
  have c2 : Steps p.tables e below (s₁.setTop (entryFrame m #[.ref a, .ref b, .int (Int32.ofNat o), .int (Int32.ofNat len), .null] 6)) (s₁.setTop (mkF m 1 #[.val (.ref a), .val (.ref b), .val (.int (Int32.ofNat o)), .val (.int (Int32.ofNat len)), .val .null, .unset] [.ref a])) := c1.trans (by
    refine XS.aloadN X0.here hexec rfl (hb hbytes d0) rfl rfl ?_
    exact Steps.refl _)
  obtain ⟨T3, X3, q3, st3⟩ := X0.oinit hexec hown (wks W (objW "java/lang/String" 1)) (g := (mkF m 1 #[.val (.ref a), .val (.ref b), .val (.int (Int32.ofNat o)), .val (.int (Int32.ofNat len)), .val .null, .unset] [.ref a])) rfl (by rw [hml]; rfl) (rest := []) rfl (hb hbytes d1) (W := 0) (by show 2 * 0 + 0 ≤ _; decide) (Nat.le_of_ble_eq_true rfl) (Nat.le_of_ble_eq_true rfl)
  have hh3 := q3.trans hh0
  have c4 : Steps p.tables e below (s₁.setTop (entryFrame m #[.ref a, .ref b, .int (Int32.ofNat o), .int (Int32.ofNat len), .null] 6)) (T3.setTop (mkF m 27 #[.val (.ref a), .val (.ref b), .val (.int (Int32.ofNat o)), .val (.int (Int32.ofNat len)), .val .null, .unset] [])) := (c2.trans (st3 _ (Steps.refl _))).trans (by
    refine XS.iloadN X3.here hexec rfl (hb hbytes d4) rfl ?_
    refine XS.ifYes X3.here hexec rfl (pc0 := 5) rfl (hb hbytes d5) rfl (i0_ne_t (nz32 (by omega) l0)) (by decide) rfl ?_
    exact Steps.refl _)
  obtain ⟨T5, X5, q5, st5⟩ := X3.sget hexec hown (wk W (.fieldLink "java/lang/String" 38 "java/lang/String" "COMPACT_STRINGS" "Z")) s1 (fun _ _ h => by rw [hh3]; exact h) (g := (mkF m 27 #[.val (.ref a), .val (.ref b), .val (.int (Int32.ofNat o)), .val (.int (Int32.ofNat len)), .val .null, .unset] [])) rfl (hb hbytes d27)
  have hh5 := q5.trans hh3
  have c6 : Steps p.tables e below (s₁.setTop (entryFrame m #[.ref a, .ref b, .int (Int32.ofNat o), .int (Int32.ofNat len), .null] 6)) (T5.setTop (mkF m 30 #[.val (.ref a), .val (.ref b), .val (.int (Int32.ofNat o)), .val (.int (Int32.ofNat len)), .val .null, .unset] [.int z])) := c4.trans (st5 _ (Steps.refl _))
  have c7 : Steps p.tables e below (s₁.setTop (entryFrame m #[.ref a, .ref b, .int (Int32.ofNat o), .int (Int32.ofNat len), .null] 6)) (T5.setTop (mkF m 36 #[.val (.ref a), .val (.ref b), .val (.int (Int32.ofNat o)), .val (.int (Int32.ofNat len)), .val .null, .unset] [.int (Int32.ofNat len), .int (Int32.ofNat o), .ref b])) := c6.trans (by
    refine XS.ifNo X5.here hexec rfl (hb hbytes d30) rfl (i0_eq_f hz) ?_
    refine XS.aloadN X5.here hexec rfl (hb hbytes d33) rfl rfl ?_
    refine XS.iloadN X5.here hexec rfl (hb hbytes d34) rfl ?_
    refine XS.iloadN X5.here hexec rfl (hb hbytes d35) rfl ?_
    exact Steps.refl _)
  obtain ⟨v8, T8, X8, E8, g8⟩ := X5.callS hexec (Cmp3.law l b A o len) hown (wks W (staticW "java/lang/String" 177 Cmp3.yN)) (wk W Cmp3.tab) (W := 0) (Nat.le_of_ble_eq_true rfl) (Nat.le_of_ble_eq_true rfl) (Nat.le_refl _) (by show 0 + len ≤ len; omega) (g := (mkF m 36 #[.val (.ref a), .val (.ref b), .val (.int (Int32.ofNat o)), .val (.int (Int32.ofNat len)), .val .null, .unset] [.int (Int32.ofNat len), .int (Int32.ofNat o), .ref b])) rfl (by rw [hml]; rfl) c7 (argsL := [.ref b, .int (Int32.ofNat o), .int (Int32.ofNat len)]) (rest := []) rfl rfl (by show 2 * 0 + 0 ≤ _; decide) (hb hbytes d36) (⟨rfl, hA.mv X5.warmed.alike hh5, l1, l2, hp⟩)
  obtain ⟨e8, z8⟩ := E8
  obtain ⟨rfl, N, n1, n2, n3, n4, n5, n6⟩ := NewArr.mv _ T5 s _ _ hh5.symm (Vm.Alike.refl _) rfl e8
  rw [hh5] at z8
  have hB1 := hB.keep X8.warmed.alike (n6 _ _ hB.1)
  have hne : s.heap.size ≠ a := (Nat.ne_of_lt (Array.getElem?_eq_some_iff.mp hB.1).1).symm
  have c9 : Steps p.tables e below (s₁.setTop (entryFrame m #[.ref a, .ref b, .int (Int32.ofNat o), .int (Int32.ofNat len), .null] 6)) (T8.setTop (mkF m 39 #[.val (.ref a), .val (.ref b), .val (.int (Int32.ofNat o)), .val (.int (Int32.ofNat len)), .val .null, .unset] [.ref s.heap.size])) := g8
  have c10 : Steps p.tables e below (s₁.setTop (entryFrame m #[.ref a, .ref b, .int (Int32.ofNat o), .int (Int32.ofNat len), .null] 6)) (T8.setTop (mkF m 45 #[.val (.ref a), .val (.ref b), .val (.int (Int32.ofNat o)), .val (.int (Int32.ofNat len)), .val .null, .val (.ref s.heap.size)] [.int (Int32.ofNat N.slots.size), .ref s.heap.size, .ref a])) := by
    have hc : Steps p.tables e below (s₁.setTop (entryFrame m #[.ref a, .ref b, .int (Int32.ofNat o), .int (Int32.ofNat len), .null] 6)) (T8.setTop (mkF m 45 #[.val (.ref a), .val (.ref b), .val (.int (Int32.ofNat o)), .val (.int (Int32.ofNat len)), .val .null, .val (.ref s.heap.size)] [.int (Int32.ofNat len), .ref s.heap.size, .ref a])) := c9.trans (by
      refine XS.astore X8.here hexec rfl (hb hbytes d39) rfl rfl rfl ?_
      refine XS.aloadN X8.here hexec rfl (hb hbytes d41) rfl rfl ?_
      refine XS.aload X8.here hexec rfl (hb hbytes d42) rfl rfl ?_
      refine XS.iloadN X8.here hexec rfl (hb hbytes d44) rfl ?_
      exact Steps.refl _)
    rw [n4]; exact hc
  obtain ⟨v11, T11, X11, E11, g11⟩ := X8.callS hexec (CodL.law l s.heap.size N) hown (wks W (staticW "java/lang/String" 47 CodL.yN)) (wk W CodL.tab) (W := 1) (Nat.le_of_ble_eq_true rfl) (Nat.le_of_ble_eq_true rfl) (Nat.le_refl _) (by show 0 + len + 0 ≤ len; omega) (g := (mkF m 45 #[.val (.ref a), .val (.ref b), .val (.int (Int32.ofNat o)), .val (.int (Int32.ofNat len)), .val .null, .val (.ref s.heap.size)] [.int (Int32.ofNat N.slots.size), .ref s.heap.size, .ref a])) rfl (by rw [hml]; rfl) c10 (argsL := [.ref s.heap.size, .int (Int32.ofNat N.slots.size)]) (rest := [.ref a]) rfl rfl (by show 2 * 0 + (1 + 0) ≤ _; decide) (hb hbytes d45) (⟨rfl, n1⟩)
  obtain ⟨rfl, q11⟩ := E11
  have hB11 := hB1.mv (X8.warmed.alike.symm.trans X11.warmed.alike) q11
  have c12 : Steps p.tables e below (s₁.setTop (entryFrame m #[.ref a, .ref b, .int (Int32.ofNat o), .int (Int32.ofNat len), .null] 6)) (T11.setTop (mkF m 48 #[.val (.ref a), .val (.ref b), .val (.int (Int32.ofNat o)), .val (.int (Int32.ofNat len)), .val .null, .val (.ref s.heap.size)] [.int 0, .ref a])) := g11
  obtain ⟨T13, X13, p13, bl13, sl13, st13⟩ := X11.finit hexec hown (wk W (.fieldLink "java/lang/String" 15 "java/lang/String" "coder" "B")) (Or.inr ⟨_, (wk W (.laysFinal "java/lang/String" "java/lang/String" "coder" "B"))⟩) (Or.inl ⟨rfl, hnm⟩) f2 (Or.inl rfl) hB11 (t := .byte) (by decide +kernel) rfl (g := (mkF m 48 #[.val (.ref a), .val (.ref b), .val (.int (Int32.ofNat o)), .val (.int (Int32.ofNat len)), .val .null, .val (.ref s.heap.size)] [.int 0, .ref a])) rfl (rest := []) rfl (hb hbytes d48)
  have c14 : Steps p.tables e below (s₁.setTop (entryFrame m #[.ref a, .ref b, .int (Int32.ofNat o), .int (Int32.ofNat len), .null] 6)) (T13.setTop (mkF m 54 #[.val (.ref a), .val (.ref b), .val (.int (Int32.ofNat o)), .val (.int (Int32.ofNat len)), .val .null, .val (.ref s.heap.size)] [.ref s.heap.size, .ref a])) := (c12.trans (st13 _ (Steps.refl _))).trans (by
    refine XS.aloadN X13.here hexec rfl (hb hbytes d51) rfl rfl ?_
    refine XS.aload X13.here hexec rfl (hb hbytes d52) rfl rfl ?_
    exact Steps.refl _)
  obtain ⟨T15, X15, p15, bl15, sl15, st15⟩ := X13.finit hexec hown (wk W (.fieldLink "java/lang/String" 9 "java/lang/String" "value" "[B")) (Or.inr ⟨_, (wk W (.laysFinal "java/lang/String" "java/lang/String" "value" "[B"))⟩) (Or.inl ⟨rfl, hnm⟩) f1 (Or.inl rfl) bl13 (t := (.array .byte)) (by decide +kernel) rfl (g := (mkF m 54 #[.val (.ref a), .val (.ref b), .val (.int (Int32.ofNat o)), .val (.int (Int32.ofNat len)), .val .null, .val (.ref s.heap.size)] [.ref s.heap.size, .ref a])) rfl (rest := []) rfl (hb hbytes d54)
  have c16 : Steps p.tables e below (s₁.setTop (entryFrame m #[.ref a, .ref b, .int (Int32.ofNat o), .int (Int32.ofNat len), .null] 6)) (T15.setTop (mkF m 57 #[.val (.ref a), .val (.ref b), .val (.int (Int32.ofNat o)), .val (.int (Int32.ofNat len)), .val .null, .val (.ref s.heap.size)] [])) := c14.trans (st15 _ (Steps.refl _))
  have ap := apart (Or.inr ⟨_, (wk W (.laysFinal "java/lang/String" "java/lang/String" "value" "[B"))⟩) (Or.inr ⟨_, (wk W (.laysFinal "java/lang/String" "java/lang/String" "coder" "B"))⟩) f1 f2 (t₁ := .array .byte) (t₂ := .byte) (by decide +kernel) (by decide +kernel) (by decide)
  have al := X8.warmed.alike.symm.trans X15.warmed.alike
  have n7 : T11.heap[s.heap.size]? = some N := by rw [q11]; exact n1.1
  exact ⟨T15, none, _, _, _, X15, by simp, rfl, by omega, (fun _ => rfl), ⟨rfl, _, N, bl15, ((Same.refl D _).set _ (by simp)).set _ (by simp), sl15, (Cell.slots_setSlot_ne _ ap).trans sl13, n1.keep al (p15.other hne (p13.other hne n7)), n2, by rw [al.findClass]; exact n3, n4, n5, fun y c h1 h2 => p15.other h1 (p13.other h1 (by rw [q11]; exact n6 y c h2)), by rw [p15.2.2, p13.2.2, q11]; exact z8⟩, fun fs hl => c16.trans (X15.returnOut hexec hret (hb hbytes d57) hl)⟩
end New4
namespace New1
def yN : MethodName := ⟨"java/lang/String", "<init>", "([C)V"⟩
abbrev yB : ByteArray := jdk_42_method_3_code
theorem d0 : decode yB 0 = .ok (.aload_n 0, 1) := by decide +kernel
theorem d1 : decode yB 1 = .ok (.aload_n 1, 1) := by decide +kernel
theorem d2 : decode yB 2 = .ok (.iconst 0, 1) := by decide +kernel
theorem d3 : decode yB 3 = .ok (.aload_n 1, 1) := by decide +kernel
theorem d4 : decode yB 4 = .ok (.arraylength, 1) := by decide +kernel
theorem d5 : decode yB 5 = .ok (.aconst_null, 1) := by decide +kernel
theorem d6 : decode yB 6 = .ok (.invokespecial 27, 3) := by decide +kernel
theorem d9 : decode yB 9 = .ok (.return_, 1) := by decide +kernel
def site : List Cond := [New4.tab] ++ initW "java/lang/String" 27 New4.yN
def tab : Cond := tabOf yN yB 2 none site
def P (a : Addr) (D : Cell) (fV fC : Field) (b : Addr) (A : Cell) (z : Int32) (args : Array Value) (s : State) : Prop := args = #[.ref a, .ref b] ∧ Blank "java/lang/String" a D s ∧ Found "java/lang/String" "value" "[B" fV s ∧ Found "java/lang/String" "coder" "B" fC s ∧ Ch b A s ∧ StaticIs s "java/lang/String" "COMPACT_STRINGS" "Z" (.int z) ∧ ¬ z = 0 ∧ 0 < A.slots.size ∧ A.slots.size ≤ 536870912 ∧ ∀ i, i < A.slots.size → ¬ 255 < cv A i
def E (a : Addr) (D : Cell) (fV fC : Field) (A : Cell) (r : Option Value) (s u : State) : Prop := Got a D fV fC A 0 A.slots.size r s u
/-- new String(chars), not empty, no char above 255: a Latin-1 String of their low bytes -/
theorem law (l : Launch) (a : Addr) (D : Cell) (fV fC : Field) (b : Addr) (A : Cell) (z : Int32) : Law l yN 2 1 3 52 yB 2 none site (P a D fV fC b A z) (E a D fV fC A) [⟨a, fC.slot⟩, ⟨a, fV.slot⟩] 1 A.slots.size := by
  refine Law.of_walk (plainFor_of_name (by decide +kernel)) (by decide +kernel) (by decide +kernel) (by decide) (fun _ _ h => by rw [h.1]; rfl) (fun _ U U' hal hh h => ⟨h.1, h.2.1.mv hal hh, h.2.2.1.al hal, h.2.2.2.1.al hal, h.2.2.2.2.1.mv hal hh, h.2.2.2.2.2.1.there hal hh, h.2.2.2.2.2.2⟩) (fun r U U' V V' h1 hal h2 h => Got.mv r U U' V V' h1 hal h2 h) ?_
  intro p e s m args below meth c s₁ X0 hexec hbytes hml hret hlk hnm hown hh0 W hP
  obtain ⟨rfl, hB, f1, f2, hA, s1, hz, l0, l2, hp⟩ := hP
  have c1 : Steps p.tables e below (s₁.setTop (entryFrame m #[.ref a, .ref b] 2)) (s₁.setTop (mkF m 0 #[.val (.ref a), .val (.ref b)] [])) := entry rfl
  have c2 : Steps p.tables e below (s₁.setTop (entryFrame m #[.ref a, .ref b] 2)) (s₁.setTop (mkF m 6 #[.val (.ref a), .val (.ref b)] [.null, .int (Int32.ofNat A.slots.size), .int 0, .ref b, .ref a])) := c1.trans (by
    refine XS.aloadN X0.here hexec rfl (hb hbytes d0) rfl rfl ?_
    refine XS.aloadN X0.here hexec rfl (hb hbytes d1) rfl rfl ?_
    refine iconstV X0.here hexec rfl 0 (hb hbytes d2) (by decide) ?_
    refine XS.aloadN X0.here hexec rfl (hb hbytes d3) rfl rfl ?_
    refine X0.alen hexec (hA.1.mv X0.warmed.alike hh0) rfl rfl (hb hbytes d4) ?_
    refine XS.aconstNull X0.here hexec rfl (hb hbytes d5) ?_
    exact Steps.refl _)
  obtain ⟨v3, T3, X3, E3, g3⟩ := X0.callN hexec (New4.law l a D fV fC b A z 0 A.slots.size) rfl hown (wks W (initW "java/lang/String" 27 New4.yN)) (W New4.tab (by simp only [site, List.mem_cons, List.mem_append, true_or, or_true])) (W := 0) (Nat.le_of_ble_eq_true rfl) (Nat.le_of_ble_eq_true rfl) (Nat.le_refl _) (by show 0 + A.slots.size ≤ A.slots.size; omega) (g := (mkF m 6 #[.val (.ref a), .val (.ref b)] [.null, .int (Int32.ofNat A.slots.size), .int (Int32.ofNat 0), .ref b, .ref a])) rfl (by rw [hml]; rfl) c2 (argsL := [.ref b, .int (Int32.ofNat 0), .int (Int32.ofNat A.slots.size), .null]) (rest := []) rfl rfl (by show 2 * 0 + 0 ≤ _; decide) (hb hbytes d6) (⟨rfl, hB.mv X0.warmed.alike hh0, f1.al X0.warmed.alike, f2.al X0.warmed.alike, hA.mv X0.warmed.alike hh0, s1.there X0.warmed.alike hh0, hz, l0, by omega, l2, fun i hi => by rw [Nat.zero_add]; exact hp i hi⟩)
  have e0 := Got.mv _ s₁ s _ _ hh0.symm (Vm.Alike.refl _) rfl E3
  obtain rfl := e0.1
  have c4 : Steps p.tables e below (s₁.setTop (entryFrame m #[.ref a, .ref b] 2)) (T3.setTop (mkF m 9 #[.val (.ref a), .val (.ref b)] [])) := g3
  exact ⟨T3, none, _, _, _, X3, by simp, rfl, by omega, (fun _ => rfl), e0, fun fs hl => c4.trans (X3.returnOut hexec hret (hb hbytes d9) hl)⟩
theorem pays {l : Launch} {R : Room} {p : Program} {e : Env} {below : List Frame} {s : State} {sargs : Array Value} {len W : Nat} (a : Addr) (D : Cell) (fV fC : Field) (b : Addr) (A : Cell) (z : Int32) (htab : tab.before sargs s = true) (hfr : 4 ≤ R.frames) (hlo : W + 65 ≤ R.locals) :
    Back l R p e below s sargs yN len W (fun A₁ a₁ => A₁.cells + 1 ≤ R.cells ∧ A₁.slots + A.slots.size ≤ R.slots ∧ P a D fV fC b A z a₁ A₁.U) (fun A₁ _ v₁ B₁ => E a D fV fC A v₁ A₁.U B₁.U ∧ B₁.locs = A₁.locs ++ [⟨a, fC.slot⟩, ⟨a, fV.slot⟩] ∧ B₁.cells = A₁.cells + 1 ∧ B₁.slots = A₁.slots + A.slots.size) :=
  (law l a D fV fC b A z).pays htab hfr (by omega)
end New1
/-- the byte, read back as charAt reads it, is the char -/
theorem lo8_mask {x : Int32} (h0 : ¬ x < 0) (h1 : ¬ 255 < x) : lo8 x &&& 255 = x := by
  have t : ∀ k : Fin 256, lo8 (Int32.ofNat k.val) &&& 255 = Int32.ofNat k.val := by decide +kernel
  rw [Int32.lt_iff_toInt_lt] at h0 h1
  have e0 : (0 : Int32).toInt = 0 := rfl
  have e1 : (255 : Int32).toInt = 255 := rfl
  obtain ⟨k, hk⟩ : ∃ k : Nat, x.toInt = k := ⟨x.toInt.toNat, by omega⟩
  have hx : x = Int32.ofNat k := Int32.toInt_inj.mp (by rw [hk, Int32.toInt_ofNat_small (by omega)])
  rw [hx]
  exact t ⟨k, by omega⟩
end StrChars
namespace StrChars.Road
open Jvm Sem ClassFile Op Lib Jvm.Stand Jvm.Free Jvm.Free.XT
open Jvm.Lib.Cold (StaticIs)
abbrev ST : String := "java/lang/String"
/-- every table word that New1's law asks, flat -/
abbrev words : List Jvm.Cond := [.code New1.yN New1.yB 2 none, .initialized ST, .methodLink ST 27 New4.yN, .instanceMethod New4.yN,
  .code New4.yN New4.yB 6 none, .fieldLink ST 38 ST "COMPACT_STRINGS" "Z", .laysFinal ST ST "value" "[B", .fieldLink ST 9 ST "value" "[B", .laysFinal ST ST "coder" "B", .fieldLink ST 15 ST "coder" "B",
  .methodLink ST 1 Lib.objectInit, .instanceMethod Lib.objectInit, .code Lib.objectInit ⟨#[0xb1]⟩ 1 none, .methodLink ST 177 Cmp3.yN, .static Cmp3.yN, .methodLink ST 47 CodL.yN, .static CodL.yN,
  .code Cmp3.yN Cmp3.yB 6 (some (.array .byte)), .initialized U16, .arrayClass .byte, .methodLink U16 115 Cmp5.yN, .static Cmp5.yN, .code Cmp5.yN Cmp5.yB 7 (some .int), .code CodL.yN CodL.yB 2 (some .byte)]
theorem tab_of {a : Array Value} {s : State} (h : ∀ w ∈ words, w.before a s = true) : New1.tab.before a s = true := by
  have h5 : Cmp5.tab.before a s = true := unparts (wk h (.code Cmp5.yN Cmp5.yB 7 (some .int))) (wks h (.initialized Cmp5.yN.cls :: Cmp5.site))
  have hc : CodL.tab.before a s = true := unparts (wk h (.code CodL.yN CodL.yB 2 (some .byte))) (wks h (.initialized CodL.yN.cls :: CodL.site))
  have q5 : ∀ w ∈ Cmp5.tab :: words, w.before a s = true := fun w hw => (List.mem_cons.mp hw).elim (fun e => e ▸ h5) (h w)
  have h3 : Cmp3.tab.before a s = true := unparts (wk q5 (.code Cmp3.yN Cmp3.yB 6 (some (.array .byte)))) (wks q5 (.initialized Cmp3.yN.cls :: Cmp3.site))
  have q3 : ∀ w ∈ Cmp3.tab :: CodL.tab :: words, w.before a s = true := fun w hw => (List.mem_cons.mp hw).elim (fun e => e ▸ h3) fun hw => (List.mem_cons.mp hw).elim (fun e => e ▸ hc) (h w)
  have h4 : New4.tab.before a s = true := unparts (wk q3 (.code New4.yN New4.yB 6 none)) (wks q3 (.initialized New4.yN.cls :: New4.site))
  have q4 : ∀ w ∈ New4.tab :: words, w.before a s = true := fun w hw => (List.mem_cons.mp hw).elim (fun e => e ▸ h4) (h w)
  exact unparts (wk q4 (.code New1.yN New1.yB 2 none)) (wks q4 (.initialized New1.yN.cls :: New1.site))
/-- the words ride from the start Z to the walk's own state -/
theorem moved {Z s : State} {a0 args : Array Value} (hZ : Z.Warmed39 s.vm) (hw : ∀ d ∈ words, d.before a0 Z = true) : ∀ d ∈ words, d.before args s = true := fun d hd => by
  have q := hw d hd
  have t : ∀ d ∈ words, d = .arrayClass .byte ∨ (d.onTables && d.keepsFace) = true := by decide +kernel
  rcases t d hd with rfl | t
  · exact RoadKit.mvA hZ q
  · exact RoadKit.mv hZ q t
/-- WHAT COMES BACK, over the tables of the start Z: h the heap at the call, h' behind it -/
def Q (Z : State) (x : Addr) (A : Cell) (h : Heap) (v : Option Value) (h' : Heap) (L : List Loc) : Prop := v = none ∧ (∀ y ∈ L, y.base = x) ∧ RoadKit.Keep h h' [x] ∧ h'.size = h.size + 1 ∧ RoadKit.Exa Z h' x ST ∧ RoadKit.Fld Z h' x ST "value" "[B" (.ref h.size) ∧ RoadKit.Fld Z h' x ST "coder" "B" (.int 0) ∧
  (∃ V : Cell, RoadKit.Arr Z h' h.size V .byte ∧ V.vm = .none ∧ Z.vm.findClass "[B" = some V.cls ∧ V.slots.size = A.slots.size ∧ ∀ j, j < A.slots.size → V.slots[j]? = some (.int (lo8 (cv A j)))) ∧
  ∀ (O n d : String) (w : Value), RoadKit.Fld Z h x O n d w → RoadKit.slotOf Z O n d ≠ RoadKit.slotOf Z ST "value" "[B" → RoadKit.slotOf Z O n d ≠ RoadKit.slotOf Z ST "coder" "B" → RoadKit.Fld Z h' x O n d w
/-- **new String(chars) AT A CALL, IN THE ROAD'S FORM**: for specialBack behind newO: x the fresh String, b the char[] with the cell A -/
theorem back {p : Program} {l : Launch} {e : Env} {R : Room} {s : State} {args : Array Value} {below : List Frame} {len W : Nat} {Z : State} {a0 : Array Value} {h : Heap} (hZ : Z.Warmed39 s.vm) (hw : ∀ d ∈ words, d.before a0 Z = true) {kI : Nat} (wi : (Jvm.Cond.instantiable ST kI).before a0 Z = true)
    {x b : Addr} {A : Cell} {z : Int32} {v0 c0 : Value} (E : RoadKit.Exa Z h x ST) (V : RoadKit.Fld Z h x ST "value" "[B" v0) (C : RoadKit.Fld Z h x ST "coder" "B" c0) (K : RoadKit.Arr Z h b A .char) (hty : Typed .char A) (S : RoadKit.Sta Z h ST "COMPACT_STRINGS" "Z" (.int z)) (hz : ¬ z = 0)
    (l0 : 0 < A.slots.size) (l2 : A.slots.size ≤ 536870912) (hp : ∀ i, i < A.slots.size → ¬ 255 < cv A i) (hfr : 4 ≤ R.frames) (hlo : W + 65 ≤ R.locals) :
    Back l R p e below s args New1.yN len W (fun P a => a = #[.ref x, .ref b] ∧ P.U.heap = h ∧ P.cells + 1 ≤ R.cells ∧ P.slots + A.slots.size ≤ R.slots)
      (fun P _ v B => ∃ L, Q Z x A h v B.U.heap L ∧ B.locs = P.locs ++ L ∧ B.cells = P.cells + 1 ∧ B.slots = P.slots + A.slots.size) := by
  intro m meth c P g ig mk a X hg hsize hdg hW hn hp'
  obtain ⟨rfl, rfl, r1, r2⟩ := hp'
  have al : Z.vm.Alike P.U.vm := hZ.alike.trans X.warmed.alike
  obtain ⟨D, cfV, kV, iV, fV, hD, gV, stV, knV, obV, asV, slV⟩ := id V
  obtain ⟨D', cfC, kC, iC, fC, hD', gC, stC, -, -, asC, slC⟩ := id C
  cases hD.symm.trans hD'
  obtain ⟨D2, kD, e1, e2, e3, e4, e5⟩ := id E
  cases hD.symm.trans e1
  obtain ⟨c2, k2, i1, i2, i3, -⟩ := Cond.instantiable_spec wi
  cases e2.symm.trans i1
  cases e3.symm.trans i2
  obtain ⟨kU, u1, u2⟩ := al.2.2 _ _ e3
  have hB : Blank ST x D P.U := ⟨hD, ⟨knV, fun q hq => by rw [hq] at obV; cases obV⟩, by rw [al.findClass]; exact e2, kU, u1, by rw [u2]; exact i3, by rw [u2]; exact e5 i3⟩
  have F1 : Found ST "value" "[B" fV P.U := ⟨SBG.found_only al ⟨cfV, kV, iV, gV⟩, stV⟩
  have F2 : Found ST "coder" "B" fC P.U := ⟨SBG.found_only al ⟨cfC, kC, iC, gC⟩, stC⟩
  have hA : Ch b A P.U := ⟨⟨K.1, State.isArrayOf_alike al K.2.1, K.2.2, by omega⟩, hty⟩
  have hS : StaticIs P.U ST "COMPACT_STRINGS" "Z" (.int z) := by
    obtain ⟨cfS, iS, kS, fS, st, cS, t1, t2, t3, t4, t5, t6, t7⟩ := S
    exact StaticIs.there (s := { Z with heap := P.U.heap }) ⟨cfS, iS, kS, fS, st, cS, t1, t2, t3, t4, t5, (fun q => by rw [q] at t6; cases t6), t7⟩ al rfl
  obtain ⟨v, B, X', ⟨⟨hv, E', V', q1, q2, q3, q4, q5, q6, q7, q8, q9, q10, q11⟩, hl, hc, hs⟩, st⟩ := New1.pays x D fV fC b A z (tab_of (moved hZ hw)) hfr hlo m meth c P g ig mk _ X hg hsize hdg hW hn ⟨r1, r2, rfl, hB, F1, F2, hA, hS, hz, l0, l2, hp⟩
  have al' : Z.vm.Alike B.U.vm := hZ.alike.trans X'.warmed.alike
  have hsz : E'.slots.size = D.slots.size := by
    obtain ⟨-, -, -, kB, w1, w2, w3⟩ := q1
    obtain ⟨kB', y1, y2⟩ := al'.2.2 _ _ e3
    rw [q2.2.1] at w1
    cases w1.symm.trans y1
    rw [w3, e5 i3, y2]
  refine ⟨v, B, X', ⟨_, ⟨hv, ?_, ⟨by omega, fun y cy hy hn' => q10 y cy (by simpa using hn') hy, fun y cy hy => ?_⟩, q11, ⟨E', _, q1.1, by rw [q2.2.1]; exact e2, by rw [q2.2.1]; exact e3, by rw [q2.1]; exact obV, fun _ => by rw [hsz]; exact e5 i3⟩,
    ⟨E', cfV, kV, iV, fV, q1.1, gV, stV, by rw [q2.1]; exact knV, by rw [q2.1]; exact obV, by rw [q2.2.1]; exact asV, q3⟩, ⟨E', cfC, kC, iC, fC, q1.1, gC, stC, by rw [q2.1]; exact knV, by rw [q2.1]; exact obV, by rw [q2.2.1]; exact asC, q4⟩,
    ⟨V', ⟨q5.1, State.isArrayOf_alike al'.symm q5.2.1, q5.2.2.1⟩, q6, by rw [← al'.findClass]; exact q7, q8, fun j hj => by have := q9 j hj; rwa [Nat.zero_add] at this⟩, fun O n d w F n1 n2 => ?_⟩, hl, hc, hs⟩, st⟩
  · intro y hy
    simp only [List.mem_cons, List.not_mem_nil, or_false] at hy
    rcases hy with rfl | rfl <;> rfl
  · by_cases q : y = x
    · subst q
      cases hD.symm.trans hy
      exact ⟨E', q1.1, q2.2.1, q2.1, hsz⟩
    · exact ⟨cy, q10 y cy q hy, rfl, rfl, rfl⟩
  · obtain ⟨D3, cf, k, i, f, g1, g2, g3, g4, g5, g6, g7⟩ := F
    cases hD.symm.trans g1
    simp only [RoadKit.slotOf, g2, gV, gC, Option.map_some, Option.getD_some] at n1 n2
    exact ⟨E', cf, k, i, f, q1.1, g2, g3, by rw [q2.1]; exact g4, by rw [q2.1]; exact g5, by rw [q2.2.1]; exact g6, by rw [q2.2.2 f.slot (by simp [n1, n2])]; exact g7⟩
end StrChars.Road
namespace StrChars.Road
open Jvm Sem ClassFile Op Lib Jvm.Stand Jvm.Free Jvm.Free.XT
/-- WHAT COMES BACK, the byte[] as a list of values -/
def QA (Z : State) (x : Addr) (zn : Int32) (cs : List Int32) (h : Heap) (v : Option Value) (h' : Heap) (L : List Loc) : Prop := v = none ∧ (∀ y ∈ L, y.base = x) ∧ RoadKit.Keep h h' [x] ∧ h'.size = h.size + 1 ∧ RoadKit.Exa Z h' x ST ∧ RoadKit.Fld Z h' x ST "value" "[B" (.ref h.size) ∧ RoadKit.Fld Z h' x ST "coder" "B" (.int 0) ∧
  (∃ kb, Z.vm.findClass "[B" = some kb ∧ RoadKit.Arv Z h' h.size kb .byte zn (cs.map fun c => .int (lo8 c)) (.int 0)) ∧
  ∀ (O n d : String) (w : Value), RoadKit.Fld Z h x O n d w → RoadKit.slotOf Z O n d ≠ RoadKit.slotOf Z ST "value" "[B" → RoadKit.slotOf Z O n d ≠ RoadKit.slotOf Z ST "coder" "B" → RoadKit.Fld Z h' x O n d w
/-- **new String(chars) AT A CALL, THE ARRAYS AS LISTS**: the char[] at b holds cs, not empty, no char above 255 -/
theorem backArv {p : Program} {l : Launch} {e : Env} {R : Room} {s : State} {args : Array Value} {below : List Frame} {len W : Nat} {Z : State} {a0 : Array Value} {h : Heap} (hZ : Z.Warmed39 s.vm) (hw : ∀ d ∈ words, d.before a0 Z = true) {kI : Nat} (wi : (Jvm.Cond.instantiable ST kI).before a0 Z = true)
    {x b : Addr} {k : ClassId} {zn z : Int32} {cs : List Int32} {dv v0 c0 : Value} (E : RoadKit.Exa Z h x ST) (V : RoadKit.Fld Z h x ST "value" "[B" v0) (C : RoadKit.Fld Z h x ST "coder" "B" c0) (K : RoadKit.Arv Z h b k .char zn (cs.map Value.int) dv) (S : RoadKit.Sta Z h ST "COMPACT_STRINGS" "Z" (.int z)) (hz : ¬ z = 0)
    (hlen : zn.toNatClampNeg = cs.length) (h0 : 0 < cs.length) (hbig : cs.length ≤ 536870912) (hall : ∀ c ∈ cs, ¬ 255 < c) (hfr : 4 ≤ R.frames) (hlo : W + 65 ≤ R.locals) :
    Back l R p e below s args New1.yN len W (fun P a => a = #[.ref x, .ref b] ∧ P.U.heap = h ∧ P.cells + 1 ≤ R.cells ∧ P.slots + cs.length ≤ R.slots)
      (fun P _ v B => ∃ L, QA Z x zn cs h v B.U.heap L ∧ B.locs = P.locs ++ L ∧ B.cells = P.cells + 1 ∧ B.slots = P.slots + cs.length) := by
  obtain ⟨A, K1, K2, K3, K4, K5, K6⟩ := K
  have e : A.slots.size = cs.length := K3.trans hlen
  have hat : ∀ (i : Nat) (hi : i < cs.length), A.slots[i]? = some (.int cs[i]) := fun i hi => by rw [K5 i (by omega)]; simp [List.getD_eq_getElem?_getD, hi]
  have hcv : ∀ (i : Nat) (hi : i < cs.length), cv A i = cs[i] := fun i hi => by unfold cv; rw [hat i hi]
  have hty : Typed .char A := fun i v hv => by
    have hi : i < A.slots.size := (Array.getElem?_eq_some_iff.mp hv).1
    have q := K5 i hi
    rw [hv] at q
    rw [Option.some.inj q]
    exact K6 i hi
  refine Back.mono (back hZ hw wi E V C K1 hty S hz (by omega) (by omega) (fun i hi => by rw [hcv i (by omega)]; exact hall _ (List.getElem_mem _)) hfr hlo) (fun P a hp => ⟨hp.1, hp.2.1, hp.2.2.1, by rw [e]; exact hp.2.2.2⟩) (fun P a v B hp hq => ?_)
  obtain ⟨L, ⟨q1, q2, q3, q4, q5, q6, q7, ⟨V', v1, v2, v3, v4, v5⟩, q9⟩, hl, hc, hs⟩ := hq
  refine ⟨L, ⟨q1, q2, q3, q4, q5, q6, q7, ⟨V'.cls, v3, V', v1, rfl, by rw [v4, e, hlen], K4, fun i hi => ?_, fun i hi => ?_⟩, q9⟩, hl, hc, by rw [hs, e]⟩
  · have hi' : i < cs.length := by omega
    rw [v5 i (by omega), hcv i hi']; simp [List.getD_eq_getElem?_getD, hi']
  · have hi' : i < cs.length := by omega
    simp only [List.getD_eq_getElem?_getD, List.getElem?_map, List.getElem?_eq_getElem hi', Option.map_some, Option.getD_some]
    exact fits_lo8 _
end StrChars.Road
namespace StrChars.Road
open Jvm Sem ClassFile Op Lib Jvm.Stand Jvm.Free Jvm.Free.XT
/-- WHAT COMES BACK, in the writer's own shape -/
def QV (Z : State) (x : Addr) (N : Int32) (bs : List Int32) (h : Heap) (n0 : Nat) (v : Option Value) (h' : Heap) (L : List Loc) : Prop := v = none ∧ RoadKit.Fr n0 L ∧ RoadKit.Keep h h' [x] ∧ RoadKit.Exa Z h' x ST ∧ RoadKit.Fld Z h' x ST "coder" "B" (.int 0) ∧
  ∃ (t : Addr) (kb : ClassId), n0 ≤ t ∧ h.size ≤ t ∧ ¬ t = x ∧ RoadKit.Fld Z h' x ST "value" "[B" (.ref t) ∧ RoadKit.Arv Z h' t kb .byte N (bs.map Value.int) (.int 0)
/-- **new String(chars) AT A CALL, FOR THE WRITER**: a char[] of n known ints, each 0 to 255 -/
theorem backV {p : Program} {l : Launch} {e : Env} {R : Room} {s : State} {args : Array Value} {below : List Frame} {len W : Nat} {Z : State} {a0 : Array Value} {h : Heap} (hZ : Z.Warmed39 s.vm) (hw : ∀ d ∈ words, d.before a0 Z = true) {kI : Nat} (wi : (Jvm.Cond.instantiable ST kI).before a0 Z = true)
    {x b : Addr} {kC : ClassId} {cs bs : List Int32} {d v0 c0 : Value} {z N : Int32} {n n0 : Nat} (hx0 : n0 ≤ x) (hh0 : n0 ≤ h.size) (E : RoadKit.Exa Z h x ST) (V : RoadKit.Fld Z h x ST "value" "[B" v0) (C : RoadKit.Fld Z h x ST "coder" "B" c0) (K : RoadKit.Arv Z h b kC .char N (cs.map Value.int) d) (S : RoadKit.Sta Z h ST "COMPACT_STRINGS" "Z" (.int z)) (hz : ¬ z = 0)
    (hn : cs.length = n) (hN : N = Int32.ofNat n) (l0 : 0 < n) (l2 : n ≤ 4000) (hp : ∀ c ∈ cs, ¬ c < 0 ∧ ¬ (255 : Int32) < c) (hb : bs = cs.map (fun c => c.toInt8.toInt32)) (hfr : 4 ≤ R.frames) (hlo : W + 65 ≤ R.locals) :
    Back l R p e below s args (⟨"java/lang/String", "<init>", "([C)V"⟩ : MethodName) len W (fun P a => a = #[.ref x, .ref b] ∧ P.U.heap = h ∧ P.cells + 1 ≤ R.cells ∧ P.slots + n ≤ R.slots)
      (fun P _ v B => ∃ L, QV Z x N bs h n0 v B.U.heap L ∧ B.locs = P.locs ++ L ∧ B.cells = P.cells + 1 ∧ B.slots = P.slots + n) := by
  subst hn hN hb
  refine Back.mono (backArv hZ hw wi E V C K S hz (n32 (by omega)) l0 (by omega) (fun c hc => (hp c hc).2) hfr hlo) (fun P a hp => hp) (fun P a v B hp hq => ?_)
  obtain ⟨L, ⟨q1, q2, q3, q4, q5, q6, q7, ⟨kb, v1, v2⟩, q9⟩, hl, hc, hs⟩ := hq
  exact ⟨L, ⟨q1, fun y hy => by rw [q2 y hy]; exact hx0, q3, q5, q7, h.size, kb, hh0, Nat.le_refl _, Nat.ne_of_gt E.lt, q6, by rw [List.map_map]; exact v2⟩, hl, hc, hs⟩
end StrChars.Road
namespace StrChars
open Jvm Sem ClassFile Op Lib Jvm.Stand Jvm.Free.XT Jvm.Free.ALB Jvm.Free.JM Jvm.Free
open Jvm.Lib.Cold (StaticIs)
def hi8 (x : Int32) : Int32 := lo8 (x >>> ((8 : Int32) &&& 31))
/-- what StringUTF16.getChar makes of two bytes -/
def pairCh (u v : Int32) : Int32 := (((u &&& 255) <<< ((0 : Int32) &&& 31)) ||| ((v &&& 255) <<< ((8 : Int32) &&& 31))).toUInt32.toUInt16.toUInt32.toInt32
theorem shr0 (c : Int32) : c >>> ((0 : Int32) &&& 31) = c := by
  have e : ((0 : Int32) &&& 31) = 0 := by decide
  rw [e]
  apply Int32.toBitVec_inj.mp
  rw [Int32.toBitVec_shiftRight]
  have e1 : ((0 : Int32).toBitVec.smod 32) = 0#32 := by decide
  rw [e1, BitVec.sshiftRight_eq']
  exact BitVec.sshiftRight_zero
theorem lo8_and (x : Int32) : (lo8 x &&& 255).toBitVec.toNat = x.toBitVec.toNat % 256 := by
  have h : (lo8 x).toBitVec = (x.toBitVec.signExtend 8).signExtend 32 := by rw [lo8, Int8.toBitVec_toInt32, Int32.toBitVec_toInt8]
  rw [Int32.toBitVec_and, BitVec.toNat_and, h]
  have e : ((x.toBitVec.signExtend 8).signExtend 32).toNat % 256 = x.toBitVec.toNat % 256 := by
    rw [BitVec.toNat_signExtend]
    have hlt := x.toBitVec.isLt
    simp only [BitVec.toNat_setWidth, BitVec.toNat_signExtend]
    split <;> split <;> omega
  rw [← e]
  exact Nat.and_two_pow_sub_one_eq_mod _ 8
theorem pair_says {c : Int32} (h0 : ¬ c < 0) (h1 : ¬ 65535 < c) : pairCh (lo8 c) (hi8 c) = c := by
  rw [Int32.lt_iff_toInt_lt] at h0 h1
  have e0 : (0 : Int32).toInt = 0 := rfl
  have e1 : (65535 : Int32).toInt = 65535 := rfl
  have hc : c.toInt = c.toBitVec.toNat := by
    have := c.toBitVec.isLt
    have e : c.toInt = c.toBitVec.toInt := rfl
    rw [e] at h0 h1
    rw [e]
    rw [BitVec.toInt_eq_toNat_cond] at h0 h1 ⊢
    split at h0 <;> split <;> omega
  have hn : c.toBitVec.toNat < 65536 := by omega
  have a1 := lo8_and c
  have a2 : (hi8 c &&& 255).toBitVec.toNat = c.toBitVec.toNat / 256 := by
    rw [hi8, lo8_and]
    have e : ((8 : Int32) &&& 31) = 8 := by decide
    rw [e, Int32.toBitVec_shiftRight]
    have e2 : ((8 : Int32).toBitVec.smod 32) = 8#32 := by decide
    rw [e2, BitVec.sshiftRight_eq', BitVec.toNat_sshiftRight_of_msb_false (by rw [BitVec.msb_eq_false_iff_two_mul_lt]; omega)]
    show c.toBitVec.toNat >>> 8 % 256 = _
    rw [Nat.shiftRight_eq_div_pow]
    omega
  unfold pairCh
  apply Int32.toBitVec_inj.mp
  apply BitVec.eq_of_toNat_eq
  have f0 : ((0 : Int32) &&& 31) = 0 := by decide
  have f8 : ((8 : Int32) &&& 31) = 8 := by decide
  rw [f0, f8]
  have g : (((lo8 c &&& 255) <<< (0 : Int32)) ||| ((hi8 c &&& 255) <<< (8 : Int32))).toBitVec.toNat = c.toBitVec.toNat := by
    rw [Int32.toBitVec_or, Int32.toBitVec_shiftLeft, Int32.toBitVec_shiftLeft]
    have s0 : ((0 : Int32).toBitVec.smod 32) = 0#32 := by decide
    have s8 : ((8 : Int32).toBitVec.smod 32) = 8#32 := by decide
    rw [s0, s8, BitVec.toNat_or]
    simp only [BitVec.shiftLeft_eq', BitVec.toNat_shiftLeft, a1, a2]
    show (c.toBitVec.toNat % 256) <<< 0 % 2 ^ 32 ||| (c.toBitVec.toNat / 256) <<< 8 % 2 ^ 32 = _
    rw [Nat.shiftLeft_zero, Nat.mod_eq_of_lt (show c.toBitVec.toNat % 256 < 2 ^ 32 by omega), Nat.mod_eq_of_lt (show (c.toBitVec.toNat / 256) <<< 8 < 2 ^ 32 by rw [Nat.shiftLeft_eq]; omega), Nat.or_comm, ← Nat.shiftLeft_add_eq_or_of_lt (by omega), Nat.shiftLeft_eq]
    omega
  show BitVec.toNat (((((lo8 c &&& 255) <<< (0 : Int32)) ||| ((hi8 c &&& 255) <<< (8 : Int32))).toBitVec.setWidth 16).setWidth 32) = _
  rw [BitVec.toNat_setWidth, BitVec.toNat_setWidth, g]
  omega
end StrChars
namespace StrChars
open Jvm Sem ClassFile Op Lib Jvm.Stand Jvm.Free.XT Jvm.Free.ALB Jvm.Free.JM Jvm.Free
open Jvm.Lib.Cold (StaticIs)
theorem shr1 {n : Nat} (h : 2 * n < 2 ^ 31) : Int32.ofNat (2 * n) >>> ((1 : Int32) &&& 31) = Int32.ofNat n := by
  have e : ((1 : Int32) &&& 31) = 1 := by decide
  rw [e]
  apply Int32.toBitVec_inj.mp
  rw [Int32.toBitVec_shiftRight]
  have e1 : ((1 : Int32).toBitVec.smod 32) = 1#32 := by decide
  have hm : (BitVec.ofNat 32 (2 * n)).toNat = 2 * n := by rw [BitVec.toNat_ofNat, Nat.mod_eq_of_lt (by omega)]
  rw [e1, BitVec.sshiftRight_eq']
  apply BitVec.eq_of_toNat_eq
  show ((BitVec.ofNat 32 (2 * n)).sshiftRight 1).toNat = (BitVec.ofNat 32 n).toNat
  rw [BitVec.toNat_sshiftRight_of_msb_false (by rw [BitVec.msb_eq_false_iff_two_mul_lt, hm]; omega), hm, BitVec.toNat_ofNat, Nat.shiftRight_eq_div_pow]
  omega
/-- charAt's cast of a byte read back -/
def chr8 (u : Int32) : Int32 := (u &&& 255).toUInt32.toUInt16.toUInt32.toInt32
theorem chr8_lo8 {c : Int32} (h0 : ¬ c < 0) (h1 : ¬ 255 < c) : chr8 (lo8 c) = c := by
  have t : ∀ k : Fin 256, (Int32.ofNat k.val).toUInt32.toUInt16.toUInt32.toInt32 = Int32.ofNat k.val := by decide +kernel
  unfold chr8
  rw [lo8_mask h0 h1]
  rw [Int32.lt_iff_toInt_lt] at h0 h1
  have e0 : (0 : Int32).toInt = 0 := rfl
  have e1 : (255 : Int32).toInt = 255 := rfl
  obtain ⟨k, hk⟩ : ∃ k : Nat, c.toInt = k := ⟨c.toInt.toNat, by omega⟩
  have hx : c = Int32.ofNat k := Int32.toInt_inj.mp (by rw [hk, Int32.toInt_ofNat_small (by omega)])
  rw [hx]
  exact t ⟨k, by omega⟩
theorem narrow_ch {c : Int32} (h0 : ¬ c < 0) (h1 : ¬ 65535 < c) : narrow .char (.int c) = .int c := by
  have q : narrow .char (.int (pairCh (lo8 c) (hi8 c))) = .int (pairCh (lo8 c) (hi8 c)) := narrow_c _
  rwa [pair_says h0 h1] at q
/-- the array's cell V codes the n chars f 0 .. f (n - 1) by the coder cd, as the JDK does: coder 1 just where some char is above 255 -/
def Cod (cd : Int32) (n : Nat) (f : Nat → Int32) (V : Cell) : Prop := (cd = 0 ∧ V.slots.size = n ∧ ∀ j, j < n → V.slots[j]? = some (.int (lo8 (f j))) ∧ ¬ 255 < f j) ∨ (cd = 1 ∧ V.slots.size = 2 * n ∧ (∀ j, j < n → V.slots[2 * j]? = some (.int (lo8 (f j))) ∧ V.slots[2 * j + 1]? = some (.int (hi8 (f j)))) ∧ ∃ j, j < n ∧ 255 < f j)
theorem Cod.cd {cd : Int32} {n : Nat} {f : Nat → Int32} {V : Cell} (h : Cod cd n f V) : cd = 0 ∨ cd = 1 := h.imp (fun q => q.1) fun q => q.1
theorem Cod.len {cd : Int32} {n : Nat} {f : Nat → Int32} {V : Cell} (h : Cod cd n f V) (hs : V.slots.size < 2 ^ 31) : Int32.ofNat V.slots.size >>> (cd &&& 31) = Int32.ofNat n := by
  rcases h with ⟨rfl, h, -⟩ | ⟨rfl, h, -⟩
  · rw [shr0, h]
  · rw [h, shr1 (by omega)]
/-- **x is a String of the n chars f 0 .. f (n - 1)**, Latin-1 or UTF-16; its array at t has the cell V -/
def Txt (x t : Addr) (V : Cell) (cd : Int32) (n : Nat) (f : Nat → Int32) (U : State) : Prop := Exact "java/lang/String" x U ∧ Has x "java/lang/String" "value" "[B" (.ref t) U ∧ Has x "java/lang/String" "coder" "B" (.int cd) U ∧ XT.Arr .byte t V U ∧ Cod cd n f V ∧ ∀ j, j < n → ¬ f j < 0 ∧ ¬ 65535 < f j
theorem Txt.mv {x t : Addr} {V : Cell} {cd : Int32} {n : Nat} {f : Nat → Int32} {U U' : State} (h : Txt x t V cd n f U) (hal : U.vm.Alike U'.vm) (hh : U'.heap = U.heap) : Txt x t V cd n f U' := ⟨h.1.mv hal hh, h.2.1.mv hal hh, h.2.2.1.mv hal hh, h.2.2.2.1.mv hal hh, h.2.2.2.2⟩
namespace Cdr
def yN : MethodName := ⟨"java/lang/String", "coder", "()B"⟩
abbrev yB : ByteArray := jdk_42_method_152_code
theorem d0 : decode yB 0 = .ok (.getstatic 38, 3) := by decide +kernel
theorem d3 : decode yB 3 = .ok (.ifCond (.eq) 10, 3) := by decide +kernel
theorem d6 : decode yB 6 = .ok (.aload_n 0, 1) := by decide +kernel
theorem d7 : decode yB 7 = .ok (.getfield 15, 3) := by decide +kernel
theorem d10 : decode yB 10 = .ok (.goto 4, 3) := by decide +kernel
theorem d14 : decode yB 14 = .ok (.ireturn, 1) := by decide +kernel
def site : List Cond := [.fieldLink "java/lang/String" 38 "java/lang/String" "COMPACT_STRINGS" "Z", .fieldLink "java/lang/String" 15 "java/lang/String" "coder" "B"]
def tab : Cond := tabOf yN yB 1 (some .byte) site
def P (x : Addr) (cd z : Int32) (args : Array Value) (s : State) : Prop := args = #[.ref x] ∧ Has x "java/lang/String" "coder" "B" (.int cd) s ∧ (cd = 0 ∨ cd = 1) ∧ StaticIs s "java/lang/String" "COMPACT_STRINGS" "Z" (.int z) ∧ ¬ z = 0
def E (cd : Int32) (r : Option Value) (s u : State) : Prop := XT.PureE (some (.int cd)) r s u
theorem law (l : Launch) (x : Addr) (cd z : Int32) : Law l yN 1 0 0 0 yB 1 (some .byte) site (P x cd z) (E cd) [] 0 0 := by
  refine Law.of_walk (plainFor_of_name (by decide +kernel)) (by decide +kernel) (by decide +kernel) (by decide) (fun _ _ h => by rw [h.1]; rfl) (fun _ U U' hal hh h => ⟨h.1, h.2.1.mv hal hh, h.2.2.1, h.2.2.2.1.there hal hh, h.2.2.2.2⟩) (fun r U U' V V' h1 hal h2 h => XT.PureE.mv r U U' V V' h1 hal h2 h) ?_
  intro p e s m args below meth c s₁ X0 hexec hbytes hml hret hlk hnm hown hh0 W hP
  obtain ⟨rfl, hx, hc, s1, hz⟩ := hP
  have c1 : Steps p.tables e below (s₁.setTop (entryFrame m #[.ref x] 1)) (s₁.setTop (mkF m 0 #[.val (.ref x)] [])) := entry rfl
  obtain ⟨T2, X2, q2, st2⟩ := X0.sget hexec hown (wk W (.fieldLink "java/lang/String" 38 "java/lang/String" "COMPACT_STRINGS" "Z")) s1 (fun _ _ h => by rw [hh0]; exact h) (g := (mkF m 0 #[.val (.ref x)] [])) rfl (hb hbytes d0)
  have hh2 := q2.trans hh0
  have c3 : Steps p.tables e below (s₁.setTop (entryFrame m #[.ref x] 1)) (T2.setTop (mkF m 7 #[.val (.ref x)] [.ref x])) := (c1.trans (st2 _ (Steps.refl _))).trans (by
    refine XS.ifNo X2.here hexec rfl (hb hbytes d3) rfl (i0_eq_f hz) ?_
    refine XS.aloadN X2.here hexec rfl (hb hbytes d6) rfl rfl ?_
    exact Steps.refl _)
  obtain ⟨T4, X4, q4, st4⟩ := X2.hget hexec hown (wk W (.fieldLink "java/lang/String" 15 "java/lang/String" "coder" "B")) (hx.mv X2.warmed.alike hh2) (g := (mkF m 7 #[.val (.ref x)] [.ref x])) rfl (rest := []) rfl (hb hbytes d7)
  have c5 : Steps p.tables e below (s₁.setTop (entryFrame m #[.ref x] 1)) (T4.setTop (mkF m 14 #[.val (.ref x)] [.int cd])) := (c3.trans (st4 _ (Steps.refl _))).trans (by
    refine XS.goto X4.here hexec rfl (pc0 := 10) rfl (hb hbytes d10) (by decide) rfl ?_
    exact Steps.refl _)
  exact ⟨T4, some (.int cd), _, _, _, X4, rfl, rfl, rfl, (fun h => by cases h), ⟨rfl, q4.trans hh2⟩, fun fs hl => c5.trans (X4.ireturnOut hexec hret (by rcases hc with rfl | rfl <;> rfl) (Or.inr (Or.inr (Or.inl rfl))) (hb hbytes d14) hl)⟩
end Cdr
namespace Len
def yN : MethodName := ⟨"java/lang/String", "length", "()I"⟩
abbrev yB : ByteArray := jdk_42_method_54_code
theorem d0 : decode yB 0 = .ok (.aload_n 0, 1) := by decide +kernel
theorem d1 : decode yB 1 = .ok (.getfield 9, 3) := by decide +kernel
theorem d4 : decode yB 4 = .ok (.arraylength, 1) := by decide +kernel
theorem d5 : decode yB 5 = .ok (.aload_n 0, 1) := by decide +kernel
theorem d6 : decode yB 6 = .ok (.invokevirtual 335, 3) := by decide +kernel
theorem d9 : decode yB 9 = .ok (.ishr, 1) := by decide +kernel
theorem d10 : decode yB 10 = .ok (.ireturn, 1) := by decide +kernel
def site : List Cond := [.fieldLink "java/lang/String" 9 "java/lang/String" "value" "[B", Cdr.tab] ++ virtW "java/lang/String" 335 "java/lang/String" Cdr.yN Cdr.yN
def tab : Cond := tabOf yN yB 1 (some .int) site
def P (x t : Addr) (V : Cell) (cd : Int32) (n : Nat) (f : Nat → Int32) (z : Int32) (args : Array Value) (s : State) : Prop := args = #[.ref x] ∧ Txt x t V cd n f s ∧ StaticIs s "java/lang/String" "COMPACT_STRINGS" "Z" (.int z) ∧ ¬ z = 0
def E (n : Nat) (r : Option Value) (s u : State) : Prop := XT.PureE (some (.int (Int32.ofNat n))) r s u
/-- length() of a String of n chars, in either coding -/
theorem law (l : Launch) (x t : Addr) (V : Cell) (cd : Int32) (n : Nat) (f : Nat → Int32) (z : Int32) : Law l yN 1 0 1 13 yB 1 (some .int) site (P x t V cd n f z) (E n) [] 0 0 := by
  refine Law.of_walk (plainFor_of_name (by decide +kernel)) (by decide +kernel) (by decide +kernel) (by decide) (fun _ _ h => by rw [h.1]; rfl) (fun _ U U' hal hh h => ⟨h.1, h.2.1.mv hal hh, h.2.2.1.there hal hh, h.2.2.2⟩) (fun r U U' V V' h1 hal h2 h => XT.PureE.mv r U U' V V' h1 hal h2 h) ?_
  intro p e s m args below meth c s₁ X0 hexec hbytes hml hret hlk hnm hown hh0 W hP
  obtain ⟨rfl, hx, s1, hz⟩ := hP
  have v31 := hx.2.2.2.1.2.2.2
  have c1 : Steps p.tables e below (s₁.setTop (entryFrame m #[.ref x] 1)) (s₁.setTop (mkF m 1 #[.val (.ref x)] [.ref x])) := Steps.trans (entry rfl) (by
    show Steps p.tables e below (s₁.setTop (mkF m 0 #[.val (.ref x)] [])) _
    refine XS.aloadN X0.here hexec rfl (hb hbytes d0) rfl rfl ?_
    exact Steps.refl _)
  obtain ⟨T2, X2, q2, st2⟩ := X0.hget hexec hown (wk W (.fieldLink "java/lang/String" 9 "java/lang/String" "value" "[B")) (hx.mv X0.warmed.alike hh0).2.1 (g := (mkF m 1 #[.val (.ref x)] [.ref x])) rfl (rest := []) rfl (hb hbytes d1)
  have hh2 := q2.trans hh0
  have hx2 := hx.mv X2.warmed.alike hh2
  have c3 : Steps p.tables e below (s₁.setTop (entryFrame m #[.ref x] 1)) (T2.setTop (mkF m 6 #[.val (.ref x)] [.ref x, .int (Int32.ofNat V.slots.size)])) := (c1.trans (st2 _ (Steps.refl _))).trans (by
    refine X2.alen hexec hx2.2.2.2.1 rfl rfl (hb hbytes d4) ?_
    refine XS.aloadN X2.here hexec rfl (hb hbytes d5) rfl rfl ?_
    exact Steps.refl _)
  obtain ⟨v4, T4, X4, E4, g4⟩ := X2.callV hexec (Cdr.law l x cd z) hown (wks W (virtW "java/lang/String" 335 "java/lang/String" Cdr.yN Cdr.yN)) rfl (by decide) (wk W Cdr.tab) (W := 1) (Nat.le_of_ble_eq_true rfl) (Nat.le_of_ble_eq_true rfl) (Nat.le_refl _) (Nat.le_refl _) (hx2.1.fc X2.warmed.alike) hx2.1.is (g := (mkF m 6 #[.val (.ref x)] [.ref x, .int (Int32.ofNat V.slots.size)])) rfl (by rw [hml]; rfl) c3 (argsL := []) (rest := [.int (Int32.ofNat V.slots.size)]) rfl rfl (by show 2 * 0 + (1 + 0) ≤ _; decide) (hb hbytes d6) (⟨rfl, hx2.2.2.1, hx.2.2.2.2.1.cd, s1.there X2.warmed.alike hh2, hz⟩)
  obtain ⟨rfl, q4⟩ := E4
  have c5 : Steps p.tables e below (s₁.setTop (entryFrame m #[.ref x] 1)) (T4.setTop (mkF m 10 #[.val (.ref x)] [.int (Int32.ofNat V.slots.size >>> (cd &&& 31))])) := Steps.trans g4 (by
    refine ishr X4.here hexec rfl (hb hbytes d9) rfl ?_
    exact Steps.refl _)
  rw [hx.2.2.2.2.1.len v31] at c5
  exact ⟨T4, some (.int (Int32.ofNat n)), _, _, _, X4, rfl, rfl, rfl, (fun h => by cases h), ⟨rfl, q4.trans hh2⟩, fun fs hl => c5.trans (X4.ireturnOut hexec hret rfl (Or.inl rfl) (hb hbytes d10) hl)⟩
theorem pays {l : Launch} {R : Room} {p : Program} {e : Env} {below : List Frame} {s : State} {sargs : Array Value} {len W : Nat} (x t : Addr) (V : Cell) (cd : Int32) (n : Nat) (f : Nat → Int32) (z : Int32) (htab : tab.before sargs s = true) (hfr : 2 ≤ R.frames) (hlo : W + 25 ≤ R.locals) :
    Back l R p e below s sargs yN len W (fun A₁ a₁ => A₁.cells + 0 ≤ R.cells ∧ A₁.slots + 0 ≤ R.slots ∧ P x t V cd n f z a₁ A₁.U) (fun A₁ _ v₁ B₁ => E n v₁ A₁.U B₁.U ∧ B₁.locs = A₁.locs ++ [] ∧ B₁.cells = A₁.cells + 0 ∧ B₁.slots = A₁.slots + 0) :=
  (law l x t V cd n f z).pays htab hfr (by omega)
end Len
namespace IsL
def yN : MethodName := ⟨"java/lang/String", "isLatin1", "()Z"⟩
abbrev yB : ByteArray := jdk_42_method_154_code
theorem d0 : decode yB 0 = .ok (.getstatic 38, 3) := by decide +kernel
theorem d3 : decode yB 3 = .ok (.ifCond (.eq) 14, 3) := by decide +kernel
theorem d6 : decode yB 6 = .ok (.aload_n 0, 1) := by decide +kernel
theorem d7 : decode yB 7 = .ok (.getfield 15, 3) := by decide +kernel
theorem d10 : decode yB 10 = .ok (.ifCond (.ne) 7, 3) := by decide +kernel
theorem d13 : decode yB 13 = .ok (.iconst 1, 1) := by decide +kernel
theorem d14 : decode yB 14 = .ok (.goto 4, 3) := by decide +kernel
theorem d17 : decode yB 17 = .ok (.iconst 0, 1) := by decide +kernel
theorem d18 : decode yB 18 = .ok (.ireturn, 1) := by decide +kernel
def site : List Cond := [.fieldLink "java/lang/String" 38 "java/lang/String" "COMPACT_STRINGS" "Z", .fieldLink "java/lang/String" 15 "java/lang/String" "coder" "B"]
def tab : Cond := tabOf yN yB 1 (some .boolean) site
def P (x : Addr) (cd z : Int32) (args : Array Value) (s : State) : Prop := args = #[.ref x] ∧ Has x "java/lang/String" "coder" "B" (.int cd) s ∧ (cd = 0 ∨ cd = 1) ∧ StaticIs s "java/lang/String" "COMPACT_STRINGS" "Z" (.int z) ∧ ¬ z = 0
def E (cd : Int32) (r : Option Value) (s u : State) : Prop := XT.PureE (some (.int (1 - cd))) r s u
theorem law (l : Launch) (x : Addr) (cd z : Int32) : Law l yN 1 0 0 0 yB 1 (some .boolean) site (P x cd z) (E cd) [] 0 0 := by
  refine Law.of_walk (plainFor_of_name (by decide +kernel)) (by decide +kernel) (by decide +kernel) (by decide) (fun _ _ h => by rw [h.1]; rfl) (fun _ U U' hal hh h => ⟨h.1, h.2.1.mv hal hh, h.2.2.1, h.2.2.2.1.there hal hh, h.2.2.2.2⟩) (fun r U U' V V' h1 hal h2 h => XT.PureE.mv r U U' V V' h1 hal h2 h) ?_
  intro p e s m args below meth c s₁ X0 hexec hbytes hml hret hlk hnm hown hh0 W hP
  obtain ⟨rfl, hx, hc, s1, hz⟩ := hP
  have c1 : Steps p.tables e below (s₁.setTop (entryFrame m #[.ref x] 1)) (s₁.setTop (mkF m 0 #[.val (.ref x)] [])) := entry rfl
  obtain ⟨T2, X2, q2, st2⟩ := X0.sget hexec hown (wk W (.fieldLink "java/lang/String" 38 "java/lang/String" "COMPACT_STRINGS" "Z")) s1 (fun _ _ h => by rw [hh0]; exact h) (g := (mkF m 0 #[.val (.ref x)] [])) rfl (hb hbytes d0)
  have hh2 := q2.trans hh0
  have c3 : Steps p.tables e below (s₁.setTop (entryFrame m #[.ref x] 1)) (T2.setTop (mkF m 7 #[.val (.ref x)] [.ref x])) := (c1.trans (st2 _ (Steps.refl _))).trans (by
    refine XS.ifNo X2.here hexec rfl (hb hbytes d3) rfl (i0_eq_f hz) ?_
    refine XS.aloadN X2.here hexec rfl (hb hbytes d6) rfl rfl ?_
    exact Steps.refl _)
  obtain ⟨T4, X4, q4, st4⟩ := X2.hget hexec hown (wk W (.fieldLink "java/lang/String" 15 "java/lang/String" "coder" "B")) (hx.mv X2.warmed.alike hh2) (g := (mkF m 7 #[.val (.ref x)] [.ref x])) rfl (rest := []) rfl (hb hbytes d7)
  have c5 : Steps p.tables e below (s₁.setTop (entryFrame m #[.ref x] 1)) (T4.setTop (mkF m 10 #[.val (.ref x)] [.int cd])) := c3.trans (st4 _ (Steps.refl _))
  have c6 : Steps p.tables e below (s₁.setTop (entryFrame m #[.ref x] 1)) (T4.setTop (mkF m 18 #[.val (.ref x)] [.int (1 - cd)])) := by
    rcases hc with rfl | rfl
    · exact c5.trans (by
        refine XS.ifNo X4.here hexec rfl (hb hbytes d10) rfl (i0_ne_f rfl) ?_
        refine iconstV X4.here hexec rfl 1 (hb hbytes d13) (by decide) ?_
        refine XS.goto X4.here hexec rfl (pc0 := 14) rfl (hb hbytes d14) (by decide) rfl ?_
        exact Steps.refl _)
    · exact c5.trans (by
        refine XS.ifYes X4.here hexec rfl (pc0 := 10) rfl (hb hbytes d10) rfl (i0_ne_t (by decide)) (by decide) rfl ?_
        refine iconstV X4.here hexec rfl 0 (hb hbytes d17) (by decide) ?_
        exact Steps.refl _)
  exact ⟨T4, some (.int (1 - cd)), _, _, _, X4, rfl, rfl, rfl, (fun h => by cases h), ⟨rfl, q4.trans hh2⟩, fun fs hl => c6.trans (X4.ireturnOut hexec hret (by rcases hc with rfl | rfl <;> rfl) (Or.inr (Or.inl rfl)) (hb hbytes d18) hl)⟩
end IsL
namespace LChA
def yN : MethodName := ⟨"java/lang/StringLatin1", "charAt", "([BI)C"⟩
abbrev yB : ByteArray := jdk_43_method_2_code
theorem d0 : decode yB 0 = .ok (.iload_n 1, 1) := by decide +kernel
theorem d1 : decode yB 1 = .ok (.aload_n 0, 1) := by decide +kernel
theorem d2 : decode yB 2 = .ok (.arraylength, 1) := by decide +kernel
theorem d3 : decode yB 3 = .ok (.invokestatic 9, 3) := by decide +kernel
theorem d6 : decode yB 6 = .ok (.aload_n 0, 1) := by decide +kernel
theorem d7 : decode yB 7 = .ok (.iload_n 1, 1) := by decide +kernel
theorem d8 : decode yB 8 = .ok (.baload, 1) := by decide +kernel
theorem d9 : decode yB 9 = .ok (.sipush 255, 3) := by decide +kernel
theorem d12 : decode yB 12 = .ok (.iand, 1) := by decide +kernel
theorem d13 : decode yB 13 = .ok (.i2c, 1) := by decide +kernel
theorem d14 : decode yB 14 = .ok (.ireturn, 1) := by decide +kernel
def site : List Cond := [JO.Str_checkIndex.tab] ++ staticW "java/lang/StringLatin1" 9 JO.Str_checkIndex.yN
def tab : Cond := tabOf yN yB 2 (some .char) site
def P (t : Addr) (V : Cell) (i : Nat) (u : Int32) (fm : Value) (args : Array Value) (s : State) : Prop := args = #[.ref t, .int (Int32.ofNat i)] ∧ XT.Arr .byte t V s ∧ V.slots[i]? = some (.int u) ∧ (StaticIs s "jdk/internal/util/Preconditions" "SIOOBE_FORMATTER" "Ljava/util/function/BiFunction;" fm ∧ fm.isRef = true)
def E (u : Int32) (r : Option Value) (s w : State) : Prop := XT.PureE (some (.int (chr8 u))) r s w
theorem law (l : Launch) (t : Addr) (V : Cell) (i : Nat) (u : Int32) (fm : Value) : Law l yN 2 2 2 27 yB 2 (some .char) site (P t V i u fm) (E u) [] 0 0 := by
  refine Law.of_walk (plainFor_of_name (by decide +kernel)) (by decide +kernel) (by decide +kernel) (by decide) (fun _ _ h => by rw [h.1]; rfl) (fun _ U U' hal hh h => ⟨h.1, h.2.1.mv hal hh, h.2.2.1, h.2.2.2.1.there hal hh, h.2.2.2.2⟩) (fun r U U' V V' h1 hal h2 h => XT.PureE.mv r U U' V V' h1 hal h2 h) ?_
  intro p e s m args below meth c s₁ X0 hexec hbytes hml hret hlk hnm hown hh0 W hP
  obtain ⟨rfl, hV, hu, s1, rf⟩ := hP
  have v31 := hV.2.2.2
  have hi : i < V.slots.size := (Array.getElem?_eq_some_iff.mp hu).1
  have c1 : Steps p.tables e below (s₁.setTop (entryFrame m #[.ref t, .int (Int32.ofNat i)] 2)) (s₁.setTop (mkF m 0 #[.val (.ref t), .val (.int (Int32.ofNat i))] [])) := entry rfl
  have c2 : Steps p.tables e below (s₁.setTop (entryFrame m #[.ref t, .int (Int32.ofNat i)] 2)) (s₁.setTop (mkF m 3 #[.val (.ref t), .val (.int (Int32.ofNat i))] [.int (Int32.ofNat V.slots.size), .int (Int32.ofNat i)])) := c1.trans (by
    refine XS.iloadN X0.here hexec rfl (hb hbytes d0) rfl ?_
    refine XS.aloadN X0.here hexec rfl (hb hbytes d1) rfl rfl ?_
    refine X0.alen hexec (hV.mv X0.warmed.alike hh0) rfl rfl (hb hbytes d2) ?_
    exact Steps.refl _)
  obtain ⟨v3, T3, X3, E3, g3⟩ := X0.callS hexec (JO.Str_checkIndex.law l (Int32.ofNat i) (Int32.ofNat V.slots.size) fm) hown (wks W (staticW "java/lang/StringLatin1" 9 JO.Str_checkIndex.yN)) (wk W JO.Str_checkIndex.tab) (W := 0) (Nat.le_of_ble_eq_true rfl) (Nat.le_of_ble_eq_true rfl) (Nat.le_refl _) (Nat.le_refl _) (g := (mkF m 3 #[.val (.ref t), .val (.int (Int32.ofNat i))] [.int (Int32.ofNat V.slots.size), .int (Int32.ofNat i)])) rfl (by rw [hml]; rfl) c2 (argsL := [.int (Int32.ofNat i), .int (Int32.ofNat V.slots.size)]) (rest := []) rfl rfl (by show 2 * 0 + 0 ≤ _; decide) (hb hbytes d3) (⟨rfl, rf, s1.there X0.warmed.alike hh0, Int32.ofNat_not_neg (by omega), lt32 v31 hi⟩)
  obtain ⟨rfl, q3⟩ := E3
  have hh3 := q3.trans hh0
  have c4 : Steps p.tables e below (s₁.setTop (entryFrame m #[.ref t, .int (Int32.ofNat i)] 2)) (T3.setTop (mkF m 14 #[.val (.ref t), .val (.int (Int32.ofNat i))] [.int (chr8 u)])) := Steps.trans g3 (by
    refine XS.aloadN X3.here hexec rfl (hb hbytes d6) rfl rfl ?_
    refine XS.iloadN X3.here hexec rfl (hb hbytes d7) rfl ?_
    refine X3.aget hexec (hV.mv X3.warmed.alike hh3) rfl hu rfl rfl (hb hbytes d8) ?_
    refine sipushV X3.here hexec rfl 255 (hb hbytes d9) (by decide) ?_
    refine XS.iand X3.here hexec rfl (hb hbytes d12) rfl ?_
    refine i2c X3.here hexec rfl (hb hbytes d13) rfl ?_
    exact Steps.refl _)
  exact ⟨T3, some (.int (chr8 u)), _, _, _, X3, rfl, rfl, rfl, (fun h => by cases h), ⟨rfl, hh3⟩, fun fs hl => c4.trans (X3.ireturnOut hexec hret (narrow_c _) (Or.inr (Or.inr (Or.inr (Or.inl rfl)))) (hb hbytes d14) hl)⟩
end LChA
end StrChars
namespace StrChars.Road
open Jvm Sem ClassFile Op Lib Jvm.Stand Jvm.Free Jvm.Free.XT
open Jvm.Lib.Cold (StaticIs)
theorem consq {a : Array Value} {s : State} {c : Jvm.Cond} {L : List Jvm.Cond} (h0 : c.before a s = true) (h : ∀ w ∈ L, w.before a s = true) : ∀ w ∈ c :: L, w.before a s = true := fun w hw => (List.mem_cons.mp hw).elim (fun e => e ▸ h0) (h w)
/-- the words of String.length(), either coding -/
abbrev wordsLen : List Jvm.Cond := [.code Len.yN Len.yB 1 (some .int), .initialized ST, .fieldLink ST 9 ST "value" "[B", .fieldLink ST 38 ST "COMPACT_STRINGS" "Z", .fieldLink ST 15 ST "coder" "B", .code Cdr.yN Cdr.yB 1 (some .byte), .methodLink ST 335 Cdr.yN, .declares Cdr.yN, .selects ST Cdr.yN Cdr.yN, .instanceMethod Cdr.yN]
theorem tabLen_of {a : Array Value} {s : State} (h : ∀ w ∈ wordsLen, w.before a s = true) : Len.tab.before a s = true := by
  have hc : Cdr.tab.before a s = true := unparts (wk h (.code Cdr.yN Cdr.yB 1 (some .byte))) (wks h (.initialized Cdr.yN.cls :: Cdr.site))
  have q := consq hc h
  exact unparts (wk q (.code Len.yN Len.yB 1 (some .int))) (wks q (.initialized Len.yN.cls :: Len.site))
theorem movedLen {Z s : State} {a0 args : Array Value} (hZ : Z.Warmed39 s.vm) (hw : ∀ d ∈ wordsLen, d.before a0 Z = true) : ∀ d ∈ wordsLen, d.before args s = true := fun d hd => by
  have q := hw d hd
  have t : ∀ d ∈ wordsLen, d = .arrayClass .byte ∨ (d.onTables && d.keepsFace) = true := by decide +kernel
  rcases t d hd with rfl | t
  · exact RoadKit.mvA hZ q
  · exact RoadKit.mv hZ q t
/-- the bytes of the chars cs, low before high -/
def wideBytes : List Int32 → List Value
  | [] => []
  | c :: cs => .int (lo8 c) :: .int (hi8 c) :: wideBytes cs
theorem wide_lo (d : Value) : ∀ (cs : List Int32) (j : Nat), j < cs.length → (wideBytes cs).getD (2 * j) d = .int (lo8 (cs.getD j 0))
  | [], j, h => absurd h (Nat.not_lt_zero j)
  | c :: cs, 0, _ => rfl
  | c :: cs, j + 1, h => by
    have q := wide_lo d cs j (by simpa using h)
    rw [show 2 * (j + 1) = 2 * j + 1 + 1 from by omega]
    simpa [wideBytes] using q
theorem wide_hi (d : Value) : ∀ (cs : List Int32) (j : Nat), j < cs.length → (wideBytes cs).getD (2 * j + 1) d = .int (hi8 (cs.getD j 0))
  | [], j, h => absurd h (Nat.not_lt_zero j)
  | c :: cs, 0, _ => rfl
  | c :: cs, j + 1, h => by
    have q := wide_hi d cs j (by simpa using h)
    rw [show 2 * (j + 1) + 1 = 2 * j + 1 + 1 + 1 from by omega]
    simpa [wideBytes] using q
theorem low_at (d : Value) (cs : List Int32) (j : Nat) (h : j < cs.length) : (cs.map fun c => Value.int (lo8 c)).getD j d = .int (lo8 (cs.getD j 0)) := by
  simp [List.getD_eq_getElem?_getD, h]
/-- an array of N2 bytes vs codes the chars cs by the coder cd -/
def CodA (cs : List Int32) (cd N2 : Int32) (vs : List Value) : Prop := (cd = 0 ∧ N2 = Int32.ofNat cs.length ∧ vs = (cs.map fun c => Value.int (lo8 c)) ∧ ∀ c ∈ cs, ¬ 255 < c) ∨ (cd = 1 ∧ N2 = Int32.ofNat (2 * cs.length) ∧ vs = wideBytes cs ∧ ∃ c ∈ cs, 255 < c)
theorem CodA.cod {cs : List Int32} {cd N2 : Int32} {vs : List Value} {V : Cell} (h : CodA cs cd N2 vs) (hn : 2 * cs.length < 2 ^ 31) (hs : V.slots.size = N2.toNatClampNeg) (hv : RoadKit.Has V vs (.int 0)) : Cod cd cs.length (fun j => cs.getD j 0) V := by
  rcases h with ⟨rfl, rfl, rfl, h⟩ | ⟨rfl, rfl, rfl, c, hc, hw⟩
  · rw [n32 (by omega)] at hs
    exact Or.inl ⟨rfl, hs, fun j hj => ⟨by rw [hv j (by omega), low_at _ _ _ hj], by
      have e : cs.getD j 0 = cs[j] := by simp [List.getD_eq_getElem?_getD, hj]
      show ¬ 255 < cs.getD j 0
      rw [e]; exact h _ (List.getElem_mem _)⟩⟩
  · rw [n32 (by omega)] at hs
    obtain ⟨j, hj, rfl⟩ := List.getElem_of_mem hc
    exact Or.inr ⟨rfl, hs, fun j hj => ⟨by rw [hv _ (by omega), wide_lo _ _ _ hj], by rw [hv _ (by omega), wide_hi _ _ _ hj]⟩, j, hj, by
      have e : cs.getD j 0 = cs[j] := by simp [List.getD_eq_getElem?_getD, hj]
      show 255 < cs.getD j 0
      rw [e]; exact hw⟩
/-- an object of exactly java/lang/String, its two fields found: as the laws ask it -/
theorem strObj {Z U : State} {a0 : Array Value} {kI : Nat} (wi : (Jvm.Cond.instantiable ST kI).before a0 Z = true) (al : Z.vm.Alike U.vm) {x : Addr} {v0 c0 : Value} (E : RoadKit.Exa Z U.heap x ST) (V : RoadKit.Fld Z U.heap x ST "value" "[B" v0) (C : RoadKit.Fld Z U.heap x ST "coder" "B" c0) :
    ∃ (D : Cell) (fV fC : Field), Blank ST x D U ∧ Found ST "value" "[B" fV U ∧ Found ST "coder" "B" fC U ∧ D.slots[fV.slot]? = some v0 ∧ D.slots[fC.slot]? = some c0 ∧ RoadKit.slotOf Z ST "value" "[B" = fV.slot ∧ RoadKit.slotOf Z ST "coder" "B" = fC.slot := by
  obtain ⟨D, cfV, kV, iV, fV, hD, gV, stV, knV, obV, asV, slV⟩ := V
  obtain ⟨D', cfC, kC, iC, fC, hD', gC, stC, -, -, asC, slC⟩ := C
  cases hD.symm.trans hD'
  obtain ⟨D2, kD, e1, e2, e3, e4, e5⟩ := E
  cases hD.symm.trans e1
  obtain ⟨c2, k2, i1, i2, i3, -⟩ := Cond.instantiable_spec wi
  cases e2.symm.trans i1
  cases e3.symm.trans i2
  obtain ⟨kU, u1, u2⟩ := al.2.2 _ _ e3
  exact ⟨D, fV, fC, ⟨hD, ⟨knV, fun q hq => by rw [hq] at obV; cases obV⟩, by rw [al.findClass]; exact e2, kU, u1, by rw [u2]; exact i3, by rw [u2]; exact e5 i3⟩, ⟨SBG.found_only al ⟨cfV, kV, iV, gV⟩, stV⟩, ⟨SBG.found_only al ⟨cfC, kC, iC, gC⟩, stC⟩, slV, slC, by simp [RoadKit.slotOf, gV], by simp [RoadKit.slotOf, gC]⟩
theorem sta_is {Z U : State} (al : Z.vm.Alike U.vm) {C n d : String} {v : Value} (S : RoadKit.Sta Z U.heap C n d v) : StaticIs U C n d v := by
  obtain ⟨cfS, iS, kS, fS, st, cS, t1, t2, t3, t4, t5, t6, t7⟩ := S
  exact StaticIs.there (s := { Z with heap := U.heap }) ⟨cfS, iS, kS, fS, st, cS, t1, t2, t3, t4, t5, (fun q => by rw [q] at t6; cases t6), t7⟩ al rfl
/-- **length() OF SUCH A STRING** -/
theorem lenW {p : Program} {l : Launch} {e : Env} {R : Room} {s : State} {args : Array Value} {below : List Frame} {len W : Nat} {Z : State} {a0 : Array Value} {h : Heap} (hZ : Z.Warmed39 s.vm) (hw : ∀ d ∈ wordsLen, d.before a0 Z = true) {kI : Nat} (wi : (Jvm.Cond.instantiable ST kI).before a0 Z = true)
    {x t : Addr} {kb : ClassId} {cs : List Int32} {cd N2 z : Int32} {vs : List Value} (E : RoadKit.Exa Z h x ST) (V : RoadKit.Fld Z h x ST "value" "[B" (.ref t)) (C : RoadKit.Fld Z h x ST "coder" "B" (.int cd)) (K : RoadKit.Arv Z h t kb .byte N2 vs (.int 0)) (hc : CodA cs cd N2 vs) (hb : ∀ c ∈ cs, ¬ c < 0 ∧ ¬ (65535 : Int32) < c)
    (S : RoadKit.Sta Z h ST "COMPACT_STRINGS" "Z" (.int z)) (hz : ¬ z = 0) (l2 : cs.length ≤ 4000) (hfr : 2 ≤ R.frames) (hlo : W + 25 ≤ R.locals) :
    Back l R p e below s args (⟨"java/lang/String", "length", "()I"⟩ : MethodName) len W (fun P a => a = #[.ref x] ∧ P.U.heap = h ∧ P.cells + 0 ≤ R.cells ∧ P.slots + 0 ≤ R.slots)
      (fun P _ v B => ∃ L, (v = some (.int (Int32.ofNat cs.length)) ∧ L = [] ∧ B.U.heap = h) ∧ B.locs = P.locs ++ L ∧ B.cells = P.cells + 0 ∧ B.slots = P.slots + 0) := by
  obtain ⟨A, K1, K2, K3, K4, K5, K6⟩ := K
  have hcod := hc.cod (by omega) K3 K5
  intro m meth c P g ig mk a X hg hsize hdg hW hn hp'
  obtain ⟨rfl, rfl, r1, r2⟩ := hp'
  have al : Z.vm.Alike P.U.vm := hZ.alike.trans X.warmed.alike
  obtain ⟨D, fV, fC, hB, F1, F2, g1, g2, -, -⟩ := strObj wi al E V C
  have hx : Txt x t A cd cs.length (fun j => cs.getD j 0) P.U := ⟨⟨_, hB.2.2.1, D, hB.1, rfl, by cases q : D.vm <;> first | rfl | exact absurd q (hB.2.1.2 _)⟩, Has.of hB F1 g1, Has.of hB F2 g2, ⟨K1.1, State.isArrayOf_alike al K1.2.1, K1.2.2, by rcases hcod with ⟨-, q, -⟩ | ⟨-, q, -⟩ <;> omega⟩, hcod, fun j hj => by
    have e : cs.getD j 0 = cs[j] := by simp [List.getD_eq_getElem?_getD, hj]
    show ¬ cs.getD j 0 < 0 ∧ ¬ 65535 < cs.getD j 0
    rw [e]; exact hb _ (List.getElem_mem _)⟩
  obtain ⟨v, B, X', ⟨⟨hv, hh⟩, hl, hk, hs⟩, st⟩ := Len.pays x t A cd cs.length (fun j => cs.getD j 0) z (tabLen_of (movedLen hZ hw)) hfr hlo m meth c P g ig mk _ X hg hsize hdg hW hn ⟨r1, r2, rfl, hx, sta_is al S, hz⟩
  exact ⟨v, B, X', ⟨[], ⟨hv, rfl, hh⟩, hl, hk, hs⟩, st⟩
end StrChars.Road
namespace StrChars.Road
open Jvm Sem ClassFile Op Lib Jvm.Stand Jvm.Free Jvm.Free.XT
open Jvm.Lib.Cold (StaticIs)
/-- the road's facts of a String, as the laws ask it -/
theorem txt_of {Z U : State} {a0 : Array Value} {kI : Nat} (wi : (Jvm.Cond.instantiable ST kI).before a0 Z = true) (al : Z.vm.Alike U.vm) {x t : Addr} {kb : ClassId} {cs : List Int32} {cd N2 : Int32} {vs : List Value} (E : RoadKit.Exa Z U.heap x ST) (V : RoadKit.Fld Z U.heap x ST "value" "[B" (.ref t)) (C : RoadKit.Fld Z U.heap x ST "coder" "B" (.int cd)) (K : RoadKit.Arv Z U.heap t kb .byte N2 vs (.int 0)) (hc : CodA cs cd N2 vs) (hb : ∀ c ∈ cs, ¬ c < 0 ∧ ¬ (65535 : Int32) < c) (l2 : cs.length ≤ 4000) :
    ∃ A, Txt x t A cd cs.length (fun j => cs.getD j 0) U := by
  obtain ⟨A, K1, K2, K3, K4, K5, K6⟩ := K
  have hcod := hc.cod (by omega) K3 K5
  obtain ⟨D, fV, fC, hB, F1, F2, g1, g2, -, -⟩ := strObj wi al E V C
  exact ⟨A, ⟨_, hB.2.2.1, D, hB.1, rfl, by cases q : D.vm <;> first | rfl | exact absurd q (hB.2.1.2 _)⟩, Has.of hB F1 g1, Has.of hB F2 g2, ⟨K1.1, State.isArrayOf_alike al K1.2.1, K1.2.2, by rcases hcod with ⟨-, q, -⟩ | ⟨-, q, -⟩ <;> omega⟩, hcod, fun j hj => by
    have e : cs.getD j 0 = cs[j] := by simp [List.getD_eq_getElem?_getD, hj]
    show ¬ cs.getD j 0 < 0 ∧ ¬ 65535 < cs.getD j 0
    rw [e]; exact hb _ (List.getElem_mem _)⟩
end StrChars.Road
namespace StrChars
open Jvm Sem ClassFile Op Lib Jvm.Stand Jvm.Free.XT Jvm.Free.ALB Jvm.Free.JM Jvm.Free
open Jvm.Lib.Cold (StaticIs)
namespace ChN
def yN : MethodName := ⟨"java/lang/String", "charAt", "(I)C"⟩
abbrev yB : ByteArray := jdk_42_method_56_code
theorem d0 : decode yB 0 = .ok (.aload_n 0, 1) := by decide +kernel
theorem d1 : decode yB 1 = .ok (.invokevirtual 492, 3) := by decide +kernel
theorem d4 : decode yB 4 = .ok (.ifCond (.eq) 12, 3) := by decide +kernel
theorem d7 : decode yB 7 = .ok (.aload_n 0, 1) := by decide +kernel
theorem d8 : decode yB 8 = .ok (.getfield 9, 3) := by decide +kernel
theorem d11 : decode yB 11 = .ok (.iload_n 1, 1) := by decide +kernel
theorem d12 : decode yB 12 = .ok (.invokestatic 495, 3) := by decide +kernel
theorem d15 : decode yB 15 = .ok (.ireturn, 1) := by decide +kernel
def site : List Cond := [.fieldLink "java/lang/String" 9 "java/lang/String" "value" "[B", IsL.tab, LChA.tab] ++ virtW "java/lang/String" 492 "java/lang/String" IsL.yN IsL.yN ++ staticW "java/lang/String" 495 LChA.yN
def tab : Cond := tabOf yN yB 2 (some .char) site
def P (x t : Addr) (V : Cell) (n : Nat) (f : Nat → Int32) (z : Int32) (fm : Value) (i : Nat) (args : Array Value) (s : State) : Prop := args = #[.ref x, .int (Int32.ofNat i)] ∧ Txt x t V 0 n f s ∧ i < n ∧ StaticIs s "java/lang/String" "COMPACT_STRINGS" "Z" (.int z) ∧ ¬ z = 0 ∧ StaticIs s "jdk/internal/util/Preconditions" "SIOOBE_FORMATTER" "Ljava/util/function/BiFunction;" fm ∧ fm.isRef = true
def E (f : Nat → Int32) (i : Nat) (r : Option Value) (s u : State) : Prop := XT.PureE (some (.int (f i))) r s u
/-- charAt(i) of a Latin-1 String of n chars, i < n: f i -/
theorem law (l : Launch) (x t : Addr) (V : Cell) (n : Nat) (f : Nat → Int32) (z : Int32) (fm : Value) (i : Nat) : Law l yN 2 1 3 40 yB 2 (some .char) site (P x t V n f z fm i) (E f i) [] 0 0 := by
  refine Law.of_walk (plainFor_of_name (by decide +kernel)) (by decide +kernel) (by decide +kernel) (by decide) (fun _ _ h => by rw [h.1]; rfl) (fun _ U U' hal hh h => ⟨h.1, h.2.1.mv hal hh, h.2.2.1, h.2.2.2.1.there hal hh, h.2.2.2.2.1, h.2.2.2.2.2.1.there hal hh, h.2.2.2.2.2.2⟩) (fun r U U' V V' h1 hal h2 h => XT.PureE.mv r U U' V V' h1 hal h2 h) ?_
  intro p e s m args below meth c s₁ X0 hexec hbytes hml hret hlk hnm hown hh0 W hP
  obtain ⟨rfl, hx, hi, s1, hz, s3, rf⟩ := hP
  have v31 := hx.2.2.2.1.2.2.2
  have hr := hx.2.2.2.2.2 i hi
  have hx0 := hx.mv X0.warmed.alike hh0
  have c1 : Steps p.tables e below (s₁.setTop (entryFrame m #[.ref x, .int (Int32.ofNat i)] 2)) (s₁.setTop (mkF m 1 #[.val (.ref x), .val (.int (Int32.ofNat i))] [.ref x])) := Steps.trans (entry rfl) (by
    show Steps p.tables e below (s₁.setTop (mkF m 0 #[.val (.ref x), .val (.int (Int32.ofNat i))] [])) _
    refine XS.aloadN X0.here hexec rfl (hb hbytes d0) rfl rfl ?_
    exact Steps.refl _)
  obtain ⟨v2, T2, X2, E2, g2⟩ := X0.callV hexec (IsL.law l x 0 z) hown (wks W (virtW "java/lang/String" 492 "java/lang/String" IsL.yN IsL.yN)) rfl (by decide) (wk W IsL.tab) (W := 0) (Nat.le_of_ble_eq_true rfl) (Nat.le_of_ble_eq_true rfl) (Nat.le_refl _) (Nat.le_refl _) (hx0.1.fc X0.warmed.alike) hx0.1.is (g := (mkF m 1 #[.val (.ref x), .val (.int (Int32.ofNat i))] [.ref x])) rfl (by rw [hml]; rfl) c1 (argsL := []) (rest := []) rfl rfl (by show 2 * 0 + 0 ≤ _; decide) (hb hbytes d1) (⟨rfl, hx0.2.2.1, hx.2.2.2.2.1.cd, s1.there X0.warmed.alike hh0, hz⟩)
  obtain ⟨rfl, q2⟩ := E2
  have hh2 := q2.trans hh0
  have hx2 := hx.mv X2.warmed.alike hh2
  obtain ⟨-, k1, k2⟩ | ⟨k0, -⟩ := hx.2.2.2.2.1
  · have c3 : Steps p.tables e below (s₁.setTop (entryFrame m #[.ref x, .int (Int32.ofNat i)] 2)) (T2.setTop (mkF m 8 #[.val (.ref x), .val (.int (Int32.ofNat i))] [.ref x])) := Steps.trans g2 (by
      refine XS.ifNo X2.here hexec rfl (hb hbytes d4) rfl (i0_eq_f (by decide)) ?_
      refine XS.aloadN X2.here hexec rfl (hb hbytes d7) rfl rfl ?_
      exact Steps.refl _)
    obtain ⟨T4, X4, q4, st4⟩ := X2.hget hexec hown (wk W (.fieldLink "java/lang/String" 9 "java/lang/String" "value" "[B")) hx2.2.1 (g := (mkF m 8 #[.val (.ref x), .val (.int (Int32.ofNat i))] [.ref x])) rfl (rest := []) rfl (hb hbytes d8)
    have hh4 := q4.trans hh2
    have c5 : Steps p.tables e below (s₁.setTop (entryFrame m #[.ref x, .int (Int32.ofNat i)] 2)) (T4.setTop (mkF m 12 #[.val (.ref x), .val (.int (Int32.ofNat i))] [.int (Int32.ofNat i), .ref t])) := (c3.trans (st4 _ (Steps.refl _))).trans (by
      refine XS.iloadN X4.here hexec rfl (hb hbytes d11) rfl ?_
      exact Steps.refl _)
    obtain ⟨v6, T6, X6, E6, g6⟩ := X4.callS hexec (LChA.law l t V i (lo8 (f i)) fm) hown (wks W (staticW "java/lang/String" 495 LChA.yN)) (wk W LChA.tab) (W := 0) (Nat.le_of_ble_eq_true rfl) (Nat.le_of_ble_eq_true rfl) (Nat.le_refl _) (Nat.le_refl _) (g := (mkF m 12 #[.val (.ref x), .val (.int (Int32.ofNat i))] [.int (Int32.ofNat i), .ref t])) rfl (by rw [hml]; rfl) c5 (argsL := [.ref t, .int (Int32.ofNat i)]) (rest := []) rfl rfl (by show 2 * 0 + 0 ≤ _; decide) (hb hbytes d12) (⟨rfl, hx.2.2.2.1.mv X4.warmed.alike hh4, (k2 i hi).1, s3.there X4.warmed.alike hh4, rf⟩)
    obtain ⟨rfl, q6⟩ := E6
    rw [chr8_lo8 hr.1 (k2 i hi).2] at g6
    exact ⟨T6, some (.int (f i)), _, _, _, X6, rfl, rfl, rfl, (fun h => by cases h), ⟨rfl, q6.trans hh4⟩, fun fs hl => Steps.trans g6 (X6.ireturnOut hexec hret (narrow_ch hr.1 hr.2) (Or.inr (Or.inr (Or.inr (Or.inl rfl)))) (hb hbytes d15) hl)⟩
  · exact absurd k0 (by decide)
theorem pays {l : Launch} {R : Room} {p : Program} {e : Env} {below : List Frame} {s : State} {sargs : Array Value} {len W : Nat} (x t : Addr) (V : Cell) (n : Nat) (f : Nat → Int32) (z : Int32) (fm : Value) (i : Nat) (htab : tab.before sargs s = true) (hfr : 4 ≤ R.frames) (hlo : W + 53 ≤ R.locals) :
    Back l R p e below s sargs yN len W (fun A₁ a₁ => A₁.cells + 0 ≤ R.cells ∧ A₁.slots + 0 ≤ R.slots ∧ P x t V n f z fm i a₁ A₁.U) (fun A₁ _ v₁ B₁ => E f i v₁ A₁.U B₁.U ∧ B₁.locs = A₁.locs ++ [] ∧ B₁.cells = A₁.cells + 0 ∧ B₁.slots = A₁.slots + 0) :=
  (law l x t V n f z fm i).pays htab hfr (by omega)
end ChN
end StrChars
namespace StrChars.Road
open Jvm Sem ClassFile Op Lib Jvm.Stand Jvm.Free Jvm.Free.XT
open Jvm.Lib.Cold (StaticIs)
/-- the words of String.charAt(int), the Latin-1 road alone -/
abbrev wordsChN : List Jvm.Cond := [.code ChN.yN ChN.yB 2 (some .char), .initialized ST, .fieldLink ST 9 ST "value" "[B", .fieldLink ST 38 ST "COMPACT_STRINGS" "Z", .fieldLink ST 15 ST "coder" "B", .code IsL.yN IsL.yB 1 (some .boolean), .methodLink ST 492 IsL.yN, .declares IsL.yN, .selects ST IsL.yN IsL.yN, .instanceMethod IsL.yN,
  .methodLink ST 495 LChA.yN, .static LChA.yN, .code LChA.yN LChA.yB 2 (some .char), .initialized "java/lang/StringLatin1", .methodLink "java/lang/StringLatin1" 9 JO.Str_checkIndex.yN, .static JO.Str_checkIndex.yN, .code JO.Str_checkIndex.yN JO.Str_checkIndex.yB 2 none,
  .fieldLink ST 1053 "jdk/internal/util/Preconditions" "SIOOBE_FORMATTER" "Ljava/util/function/BiFunction;", .methodLink ST 1059 JC.PreCheck.yN, .static JC.PreCheck.yN, .code JC.PreCheck.yN JC.PreCheck.yB 3 (some .int), .initialized "jdk/internal/util/Preconditions"]
theorem tabChN_of {a : Array Value} {s : State} (h : ∀ w ∈ wordsChN, w.before a s = true) : ChN.tab.before a s = true := by
  have hp : JC.PreCheck.tab.before a s = true := unparts (wk h (.code JC.PreCheck.yN JC.PreCheck.yB 3 (some .int))) (wks h (.initialized JC.PreCheck.yN.cls :: JC.PreCheck.site))
  have qk := consq hp h
  have hk : JO.Str_checkIndex.tab.before a s = true := unparts (wk qk (.code JO.Str_checkIndex.yN JO.Str_checkIndex.yB 2 none)) (wks qk (.initialized JO.Str_checkIndex.yN.cls :: JO.Str_checkIndex.site))
  have ql := consq hk h
  have hl : LChA.tab.before a s = true := unparts (wk ql (.code LChA.yN LChA.yB 2 (some .char))) (wks ql (.initialized LChA.yN.cls :: LChA.site))
  have hi : IsL.tab.before a s = true := unparts (wk h (.code IsL.yN IsL.yB 1 (some .boolean))) (wks h (.initialized IsL.yN.cls :: IsL.site))
  have q := consq hi (consq hl h)
  exact unparts (wk q (.code ChN.yN ChN.yB 2 (some .char))) (wks q (.initialized ChN.yN.cls :: ChN.site))
theorem movedChN {Z s : State} {a0 args : Array Value} (hZ : Z.Warmed39 s.vm) (hw : ∀ d ∈ wordsChN, d.before a0 Z = true) : ∀ d ∈ wordsChN, d.before args s = true := fun d hd => by
  have t : ∀ d ∈ wordsChN, (d.onTables && d.keepsFace) = true := by decide +kernel
  exact RoadKit.mv hZ (hw d hd) (t d hd)
/-- **charAt(i) OF A LATIN-1 STRING**, i < n: the char -/
theorem chN {p : Program} {l : Launch} {e : Env} {R : Room} {s : State} {args : Array Value} {below : List Frame} {len W : Nat} {Z : State} {a0 : Array Value} {h : Heap} (hZ : Z.Warmed39 s.vm) (hw : ∀ d ∈ wordsChN, d.before a0 Z = true) {kI : Nat} (wi : (Jvm.Cond.instantiable ST kI).before a0 Z = true)
    {x t : Addr} {kb : ClassId} {cs : List Int32} {N2 z : Int32} {vs : List Value} {fm : Value} {i : Nat} {j : Int32} (E : RoadKit.Exa Z h x ST) (V : RoadKit.Fld Z h x ST "value" "[B" (.ref t)) (C : RoadKit.Fld Z h x ST "coder" "B" (.int 0)) (K : RoadKit.Arv Z h t kb .byte N2 vs (.int 0)) (hc : CodA cs 0 N2 vs) (hb : ∀ c ∈ cs, ¬ c < 0 ∧ ¬ (65535 : Int32) < c)
    (S : RoadKit.Sta Z h ST "COMPACT_STRINGS" "Z" (.int z)) (hz : ¬ z = 0) (F : RoadKit.Sta Z h "jdk/internal/util/Preconditions" "SIOOBE_FORMATTER" "Ljava/util/function/BiFunction;" fm) (rf : fm.isRef = true) (l2 : cs.length ≤ 4000) (hi : i < cs.length) (hj : j = Int32.ofNat i) (hfr : 4 ≤ R.frames) (hlo : W + 53 ≤ R.locals) :
    Back l R p e below s args (⟨"java/lang/String", "charAt", "(I)C"⟩ : MethodName) len W (fun P a => a = #[.ref x, .int j] ∧ P.U.heap = h ∧ P.cells + 0 ≤ R.cells ∧ P.slots + 0 ≤ R.slots)
      (fun P _ v B => ∃ L, (v = some (.int (cs.getD i 0)) ∧ L = [] ∧ B.U.heap = h) ∧ B.locs = P.locs ++ L ∧ B.cells = P.cells + 0 ∧ B.slots = P.slots + 0) := by
  subst hj
  intro m meth c P g ig mk a X hg hsize hdg hW hn hp'
  obtain ⟨rfl, rfl, r1, r2⟩ := hp'
  have al : Z.vm.Alike P.U.vm := hZ.alike.trans X.warmed.alike
  obtain ⟨A, hx⟩ := txt_of wi al E V C K hc hb l2
  obtain ⟨v, B, X', ⟨⟨hv, hh⟩, hl, hk, hs⟩, st⟩ := ChN.pays x t A cs.length (fun j => cs.getD j 0) z fm i (tabChN_of (movedChN hZ hw)) hfr hlo m meth c P g ig mk _ X hg hsize hdg hW hn ⟨r1, r2, rfl, hx, hi, sta_is al S, hz, sta_is al F, rf⟩
  exact ⟨v, B, X', ⟨[], ⟨hv, rfl, hh⟩, hl, hk, hs⟩, st⟩
/-- what backV says of its String, as the contracts of this text ask it: cs's low bytes, coder 0 -/
theorem codOf {cs : List Int32} {n : Nat} (hn : cs.length = n) (hb : ∀ c ∈ cs, ¬ 255 < c) : CodA cs 0 (Int32.ofNat n) ((cs.map lo8).map Value.int) := Or.inl ⟨rfl, by rw [hn], by simp [List.map_map, Function.comp_def], hb⟩
end StrChars.Road
end Jvm.Pilot.@@N@@
namespace Jvm.Pilot.@@N@@
open Jvm Jvm.ClassFile Sem Op Lib Jvm.Free Jvm.Stand Jvm.LawKit Jvm.RoadKit Bundle Jvm.Pilot.@@N@@.Jvm.D
/-! 0. own tools: the goal that a walk carries; an array's store and load by what is known of it -/
def Go (tb : Tables) (e : Env) (below : List Frame) (P : State → Prop) (s : State) : Prop := ∃ s₂, Steps tb e below s s₂ ∧ P s₂
section OwnTools
variable {tb : Tables} {e : Env} {below : List Frame} {P : State → Prop} {A B : State}
theorem Go.st (h : ∀ t, Steps tb e below A t → Steps tb e below B t) (g : Go tb e below P A) : Go tb e below P B := by
  obtain ⟨s₂, h1, h2⟩ := g
  exact ⟨s₂, h _ h1, h2⟩
theorem Go.tr (h : Steps tb e below B A) (g : Go tb e below P A) : Go tb e below P B := by
  obtain ⟨s₂, h1, h2⟩ := g
  exact ⟨s₂, h.trans h1, h2⟩
theorem Go.start {Q : Outcome → State → Prop} (h : ∀ P : State → Prop, (∀ s₂ o, s₂.status = .running → Ended s₂ below o → Q o s₂ → P s₂) → Go tb e below P A) : ∃ s₂ o, Steps tb e below A s₂ ∧ s₂.status = .running ∧ Ended s₂ below o ∧ Q o s₂ := by
  obtain ⟨s₂, h1, o, h2, h3, h4⟩ := h (fun s₂ => ∃ o, s₂.status = .running ∧ Ended s₂ below o ∧ Q o s₂) (fun s₂ o a b c => ⟨o, a, b, c⟩)
  exact ⟨s₂, o, h1, h2, h3, h4⟩
abbrev lR (a : Addr) : Slot := .val (.ref a)
abbrev lI (x : Int32) : Slot := .val (.int x)
abbrev lJ (x : Int64) : Slot := .val (.long x)
abbrev lD (x : UInt64) : Slot := .val (.double x)
abbrev lN : Slot := .val .null
abbrev lU : Slot := .unset
abbrev lS : Slot := .second
theorem ow {a0 : Array Value} {Z : State} (hw : ∀ d ∈ tables_1, d.before a0 Z = true) (i : Nat) {d : Jvm.Cond} (h : tables_1[i]? = some d) : d.before a0 Z = true := hw d (List.mem_of_getElem? h)
theorem own_oldsz {Z : State} {n0 : Nat} {h : Heap} (X : Old Z n0 h) : n0 ≤ h.size := by have := X.1; have := X.2.1; omega
theorem own_cat {v : Value} (h : v.isRef = true) : v.category = 1 := by cases v <;> first | rfl | simp [Value.isRef] at h
theorem own_refcase {v : Value} (h : v.isRef = true) : v = .null ∨ ∃ a, v = .ref a := by cases v <;> first | (left; rfl) | (right; exact ⟨_, rfl⟩) | (simp [Value.isRef] at h)
theorem own_nar_ref {v : Value} {t : FieldType} (h : v.isRef = true) : narrow t v = v := by cases v <;> first | (simp [Value.isRef] at h; done) | (cases t <;> rfl)
theorem own_fits_ref {v : Value} {t : FieldType} (h : v.isRef = true) (ht : t.isReference = true := by rfl) : fits t v = true := by cases v <;> first | (simp [Value.isRef] at h; done) | (cases t <;> first | rfl | (simp [FieldType.isReference] at ht))
theorem own_eq_ref {args : Array Value} {first s : State} {o : Option Outcome} {idx : List Nat} {a b : Term} {w : Addr} (hb : b.eval args first o idx s = some (.ref w)) (h : (Cond.eq a b).value args first o s idx = some true) : a.eval args first o idx s = some (.ref w) := by
  cases ha : a.eval args first o idx s with
  | none => simp [Cond.value, ha] at h
  | some x => cases x <;> simp [Cond.value, ha, hb] at h ⊢; exact h
theorem own_len_start {args : Array Value} {s : State} {t : Term} {n : Int32} {a : Addr} {cl : Cell} (h : (Term.length t).eval args s none [] s = some (.int n)) (ht : t.eval args s none [] s = some (.ref a)) (hc : s.heap[a]? = some cl) : cl.slots.size < 2 ^ 31 ∧ cl.slots.size.toInt32 = n := by
  simp only [Term.eval, ht, Option.bind_eq_bind, Option.bind_some] at h
  cases hq : s.arrayAt? a with
  | none => simp [hq] at h
  | some c2 =>
    have e := (State.arrayAt?_spec hq).1
    cases hc.symm.trans e
    simp only [hq, Option.bind_some] at h
    split at h
    · rename_i hlt; exact ⟨hlt, by simpa using h⟩
    · cases h
theorem own_since (s : State) : s.Since s.vm 0 := (State.WarmedH.refl s).since 0
theorem own_and255 (x : Int32) : ¬ (x &&& 255) < 0 ∧ ¬ (255 : Int32) < (x &&& 255) := by
  have h := c_and x 255 (by decide)
  have e0 : (0 : Int32).toInt = 0 := rfl
  have e1 : (255 : Int32).toInt = 255 := rfl
  rw [Int32.lt_iff_toInt_lt, Int32.lt_iff_toInt_lt]
  omega
theorem own_nar_i2c (x : Int32) : nar .char (x.toUInt32.toUInt16.toUInt32.toInt32) = x.toUInt32.toUInt16.toUInt32.toInt32 := by
  show (x.toUInt32.toUInt16.toUInt32.toInt32).toUInt32.toUInt16.toUInt32.toInt32 = _
  rw [UInt32.toUInt32_toInt32, UInt16.toUInt16_toUInt32]
theorem own_nar_i2b (x : Int32) : nar .byte (x.toInt8.toInt32) = x.toInt8.toInt32 := by
  show (x.toInt8.toInt32).toInt8.toInt32 = _
  simp
theorem own_narZ {x : Int32} (h : x = 0 ∨ x = 1) : nar .boolean x = x := by rcases h with rfl | rfl <;> rfl
theorem own_up (cs : List Int32) (h : ∀ c ∈ cs, ¬ c < 0 ∧ ¬ (255 : Int32) < c) : ∀ c ∈ cs, ¬ c < 0 ∧ ¬ (65535 : Int32) < c := fun c hc => ⟨(h c hc).1, fun q => (h c hc).2 (by rw [Int32.lt_iff_toInt_lt] at q ⊢; have e1 : (65535 : Int32).toInt = 65535 := rfl; have e2 : (255 : Int32).toInt = 255 := rfl; omega)⟩
theorem own_narC {x : Int32} (h : ¬ x < 0 ∧ ¬ (255 : Int32) < x) : nar .char x = x := by
  have e0 : (0 : Int32).toInt = 0 := rfl
  have e1 : (255 : Int32).toInt = 255 := rfl
  have a := h.1
  have b := h.2
  rw [Int32.lt_iff_toInt_lt, e0] at a
  rw [Int32.lt_iff_toInt_lt, e1] at b
  have c := c_i2c x
  exact Int32.toInt_inj.mp (show x.toUInt32.toUInt16.toUInt32.toInt32.toInt = x.toInt by omega)
theorem own_int {r : Int32} {k : Int} (h : r.toInt = k) {q : Int32} (hq : q.toInt = k) : r = q := Int32.toInt_inj.mp (by rw [h, hq])
end OwnTools
section OwnArrays
variable {p : Program} {l : Launch} {e : Env} {R : Room} {s : State} {m : MethodId} {args : Array Value} {below : List Frame} {meth : Method} {c : Code} {T : State} {locs : List Loc} {cells slots : Nat} {Z : State} {h : Heap} {a : Addr} {k : ClassId} {z : Int32} {vs : List Value} {dv : Value}
theorem own_stC (X : Stand p l e R s m args below meth c T locs cells slots) (hx : p.tables.exec = Jvm.exec) (hZ : Z.Warmed39 s.vm) (eT : T.heap = h) (V : Arv Z h a k .char z vs dv) {j x : Int32} {i : Nat} (hj : ¬ j < 0 ∧ j < z) (hji : j.toNatClampNeg = i) (hi : i < vs.length) {g : JFrame} (hg : g.method = m) {rest : List Value} (hs : g.stack = .int x :: .int j :: .ref a :: rest) (hd : decode c.code g.pc = .ok (.castore, 1)) :
    ∃ T' h', Stand p l e R s m args below meth c T' (locs ++ [⟨a, j.toNatClampNeg⟩]) cells slots ∧ T'.heap = h' ∧ Wr h h' a j.toNatClampNeg (.int (nar .char x)) ∧ Arv Z h' a k .char z (vs.set i (.int (nar .char x))) dv ∧ ∀ target, Steps p.tables e below (T'.setTop { g with pc := g.pc + 1, stack := rest }) target → Steps p.tables e below (T.setTop g) target := by
  obtain ⟨cl, A, q1, S, q3, H, G⟩ := V
  obtain ⟨T', h', X', e', W, st⟩ := stC X hx hZ eT A (inb_of S hj) hg hs hd
  exact ⟨T', h', X', e', W, Arv.set A q1 S q3 H G (fits_nar_char x) W i hji hi, st⟩
theorem own_stI (X : Stand p l e R s m args below meth c T locs cells slots) (hx : p.tables.exec = Jvm.exec) (hZ : Z.Warmed39 s.vm) (eT : T.heap = h) (V : Arv Z h a k .int z vs dv) {j x : Int32} {i : Nat} (hj : ¬ j < 0 ∧ j < z) (hji : j.toNatClampNeg = i) (hi : i < vs.length) {g : JFrame} (hg : g.method = m) {rest : List Value} (hs : g.stack = .int x :: .int j :: .ref a :: rest) (hd : decode c.code g.pc = .ok (.iastore, 1)) :
    ∃ T' h', Stand p l e R s m args below meth c T' (locs ++ [⟨a, j.toNatClampNeg⟩]) cells slots ∧ T'.heap = h' ∧ Wr h h' a j.toNatClampNeg (.int x) ∧ Arv Z h' a k .int z (vs.set i (.int x)) dv ∧ ∀ target, Steps p.tables e below (T'.setTop { g with pc := g.pc + 1, stack := rest }) target → Steps p.tables e below (T.setTop g) target := by
  obtain ⟨cl, A, q1, S, q3, H, G⟩ := V
  obtain ⟨T', h', X', e', W, st⟩ := stI X hx hZ eT A (inb_of S hj) hg hs hd
  exact ⟨T', h', X', e', W, Arv.set A q1 S q3 H G rfl W i hji hi, st⟩
theorem own_stZ (X : Stand p l e R s m args below meth c T locs cells slots) (hx : p.tables.exec = Jvm.exec) (hZ : Z.Warmed39 s.vm) (eT : T.heap = h) (V : Arv Z h a k .boolean z vs dv) {j x : Int32} {i : Nat} (hj : ¬ j < 0 ∧ j < z) (hji : j.toNatClampNeg = i) (hi : i < vs.length) {g : JFrame} (hg : g.method = m) {rest : List Value} (hs : g.stack = .int x :: .int j :: .ref a :: rest) (hd : decode c.code g.pc = .ok (.bastore, 1)) :
    ∃ T' h', Stand p l e R s m args below meth c T' (locs ++ [⟨a, j.toNatClampNeg⟩]) cells slots ∧ T'.heap = h' ∧ Wr h h' a j.toNatClampNeg (.int (nar .boolean x)) ∧ Arv Z h' a k .boolean z (vs.set i (.int (nar .boolean x))) dv ∧ ∀ target, Steps p.tables e below (T'.setTop { g with pc := g.pc + 1, stack := rest }) target → Steps p.tables e below (T.setTop g) target := by
  obtain ⟨cl, A, q1, S, q3, H, G⟩ := V
  obtain ⟨T', h', X', e', W, st⟩ := stZ X hx hZ eT A (inb_of S hj) hg hs hd
  exact ⟨T', h', X', e', W, Arv.set A q1 S q3 H G (fits_nar_bool x) W i hji hi, st⟩
theorem own_stB (X : Stand p l e R s m args below meth c T locs cells slots) (hx : p.tables.exec = Jvm.exec) (hZ : Z.Warmed39 s.vm) (eT : T.heap = h) (V : Arv Z h a k .byte z vs dv) {j x : Int32} {i : Nat} (hj : ¬ j < 0 ∧ j < z) (hji : j.toNatClampNeg = i) (hi : i < vs.length) {g : JFrame} (hg : g.method = m) {rest : List Value} (hs : g.stack = .int x :: .int j :: .ref a :: rest) (hd : decode c.code g.pc = .ok (.bastore, 1)) :
    ∃ T' h', Stand p l e R s m args below meth c T' (locs ++ [⟨a, j.toNatClampNeg⟩]) cells slots ∧ T'.heap = h' ∧ Wr h h' a j.toNatClampNeg (.int (nar .byte x)) ∧ Arv Z h' a k .byte z (vs.set i (.int (nar .byte x))) dv ∧ ∀ target, Steps p.tables e below (T'.setTop { g with pc := g.pc + 1, stack := rest }) target → Steps p.tables e below (T.setTop g) target := by
  obtain ⟨cl, A, q1, S, q3, H, G⟩ := V
  obtain ⟨T', h', X', e', W, st⟩ := stB X hx hZ eT A (inb_of S hj) hg hs hd
  exact ⟨T', h', X', e', W, Arv.set A q1 S q3 H G (fits_nar_byte x) W i hji hi, st⟩
theorem own_stD (X : Stand p l e R s m args below meth c T locs cells slots) (hx : p.tables.exec = Jvm.exec) (hZ : Z.Warmed39 s.vm) (eT : T.heap = h) (V : Arv Z h a k .double z vs dv) {j : Int32} {x : UInt64} {i : Nat} (hj : ¬ j < 0 ∧ j < z) (hji : j.toNatClampNeg = i) (hi : i < vs.length) {g : JFrame} (hg : g.method = m) {rest : List Value} (hs : g.stack = .double x :: .int j :: .ref a :: rest) (hd : decode c.code g.pc = .ok (.dastore, 1)) :
    ∃ T' h', Stand p l e R s m args below meth c T' (locs ++ [⟨a, j.toNatClampNeg⟩]) cells slots ∧ T'.heap = h' ∧ Wr h h' a j.toNatClampNeg (.double x) ∧ Arv Z h' a k .double z (vs.set i (.double x)) dv ∧ ∀ target, Steps p.tables e below (T'.setTop { g with pc := g.pc + 1, stack := rest }) target → Steps p.tables e below (T.setTop g) target := by
  obtain ⟨cl, A, q1, S, q3, H, G⟩ := V
  obtain ⟨T', h', X', e', W, st⟩ := stD X hx hZ eT A (inb_of S hj) hg hs hd
  exact ⟨T', h', X', e', W, Arv.set A q1 S q3 H G rfl W i hji hi, st⟩
theorem own_at {ty : FieldType} (V : Arv Z h a k ty z vs dv) {j : Int32} {i : Nat} {v : Value} (hj : ¬ j < 0 ∧ j < z) (hji : j.toNatClampNeg = i) (hv : vs.getD i dv = v) : ∃ cl : Cell, Arr Z h a cl ty ∧ ¬ (j < 0 ∨ cl.slots.size ≤ j.toNatClampNeg) ∧ cl.slots[j.toNatClampNeg]? = some v := by
  obtain ⟨cl, A, q1, S, q3, H, G⟩ := V
  exact ⟨cl, A, inb_of S hj, Has.at H (inb_of S hj) (by rw [hji]; exact hv)⟩
theorem own_ldI (X : Stand p l e R s m args below meth c T locs cells slots) (hx : p.tables.exec = Jvm.exec) (hZ : Z.Warmed39 s.vm) (eT : T.heap = h) (V : Arv Z h a k .int z vs dv) {j : Int32} {i : Nat} {v : Value} (hj : ¬ j < 0 ∧ j < z) (hji : j.toNatClampNeg = i) (hv : vs.getD i dv = v) {g : JFrame} (hg : g.method = m) {rest : List Value} (hs : g.stack = .int j :: .ref a :: rest) (hd : decode c.code g.pc = .ok (.iaload, 1)) (target : State) :
    Steps p.tables e below (T.setTop { g with pc := g.pc + 1, stack := v :: rest }) target → Steps p.tables e below (T.setTop g) target := by
  obtain ⟨cl, A, hin, hat⟩ := own_at V hj hji hv
  exact X.iaload hx (by rw [eT]; exact A.1) (State.isArrayOf_alike hZ.alike A.2.1) A.2.2 hin hat hg hs hd target
theorem own_ldC (X : Stand p l e R s m args below meth c T locs cells slots) (hx : p.tables.exec = Jvm.exec) (hZ : Z.Warmed39 s.vm) (eT : T.heap = h) (V : Arv Z h a k .char z vs dv) {j : Int32} {i : Nat} {v : Value} (hj : ¬ j < 0 ∧ j < z) (hji : j.toNatClampNeg = i) (hv : vs.getD i dv = v) {g : JFrame} (hg : g.method = m) {rest : List Value} (hs : g.stack = .int j :: .ref a :: rest) (hd : decode c.code g.pc = .ok (.caload, 1)) (target : State) :
    Steps p.tables e below (T.setTop { g with pc := g.pc + 1, stack := v :: rest }) target → Steps p.tables e below (T.setTop g) target := by
  obtain ⟨cl, A, hin, hat⟩ := own_at V hj hji hv
  exact X.caload hx (by rw [eT]; exact A.1) (State.isArrayOf_alike hZ.alike A.2.1) A.2.2 hin hat hg hs hd target
theorem own_ldZ (X : Stand p l e R s m args below meth c T locs cells slots) (hx : p.tables.exec = Jvm.exec) (hZ : Z.Warmed39 s.vm) (eT : T.heap = h) (V : Arv Z h a k .boolean z vs dv) {j : Int32} {i : Nat} {v : Value} (hj : ¬ j < 0 ∧ j < z) (hji : j.toNatClampNeg = i) (hv : vs.getD i dv = v) {g : JFrame} (hg : g.method = m) {rest : List Value} (hs : g.stack = .int j :: .ref a :: rest) (hd : decode c.code g.pc = .ok (.baload, 1)) (target : State) :
    Steps p.tables e below (T.setTop { g with pc := g.pc + 1, stack := v :: rest }) target → Steps p.tables e below (T.setTop g) target := by
  obtain ⟨cl, A, hin, hat⟩ := own_at V hj hji hv
  exact X.baloadBooleans hx (by rw [eT]; exact A.1) (State.isArrayOf_alike hZ.alike A.2.1) A.2.2 hin hat hg hs hd target
theorem own_ldB (X : Stand p l e R s m args below meth c T locs cells slots) (hx : p.tables.exec = Jvm.exec) (hZ : Z.Warmed39 s.vm) (eT : T.heap = h) (V : Arv Z h a k .byte z vs dv) {j : Int32} {i : Nat} {v : Value} (hj : ¬ j < 0 ∧ j < z) (hji : j.toNatClampNeg = i) (hv : vs.getD i dv = v) {g : JFrame} (hg : g.method = m) {rest : List Value} (hs : g.stack = .int j :: .ref a :: rest) (hd : decode c.code g.pc = .ok (.baload, 1)) (target : State) :
    Steps p.tables e below (T.setTop { g with pc := g.pc + 1, stack := v :: rest }) target → Steps p.tables e below (T.setTop g) target := by
  obtain ⟨cl, A, hin, hat⟩ := own_at V hj hji hv
  exact X.baloadBytes hx (by rw [eT]; exact A.1) (State.isArrayOf_alike hZ.alike A.2.1) A.2.2 hin hat hg hs hd target
theorem own_ldD (X : Stand p l e R s m args below meth c T locs cells slots) (hx : p.tables.exec = Jvm.exec) (hZ : Z.Warmed39 s.vm) (eT : T.heap = h) (V : Arv Z h a k .double z vs dv) {j : Int32} {i : Nat} {v : Value} (hj : ¬ j < 0 ∧ j < z) (hji : j.toNatClampNeg = i) (hv : vs.getD i dv = v) {g : JFrame} (hg : g.method = m) {rest : List Value} (hs : g.stack = .int j :: .ref a :: rest) (hd : decode c.code g.pc = .ok (.daload, 1)) (target : State) :
    Steps p.tables e below (T.setTop { g with pc := g.pc + 1, stack := v :: rest }) target → Steps p.tables e below (T.setTop g) target := by
  obtain ⟨cl, A, hin, hat⟩ := own_at V hj hji hv
  exact X.daload hx (by rw [eT]; exact A.1) (State.isArrayOf_alike hZ.alike A.2.1) A.2.2 hin hat hg hs hd target
theorem own_ldR {C : String} (X : Stand p l e R s m args below meth c T locs cells slots) (hx : p.tables.exec = Jvm.exec) (hZ : Z.Warmed39 s.vm) (eT : T.heap = h) (V : Arv Z h a k (.object C) z vs dv) {j : Int32} {i : Nat} {v : Value} (hj : ¬ j < 0 ∧ j < z) (hji : j.toNatClampNeg = i) (hv : vs.getD i dv = v) {g : JFrame} (hg : g.method = m) {rest : List Value} (hs : g.stack = .int j :: .ref a :: rest) (hd : decode c.code g.pc = .ok (.aaload, 1)) (target : State) :
    Steps p.tables e below (T.setTop { g with pc := g.pc + 1, stack := v :: rest }) target → Steps p.tables e below (T.setTop g) target := by
  obtain ⟨cl, A, hin, hat⟩ := own_at V hj hji hv
  exact X.aaload hx (by rw [eT]; exact A.1) (State.isArrayOf_alike hZ.alike A.2.1) rfl A.2.2 hin hat hg hs hd target
theorem own_len {ty : FieldType} (X : Stand p l e R s m args below meth c T locs cells slots) (hx : p.tables.exec = Jvm.exec) (hZ : Z.Warmed39 s.vm) (eT : T.heap = h) (V : Arv Z h a k ty z vs dv) {g : JFrame} (hg : g.method = m) {rest : List Value} (hs : g.stack = .ref a :: rest) (hd : decode c.code g.pc = .ok (.arraylength, 1)) (target : State) :
    Steps p.tables e below (T.setTop { g with pc := g.pc + 1, stack := .int z :: rest }) target → Steps p.tables e below (T.setTop g) target := by
  obtain ⟨cl, A, q1, S, q3, H, G⟩ := V
  have q := X.arraylength hx (by rw [eT]; exact A.1) (State.isArrayOf_alike hZ.alike A.2.1) hg hs hd target
  rw [len_of S q3] at q
  exact q
theorem own_getD_int (xs : List Int32) (i : Nat) : (xs.map Value.int).getD i (.int 0) = .int (xs.getD i 0) := by
  simp only [List.getD_eq_getElem?_getD, List.getElem?_map]
  cases xs[i]? <;> rfl
theorem own_arv_set {ty : FieldType} {xs : List Int32} {i : Nat} {v : Int32} (V : Arv Z h a k ty z ((xs.map Value.int).set i (.int v)) dv) : Arv Z h a k ty z ((xs.set i v).map Value.int) dv := by rw [List.map_set]; exact V
end OwnArrays

theorem own_strAtoms : ∀ a ∈ Bundle.stringAtoms, a ∈ tables_1 := by decide +kernel
theorem own_wNew : ∀ d ∈ StrChars.Road.words, d ∈ tables_1 := by decide +kernel
theorem own_wLen : ∀ d ∈ StrChars.Road.wordsLen, d ∈ tables_1 := by decide +kernel
theorem own_wCh : ∀ d ∈ StrChars.Road.wordsChN, d ∈ tables_1 := by decide +kernel
theorem own_safe_null {Z : State} {EL : List (String × Nat)} {vm : Vm} {h : Heap} {x : Addr} (hal : Z.vm.Alike vm) (E : Exa Z h x "java/lang/String") (V : Fld Z h x "java/lang/String" "value" "[B" .null) : Safe Z EL vm h x := fun B => by
  obtain ⟨p, hp, u, a, hb, q, hqa, F, hy⟩ := B
  obtain ⟨cS, ⟨⟨s1, s2, s3, ⟨cv, kv, iv, s4, s4'⟩, s5, s6, s7, s8, s9, s10, srest⟩, hfS, hcS⟩, k1, hB, hbyt⟩ := F
  rcases hy with rfl | rfl
  · obtain ⟨cell, cf, k, i, f, h1, h2, h3, h4, h5, h6, h7⟩ := V
    have e1 : h[q.sa]? = some q.sC := s1
    cases h1.symm.trans e1
    obtain ⟨kv', z4⟩ := ff_back (U := Wst Z vm h) hal s4
    have z5 := h2.symm.trans z4
    simp only [Option.some.injEq, Prod.mk.injEq] at z5
    rw [z5.2.2.2, s8] at h7
    cases h7
  · obtain ⟨cell, k, h1, h2, h3, h4, h5⟩ := E
    have e1 : h[q.sd]? = some q.SA := s10
    cases h1.symm.trans e1
    have hB' : vm.findClass "[B" = some q.SA.cls := hB
    rw [hal.findClass] at hB'
    obtain ⟨ka, a1, a2⟩ := Vm.findClass_spec h2
    obtain ⟨kb, b1, b2⟩ := Vm.findClass_spec hB'
    cases a1.symm.trans b1
    exact absurd (a2.symm.trans b2) (by decide)
theorem own_arvN {Z : State} {h : Heap} {t : Addr} {k : ClassId} {cs : List Int32} {n : Nat} {vs : List Value} {dv : Value} (hn : cs.length = n) (A : Arv Z h t k .byte (Int32.ofNat n) vs dv) : Arv Z h t k .byte (Int32.ofNat cs.length) vs dv := by rw [hn]; exact A
theorem own_set_small {xs : List Int32} {i : Nat} {v : Int32} (h : ∀ c ∈ xs, ¬ c < 0 ∧ ¬ (255 : Int32) < c) (hv : ¬ v < 0 ∧ ¬ (255 : Int32) < v) : ∀ c ∈ xs.set i v, ¬ c < 0 ∧ ¬ (255 : Int32) < c := fun c hc => by
  rcases List.mem_or_eq_of_mem_set hc with q | q
  · exact h c q
  · rw [q]; exact hv
theorem own_set_eq {xs : List Int32} {i : Nat} {v : Int32} (hi : i < xs.length) : xs.set i v = xs ↔ v = xs.getD i 0 := by
  constructor
  · intro q
    have e := congrArg (fun l : List Int32 => l.getD i 0) q
    simp only [List.getD_eq_getElem?_getD, List.getElem?_set_self hi] at e
    simpa [List.getD_eq_getElem?_getD] using e
  · intro q
    apply List.ext_getElem?
    intro j
    rw [List.getElem?_set]
    split
    · rename_i e; subst e; rw [q, List.getD_eq_getElem?_getD, List.getElem?_eq_getElem hi]; simp [hi]
    · rfl
theorem own_natback {j : Int32} (h : ¬ j < 0) : j = Int32.ofNat j.toNatClampNeg := (back32 h).1.symm
section OwnCopy
variable {p : Program} {l : Launch} {e : Env} {R : Room} {s : State} {m : MethodId} {args : Array Value} {below : List Frame} {meth : Method} {c : Code} {T : State} {locs : List Loc} {cells slots : Nat} {Z : State} {h : Heap}
theorem own_fits_int {v : Value} (h : fits .byte v = true) : ∃ x, v = .int x := by
  cases v <;> first | exact ⟨_, rfl⟩ | cases h
/-- System.arraycopy of n bytes, from place o of src to place q of dst -/
theorem own_acopy (X : Stand p l e R s m args below meth c T locs cells slots) (hx : p.tables.exec = Jvm.exec) (hZ : Z.Warmed39 s.vm) (eT : T.heap = h) {own : String} {index : Nat} (hown : s.vm.findClass own = some m.cls)
    (hlink : (Cond.methodLink own index Stand.acN).before args s = true) (hnat : (Cond.native Stand.acN).before args s = true) (hstat : (Cond.static Stand.acN).before args s = true) (hinit : (Cond.initialized "java/lang/System").before args s = true)
    {src dst : Addr} {ks kd : ClassId} {zs zd : Int32} {vss vsd ws : List Value} (S : Arv Z h src ks .byte zs vss (.int 0)) (D : Arv Z h dst kd .byte zd vsd (.int 0)) {o q n : Nat} (hso : o + n ≤ zs.toNatClampNeg) (hdo : q + n ≤ zd.toNatClampNeg)
    (hws : ∀ i, i < zd.toNatClampNeg → ws.getD i (.int 0) = if q ≤ i ∧ i < q + n then vss.getD (o + (i - q)) (.int 0) else vsd.getD i (.int 0))
    {g : JFrame} (hg : g.method = m) (hsize : g.locals.size = c.maxLocals) {rest : List Value} {jo jq jn : Int32} (ejo : jo = Int32.ofNat o) (ejq : jq = Int32.ofNat q) (ejn : jn = Int32.ofNat n) (hstack : g.stack = .int jn :: .int jq :: .ref dst :: .int jo :: .ref src :: rest) (hdg : decode c.code g.pc = .ok (.invokestatic index, 3))
    (hfr : 1 ≤ R.frames) (hlo : 2 * g.monitorRoom + (rest.map fun v => v.category).sum + (nativeFrameWords "java/lang/System" "arraycopy" 5 + 11) ≤ R.locals) :
    ∃ T' L', Stand p l e R s m args below meth c T' (locs ++ L') cells slots ∧ (∀ k, k ≤ dst → Fr k L') ∧ Keep h T'.heap [dst] ∧ Arv Z T'.heap dst kd .byte zd ws (.int 0) ∧ ∀ target, Steps p.tables e below (T'.setTop { g with pc := g.pc + 3, stack := rest }) target → Steps p.tables e below (T.setTop g) target := by
  subst ejo ejq ejn
  obtain ⟨cs, ⟨s1, s2, s3⟩, -, sz, -, sH, sG⟩ := S
  obtain ⟨cd, ⟨d1, d2, d3⟩, dk, dz, dn, dH, dG⟩ := D
  obtain ⟨sv, kS, hkS, compS, hkindS⟩ := State.isArrayOf_alike hZ.alike s2
  obtain ⟨dv, kD, hkD, compD, hkindD⟩ := State.isArrayOf_alike hZ.alike d2
  have zlt : ∀ z : Int32, z.toNatClampNeg < 2 ^ 31 := fun z => by have := z.toInt_lt; show z.toInt.toNat < 2 ^ 31; omega
  have l1 := zlt zs
  have l2 := zlt zd
  have ho : o < 2 ^ 31 := by omega
  have hq : q < 2 ^ 31 := by omega
  have hn : n < 2 ^ 31 := by omega
  have to : (Int32.ofNat o).toInt = (o : Int) := len_toInt ho
  have tq : (Int32.ofNat q).toInt = (q : Int) := len_toInt hq
  have tn : (Int32.ofNat n).toInt = (n : Int) := len_toInt hn
  have z0 : (0 : Int32).toInt = 0 := rfl
  have no : (Int32.ofNat o).toNatClampNeg = o := by show (Int32.ofNat o).toInt.toNat = o; omega
  have nq : (Int32.ofNat q).toNatClampNeg = q := by show (Int32.ofNat q).toInt.toNat = q; omega
  have nn : (Int32.ofNat n).toNatClampNeg = n := by show (Int32.ofNat n).toInt.toNat = n; omega
  have sAt : ∀ i, i < cs.slots.size → cs.slots.getD i .null = vss.getD i (.int 0) := fun i hi => by
    have h1 := sH i hi
    rw [Array.getD_eq_getD_getElem?, h1]; rfl
  obtain ⟨vm₁, hW, X', st⟩ := X.arraycopyK hx (own := own) (index := index) hown hlink hnat hstat hinit (src := src) (dst := dst) (srcPos := Int32.ofNat o) (destPos := Int32.ofNat q) (n := Int32.ofNat n) (cs := cs) (cd := cd)
    (by rw [eT]; exact s1) (by rw [eT]; exact d1) sv dv s3 d3 hkS hkD hkindS hkindD (by decide)
    (by rw [Int32.lt_iff_toInt_lt, z0]; omega) (by rw [Int32.lt_iff_toInt_lt, z0]; omega) (by rw [Int32.lt_iff_toInt_lt, z0]; omega) (by rw [to, tn]; omega) (by rw [tq, tn]; omega)
    (fun vm hW i hi => by
      rw [nn] at hi
      rw [no, sAt _ (by omega)]
      have hf := sG (o + i) (by omega)
      refine ⟨hf, ?_⟩
      obtain ⟨x, hx⟩ := own_fits_int hf
      rw [hx]; trivial)
    hg hsize hstack hdg hfr hlo
  have hlt : dst < h.size := (Array.getElem?_eq_some_iff.mp d1).1
  have eh : ((T.setVm vm₁).setCell dst (copied cs cd (Int32.ofNat o) (Int32.ofNat q) (Int32.ofNat n))).heap = h.setIfInBounds dst (copied cs cd (Int32.ofNat o) (Int32.ofNat q) (Int32.ofNat n)) := by rw [← eT]; rfl
  have cf := Jvm.Free.SB.copied_facts cs cd (Int32.ofNat o) (Int32.ofNat q) (Int32.ofNat n)
  have at2 := Jvm.Free.Str.copied_at2 (cs := cs) (cd := cd) ho hq hn (show q + n ≤ cd.slots.size by omega)
  refine ⟨_, _, X', fun k hk y hy => by rw [Stand.copyLocs_base hy]; exact hk, ?_, ?_, st⟩
  · rw [eh]
    refine ⟨by simp, fun x cx hcx hx => ?_, fun x cx hcx => ?_⟩
    · have : dst ≠ x := fun z => hx (by simp [z])
      rw [Array.getElem?_setIfInBounds_ne this]; exact hcx
    · by_cases z : dst = x
      · subst z
        cases d1.symm.trans hcx
        exact ⟨_, Array.getElem?_setIfInBounds_self_of_lt hlt, cf.1, cf.2.1, cf.2.2⟩
      · exact ⟨cx, by rw [Array.getElem?_setIfInBounds_ne z]; exact hcx, rfl, rfl, rfl⟩
  · rw [eh]
    have key : ∀ i, i < cd.slots.size → (copied cs cd (Int32.ofNat o) (Int32.ofNat q) (Int32.ofNat n)).slots[i]? = some (ws.getD i (.int 0)) := fun i hi => by
      rw [at2, hws i (by omega)]
      by_cases h : q ≤ i ∧ i < q + n
      · rw [if_pos h, if_pos h, sAt _ (by omega)]
      · rw [if_neg h, if_neg h]; exact dH i hi
    refine ⟨_, ⟨Array.getElem?_setIfInBounds_self_of_lt hlt, ?_, ?_⟩, cf.1.trans dk, cf.2.2.trans dz, dn, fun i hi => key i (by rw [cf.2.2] at hi; exact hi), fun i hi => ?_⟩
    · obtain ⟨v0, k0, h0, r0⟩ := d2
      exact ⟨by rw [cf.2.1]; exact v0, k0, by rw [cf.1]; exact h0, r0⟩
    · rw [cf.2.1]; exact d3
    · rw [cf.2.2] at hi
      rw [hws i (by omega)]
      split
      · exact sG _ (by omega)
      · exact dG i hi
end OwnCopy

section OwnSb
theorem own_declares {a0 : Array Value} {Z : State} {y : MethodName} {bytes : ByteArray} {n : Nat} {ret : Option FieldType} (hi : (Cond.instanceMethod y).before a0 Z = true) (hc : (Cond.code y bytes n ret).before a0 Z = true) : (Cond.declares y).before a0 Z = true := by
  obtain ⟨mk, meth, hn, hm, hst, -⟩ := Cond.instanceMethod_spec hi
  obtain ⟨m2, cM, q1, -, -, -, -, -, -, hsig⟩ := Cond.code_spec hn hc
  cases hm.symm.trans q1
  simp [Cond.before, Cond.holds, Cond.value, hn, hm, hst, hsig]
theorem own_sameself {a0 : Array Value} {Z : State} {C : String} {x y y2 : MethodName} (hi : (Cond.instanceMethod y).before a0 Z = true) (hs : (Cond.selects C x y2).before a0 Z = true) (hc : y2.cls = y.cls) (hy : y.cls ≠ "java/lang/invoke/MethodHandle" ∧ y.cls ≠ "java/lang/invoke/VarHandle") : (Cond.sameMethod y.cls y.cls y.name y.desc).before a0 Z = true := by
  obtain ⟨mk, meth, hn, hm, -, -⟩ := Cond.instanceMethod_spec hi
  obtain ⟨c, r, m, -, -, q3, -, kP, hkP, hkPi⟩ := Cond.selects_spec hs
  have h1 := findClass_of_methodNamed hn
  have h2 := findClass_of_methodNamed q3
  rw [hc, h1] at h2
  have h3 : mk.cls = m.cls := Option.some.inj h2
  have hf := State.methodFound?_of_named hn hy
  have hn' : Z.methodNamed? ⟨y.cls, y.name, y.desc⟩ = some mk := hn
  simp [Cond.before, Cond.holds, Cond.value, h1, hf, hn', h3, hkP, hkPi]
theorem own_nf {args : Array Value} {s : State} {C : String} {x y y2 : MethodName} (hs : (Cond.selects C x y2).before args s = true) (hc : y2.cls = y.cls) : NotFace s y := fun r0 h0 => by
  obtain ⟨c, r, m, -, -, q3, -, kP, hkP, hkPi⟩ := Cond.selects_spec hs
  have h1 := findClass_of_methodNamed h0
  have h2 := findClass_of_methodNamed q3
  rw [hc, h1] at h2
  have h3 : r0.cls = m.cls := Option.some.inj h2
  exact ⟨kP, by rw [h3]; exact hkP, hkPi⟩
theorem own_ishl0 (x : Int32) : x <<< ((0 : Int32) &&& 31) = x := by
  rw [show (0 : Int32) &&& 31 = 0 from by decide]; exact Int32.toBitVec_inj.mp (by simp)
theorem own_ishr0 (x : Int32) : x >>> ((0 : Int32) &&& 31) = x := by
  rw [show (0 : Int32) &&& 31 = 0 from by decide]; exact Int32.toBitVec_inj.mp (by simp)
theorem own_sub0 (x : Int32) : x - (0 : Int32) = x := Int32.sub_zero x
theorem own_ofN {n : Nat} (h : n < 2 ^ 31) : (Int32.ofNat n).toInt = (n : Int) := len_toInt h
theorem own_clamp {n : Nat} (h : n < 2 ^ 31) : (Int32.ofNat n).toNatClampNeg = n := by
  have := own_ofN h
  show (Int32.ofNat n).toInt.toNat = n
  omega
theorem own_zlt (z : Int32) : z.toNatClampNeg < 2 ^ 31 := by have := z.toInt_lt; show z.toInt.toNat < 2 ^ 31; omega
theorem own_znat {z : Int32} (h : ¬ z < 0) : z.toInt = (z.toNatClampNeg : Int) := by
  rw [Int32.lt_iff_toInt_lt, show (0 : Int32).toInt = 0 from rfl] at h
  show z.toInt = (z.toInt.toNat : Int)
  omega
theorem own_lenapp (a b : List Int32) : Int32.ofNat a.length + Int32.ofNat b.length = Int32.ofNat (a ++ b).length := by
  rw [List.length_append]; exact (Int32.ofNat_add a.length b.length).symm
theorem own_room {n : Nat} {z : Int32} (hz : ¬ z < 0) (h : n ≤ z.toNatClampNeg) : ¬ ((0 : Int32) < (Int32.ofNat n - z)) := by
  have hl := own_zlt z
  have e1 := own_ofN (n := n) (by omega)
  rw [Int32.lt_iff_toInt_lt, Int32.toInt_sub, e1, show (0 : Int32).toInt = 0 from rfl, own_znat hz, Int.bmod_eq_of_le (by omega) (by omega)]; omega
theorem own_arvnn {Z : State} {h : Heap} {a : Addr} {k : ClassId} {ty : FieldType} {z : Int32} {vs : List Value} {d : Value} (A : Arv Z h a k ty z vs d) : ¬ z < 0 := by
  obtain ⟨c, -, -, -, q, -⟩ := A
  exact q
theorem own_grow {n : Nat} (h : 16 < n) (h2 : n < 34) : (0 : Int32) < (Int32.ofNat n - (16 : Int32)) ∧ (Int32.ofNat n - (16 : Int32)) < (18 : Int32) := by
  have e1 := own_ofN (n := n) (by omega)
  constructor
  · rw [Int32.lt_iff_toInt_lt, Int32.toInt_sub, e1, show (0 : Int32).toInt = 0 from rfl, show (16 : Int32).toInt = 16 from rfl, Int.bmod_eq_of_le (by omega) (by omega)]; omega
  · rw [Int32.lt_iff_toInt_lt, Int32.toInt_sub, e1, show (18 : Int32).toInt = 18 from rfl, show (16 : Int32).toInt = 16 from rfl, Int.bmod_eq_of_le (by omega) (by omega)]; omega
theorem own_getmap (xs : List Int32) (i : Nat) : ((xs.map StrChars.lo8).map Value.int).getD i (.int 0) = Value.int ((xs.map StrChars.lo8).getD i 0) := by
  simp only [List.getD_eq_getElem?_getD, List.getElem?_map]
  cases xs[i]? <;> rfl
theorem own_appws (a b : List Int32) (i : Nat) : (((a ++ b).map StrChars.lo8).map Value.int).getD i (.int 0) = if a.length ≤ i ∧ i < a.length + b.length then ((b.map StrChars.lo8).map Value.int).getD (0 + (i - a.length)) (.int 0) else ((a.map StrChars.lo8).map Value.int).getD i (.int 0) := by
  simp only [List.getD_eq_getElem?_getD, List.getElem?_map, List.getElem?_append]
  by_cases h : i < a.length
  · rw [if_pos h, if_neg (by omega)]
  · rw [if_neg h]
    by_cases h2 : i < a.length + b.length
    · rw [if_pos ⟨by omega, h2⟩, Nat.zero_add]
    · rw [if_neg (by omega), List.getElem?_eq_none (by omega), List.getElem?_eq_none (by omega)]
theorem own_cpws {vs : List Value} {n : Nat} (h : vs.length ≤ n) (i : Nat) : vs.getD i (.int 0) = if 0 ≤ i ∧ i < 0 + n then vs.getD (0 + (i - 0)) (.int 0) else ([] : List Value).getD i (.int 0) := by
  by_cases q : i < n
  · rw [if_pos ⟨Nat.zero_le _, by omega⟩]; simp
  · rw [if_neg (by omega), List.getD_eq_getElem?_getD, List.getElem?_eq_none (by omega)]; rfl
theorem own_nneg {n : Nat} (h : n < 2 ^ 31) : ¬ (Int32.ofNat n < 0) := by
  rw [Int32.lt_iff_toInt_lt, own_ofN h, show (0 : Int32).toInt = 0 from rfl]; omega
theorem own_ltz {p2 za : Int32} {nv : Nat} (hz : ¬ za < 0) (hnv : p2 = Int32.ofNat nv) (hzc : nv ≤ za.toNatClampNeg) (hne : ¬ (p2 = za)) : p2 < za := by
  have hl := own_zlt za
  have e1 := own_ofN (n := nv) (by omega)
  have e2 := own_znat hz
  rw [Int32.lt_iff_toInt_lt]
  have : p2.toInt ≠ za.toInt := fun q => hne (Int32.toInt_inj.mp q)
  rw [hnv] at this ⊢
  omega
end OwnSb

section OwnLong
open Jvm.Free.SBG
variable {p : Program} {l : Launch} {e : Env} {R : Room} {s : State} {m : MethodId} {args : Array Value} {below : List Frame} {meth : Method} {c : Code} {T : State} {locs : List Loc} {cells slots : Nat} {Z : State} {h : Heap}
def own_nL (x : Int64) : Nat := x.toInt.natAbs
def own_ds (n : Nat) : List Int32 := (List.range (digitsL n)).map (fun t => Int32.ofNat (48 + n / 10 ^ (digitsL n - 1 - t) % 10))
def own_sg (x : Int64) : List Int32 := if x < 0 then [45] else []
def own_txt (x : Int64) : List Int32 := own_sg x ++ own_ds (own_nL x)
theorem own_nL_le (x : Int64) : own_nL x ≤ 2 ^ 63 := by
  have := x.le_toInt
  have := x.toInt_lt
  unfold own_nL
  omega
theorem own_nL_neg (x : Int64) : (if x < 0 then x else -x) = negL (own_nL x) := by
  have b1 := x.le_toInt
  have b2 := x.toInt_lt
  have z0 : (0 : Int64).toInt = 0 := rfl
  apply Int64.toInt_inj.mp
  rw [negL_toInt (own_nL_le x)]
  unfold own_nL
  by_cases hx : x < 0
  · rw [if_pos hx]
    rw [Int64.lt_iff_toInt_lt, z0] at hx
    omega
  · rw [if_neg hx]
    rw [Int64.lt_iff_toInt_lt, z0] at hx
    rw [Int64.toInt_neg, Int.bmod_eq_of_le (by omega) (by omega)]
    omega
theorem own_dslen (n : Nat) : (own_ds n).length = digitsL n := by simp [own_ds]
theorem own_sglen (x : Int64) : (own_sg x).length = GetCharsL.sgnL x := by unfold own_sg GetCharsL.sgnL; split <;> rfl
theorem own_txtlen (x : Int64) : (own_txt x).length = digitsL (own_nL x) + GetCharsL.sgnL x := by
  rw [own_txt, List.length_append, own_dslen, own_sglen, Nat.add_comm]
theorem own_size_txt (x : Int64) : strSizeOfL x = Int32.ofNat (own_txt x).length := by
  rw [strSizeOfL_eq (own_nL_le x) (own_nL_neg x), own_txtlen]
theorem own_out2 {D1 D2 A : Cell} {n idx i : Nat} {pcs sg : List Int32} (hidx : idx = pcs.length + sg.length + digitsL n)
    (hA : ∀ i, i < digitsL n → (digLoop D1 D2 10 A n idx).1.slots[idx - 1 - i]? = some (.int (Int32.ofNat (48 + n / 10 ^ i % 10)))) (hB : ∀ j, j < idx - digitsL n ∨ idx ≤ j → (digLoop D1 D2 10 A n idx).1.slots[j]? = A.slots[j]?)
    (hi : A.slots[i]? = some (((pcs.map StrChars.lo8).map Value.int).getD i (.int 0))) (hne : i < pcs.length ∨ pcs.length + sg.length ≤ i) :
    (digLoop D1 D2 10 A n idx).1.slots[i]? = some ((((pcs ++ (sg ++ own_ds n)).map StrChars.lo8).map Value.int).getD i (.int 0)) := by
  simp only [List.getD_eq_getElem?_getD, List.getElem?_map] at hi ⊢
  rcases hne with c1 | c2
  · rw [List.getElem?_append_left c1, hB i (Or.inl (by omega)), hi]
  · rw [List.getElem?_append_right (by omega), List.getElem?_append_right (by omega)]
    by_cases c3 : i < idx
    · have q := hA (idx - 1 - i) (by omega)
      rw [show idx - 1 - (idx - 1 - i) = i from by omega] at q
      have hd : (own_ds n)[i - pcs.length - sg.length]? = some (Int32.ofNat (48 + n / 10 ^ (idx - 1 - i) % 10)) := by
        simp only [own_ds, List.getElem?_map, List.getElem?_range (show i - pcs.length - sg.length < digitsL n by omega), Option.map_some]
        rw [show digitsL n - 1 - (i - pcs.length - sg.length) = idx - 1 - i from by omega]
      rw [q, hd]
      simp only [Option.map_some, Option.getD_some, StrChars.lo8]
      rw [dgNarrow _ (by omega)]
    · rw [hB i (Or.inr (by omega)), hi, List.getElem?_eq_none (show pcs.length ≤ i by omega), List.getElem?_eq_none (by rw [own_dslen]; omega)]
theorem own_out {g : GetCharsL.G} {pcs : List Int32} (h1 : Ones g.D1) (h2 : Tens g.D2) (hn : g.n = own_nL g.x) (hidx : g.idx = (pcs ++ own_txt g.x).length) (hsz : g.idx ≤ g.A.slots.size)
    (hH : ∀ k, k < g.A.slots.size → g.A.slots[k]? = some (((pcs.map StrChars.lo8).map Value.int).getD k (.int 0))) :
    ∀ i, i < g.A.slots.size → (GetCharsL.outCell g).slots[i]? = some ((((pcs ++ own_txt g.x).map StrChars.lo8).map Value.int).getD i (.int 0)) := fun i hi => by
  have hle := own_nL_le g.x
  have hlen : g.idx = pcs.length + (own_sg g.x).length + digitsL (own_nL g.x) := by rw [hidx, List.length_append, own_txtlen, own_sglen]; omega
  have hp : g.n < 100 ^ 10 := by
    rw [hn]
    have e : (100 : Nat) ^ 10 = 100000000000000000000 := by decide
    omega
  obtain ⟨hA, hB⟩ := digLoop_at h1 h2 10 g.A g.n g.idx hp (by show digitsL g.n ≤ _; rw [hn]; omega) hsz
  obtain ⟨-, -, f3, f4⟩ := digLoop_facts g.D1 g.D2 10 g.A g.n g.idx
  have ew : wN 10 g.n = digitsL g.n := rfl
  rw [ew] at hA hB f4
  have hlen' : g.idx = pcs.length + (own_sg g.x).length + digitsL g.n := by rw [hn]; exact hlen
  have et : own_txt g.x = own_sg g.x ++ own_ds g.n := by rw [hn]; rfl
  rw [et]
  by_cases hx : g.x < 0
  · have es : (own_sg g.x).length = 1 := by simp [own_sg, hx]
    have eo : GetCharsL.outCell g = put (digLoop g.D1 g.D2 10 g.A g.n g.idx).1 ((digLoop g.D1 g.D2 10 g.A g.n g.idx).2 - 1) 45 := by simp only [GetCharsL.outCell, if_pos hx]
    rw [eo]
    by_cases ci : i = pcs.length
    · rw [show (digLoop g.D1 g.D2 10 g.A g.n g.idx).2 - 1 = i from by rw [f4]; omega, dgPutAt _ (by rw [f3]; exact hi)]
      rw [show own_sg g.x = [45] from by simp [own_sg, hx], ci]
      simp only [List.getD_eq_getElem?_getD, List.getElem?_map, List.getElem?_append_right (Nat.le_refl _), Nat.sub_self]
      rfl
    · rw [dgPutNe _ (by rw [f4]; omega)]
      exact own_out2 hlen' hA hB (hH i hi) (by omega)
  · have es : (own_sg g.x).length = 0 := by simp [own_sg, hx]
    have eo : GetCharsL.outCell g = (digLoop g.D1 g.D2 10 g.A g.n g.idx).1 := by simp only [GetCharsL.outCell, if_neg hx]
    rw [eo]
    exact own_out2 hlen' hA hB (hH i hi) (by omega)
theorem own_strsize (X : Stand p l e R s m args below meth c T locs cells slots) (hx : p.tables.exec = Jvm.exec) (eT : T.heap = h) {own : String} {index : Nat} (hown : s.vm.findClass own = some m.cls)
    (hlink : (Cond.methodLink own index StrSizeL.ssN).before args s = true) (hstat : (Cond.static StrSizeL.ssN).before args s = true) (hinit : (Cond.initialized "java/lang/Long").before args s = true) (htab : StrSizeL.tab.before args s = true) (hcode : (Cond.code StrSizeL.ssN StrSizeL.ssB 6 (some .int)).before args s = true)
    {x : Int64} {g : JFrame} (hg : g.method = m) (hsize : g.locals.size = c.maxLocals) {rest : List Value} (hstack : g.stack = .long x :: rest) (hdg : decode c.code g.pc = .ok (.invokestatic index, 3)) {W : Nat} (hW : 2 * g.monitorRoom + (rest.map fun v => v.category).sum ≤ W)
    (hfr : 2 ≤ R.frames) (hlo : W + 57 ≤ R.locals) (hc : cells ≤ R.cells) (hs : slots ≤ R.slots) :
    ∃ T', Stand p l e R s m args below meth c T' locs cells slots ∧ T'.heap = h ∧ ∀ target, Steps p.tables e below (T'.setTop { g with pc := g.pc + 3, stack := .int (Int32.ofNat (own_txt x).length) :: rest }) target → Steps p.tables e below (T.setTop g) target := by
  have back := StrSizeL.pays (l := l) (R := R) (p := p) (e := e) (below := below) (s := s) (args := args) (W := W) hfr hlo htab hinit
  obtain ⟨v, vm₁, ⟨T', L', c', s'⟩, -, X', ⟨⟨q1, q2, q3, q4⟩, hv⟩, st⟩ := Jvm.LawKit.callS X hx (y := StrSizeL.ssN) hown hlink hstat hinit hcode (by decide) back hg hsize (argsL := [.long x]) (rest := rest)
    (fun sig hsig => by cases (show parseMethodDescriptor "(J)I" = some ⟨[.long], some .int⟩ from by decide +kernel).symm.trans hsig; rfl) hstack hW hdg (fun vm _ => ⟨hc, hs, x, rfl⟩)
  dsimp only [Pt.U, Pt.locs, Pt.cells, Pt.slots] at X' q1 q2 q3 q4 st
  subst q2 q3 q4
  rw [hv x rfl, own_size_txt] at st
  exact ⟨T', X', q1.trans eT, st⟩
theorem own_getchars (X : Stand p l e R s m args below meth c T locs cells slots) (hx : p.tables.exec = Jvm.exec) (hZ : Z.Warmed39 s.vm) (eT : T.heap = h) {own : String} {index : Nat} (hown : s.vm.findClass own = some m.cls)
    (hlink : (Cond.methodLink own index GetCharsL.gcN).before args s = true) (hstat : (Cond.static GetCharsL.gcN).before args s = true) (hinit : (Cond.initialized "java/lang/Long").before args s = true) (htab : GetCharsL.tab.before args s = true) (hcode : (Cond.code GetCharsL.gcN GetCharsL.gcB 11 (some .int)).before args s = true)
    (E : Ext Z.heap h) {st d1 d2 : Addr} {D1 D2 : Cell} (t1 : Tbl Z "DigitOnes" st d1 D1) (t2 : Tbl Z "DigitTens" st d2 D2) (o1 : Ones D1) (o2 : Tens D2) {da : Addr} (n1 : da ≠ st) (n2 : da ≠ d1) (n3 : da ≠ d2)
    {kd : ClassId} {zd : Int32} {pcs : List Int32} (D : Arv Z h da kd .byte zd ((pcs.map StrChars.lo8).map Value.int) (.int 0)) {x : Int64} {jx : Int32} (ej : jx = Int32.ofNat (pcs ++ own_txt x).length) (hcap : (pcs ++ own_txt x).length ≤ zd.toNatClampNeg)
    {g : JFrame} (hg : g.method = m) (hsize : g.locals.size = c.maxLocals) {rest : List Value} (hstack : g.stack = .ref da :: .int jx :: .long x :: rest) (hdg : decode c.code g.pc = .ok (.invokestatic index, 3)) {W : Nat} (hW : 2 * g.monitorRoom + (rest.map fun v => v.category).sum ≤ W)
    (hfr : 2 ≤ R.frames) (hlo : W + 102 ≤ R.locals) (hc : cells ≤ R.cells) (hs : slots ≤ R.slots) :
    ∃ T' L' v, Stand p l e R s m args below meth c T' (locs ++ L') cells slots ∧ (∀ k, k ≤ da → Fr k L') ∧ Keep h T'.heap [da] ∧ Arv Z T'.heap da kd .byte zd (((pcs ++ own_txt x).map StrChars.lo8).map Value.int) (.int 0) ∧
      ∀ target, Steps p.tables e below (T'.setTop { g with pc := g.pc + 3, stack := .int v :: rest }) target → Steps p.tables e below (T.setTop g) target := by
  obtain ⟨cd, ⟨a1, a2, a3⟩, dk, dz, dn, dH, dG⟩ := D
  have zlt : zd.toNatClampNeg < 2 ^ 31 := by have := zd.toInt_lt; show zd.toInt.toNat < 2 ^ 31; omega
  let G0 : GetCharsL.G := { x := x, n := own_nL x, idx := (pcs ++ own_txt x).length, da := da, A := cd, st := st, d1 := d1, D1 := D1, d2 := d2, D2 := D2 }
  have hroom : digitsL G0.n + GetCharsL.sgnL G0.x ≤ G0.idx := by show digitsL (own_nL x) + GetCharsL.sgnL x ≤ (pcs ++ own_txt x).length; rw [List.length_append, own_txtlen]; omega
  have back := GetCharsL.pays (l := l) (R := R) (p := p) (e := e) (below := below) (s := s) (sargs := args) G0 W htab hinit hfr hlo
  have f1 := t1.choose_spec.choose_spec.choose_spec.choose_spec.choose_spec.2.2.2.2.2.2.2.1
  have f2 := t2.choose_spec.choose_spec.choose_spec.choose_spec.choose_spec.2.2.2.2.2.2.2.1
  obtain ⟨v, vm₁, ⟨T', L', c', s'⟩, -, X', ⟨hv, hcell, q3, q4, hsz, hkeep, L, hL, hLb⟩, st'⟩ := Jvm.LawKit.callS X hx (y := GetCharsL.gcN) hown hlink hstat hinit hcode (by decide) back hg hsize (argsL := [.long x, .int jx, .ref da]) (rest := rest)
    (fun sig hsig => by cases (show parseMethodDescriptor "(JI[B)I" = some ⟨[.long, .int, .array .byte], some .int⟩ from by decide +kernel).symm.trans hsig; rfl) hstack hW hdg
    (fun vm hvm => by
      have hal : Z.vm.Alike (T.setVm vm).vm := (wtrans hZ hvm).alike
      have hh : (T.setVm vm).heap = h := eT
      subst ej
      refine ⟨rfl, hc, hs, rfl, by rw [hh]; exact a1, State.isArrayOf_alike hal a2, a3, by show cd.slots.size < _; omega, by show _ ≤ cd.slots.size; rw [dz]; exact hcap, hroom, own_nL_le x, own_nL_neg x, t1.move hal (fun c hc => by rw [hh]; exact E.2 _ _ hc) (by rw [hh]; exact E.2 _ _ f1), t2.move hal (fun c hc => by rw [hh]; exact E.2 _ _ hc) (by rw [hh]; exact E.2 _ _ f2), n1, n2, n3⟩)
  dsimp only [Pt.U, Pt.locs, Pt.cells, Pt.slots] at X' hcell q3 q4 hsz hkeep hL st'
  have hh : ∀ vm, (T.setVm vm).heap = h := fun _ => eT
  rw [hh] at hsz
  subst hL q3 q4
  rw [hv] at st'
  have by8 : ∀ i, i < cd.slots.size → fits .byte (cd.slots.getD i .null) = true := fun i hi => by rw [Array.getD_eq_getD_getElem?, dH i hi]; exact dG i hi
  obtain ⟨g1, g2, g3, g4, -⟩ := GetCharsL.outCell_facts G0 (own_nL_le x) hroom by8
  have hout := own_out (g := G0) (pcs := pcs) o1 o2 rfl rfl (by show _ ≤ cd.slots.size; rw [dz]; exact hcap) dH
  refine ⟨T', L, _, X', fun k hk y hy => by rw [hLb y hy]; exact hk, ?_, ?_, st'⟩
  · refine ⟨by omega, fun y cy hcy hy => hkeep y cy (fun q => hy (by simp [q, G0])) (by rw [hh]; exact hcy), fun y cy hcy => ?_⟩
    by_cases q : y = da
    · subst q
      cases a1.symm.trans hcy
      exact ⟨_, hcell, g1, g2, g3⟩
    · exact ⟨cy, hkeep y cy q (by rw [hh]; exact hcy), rfl, rfl, rfl⟩
  · obtain ⟨v0, k0, h0, r0⟩ := a2
    refine ⟨_, ⟨hcell, ⟨by rw [g2]; exact v0, k0, by rw [g1]; exact h0, r0⟩, by rw [g2]; exact a3⟩, g1.trans dk, g3.trans dz, dn, fun i hi => hout i (by rw [g3] at hi; exact hi), fun i hi => ?_⟩
    have q := g4 i hi
    rw [Array.getD_eq_getD_getElem?, hout i (by rw [g3] at hi; exact hi)] at q
    exact q
theorem own_bytesC {a : Array Value} {name : String} {rhs : Term} {F : Nat → Nat} (w2 : (Cond.exactly (Tof name) "[B").before a s = true) (w3 : (Cond.eq (.length (Tof name)) (.int 100)).before a s = true)
    (hr : ∀ r, r < 100 → rhs.eval a s none [r] s = some (.int (Int32.ofNat (F r)))) (hF : ∀ r, r < 100 → F r < 128) (w4 : (Cond.all (Tof name) (.eq (.elem (Tof name) (.index 0)) rhs)).before a s = true) : (bytesC (Tof name)).before a s = true := by
  obtain ⟨d, -, -, -, hev, -⟩ := Cond.exactly_spec w2
  have hl := Cond.eq_int w3 rfl
  obtain ⟨d', D, hev', hat, hln⟩ := Term.length_spec hl
  cases hev.symm.trans hev'
  have hsz : D.slots.size = 100 := by
    have h31 := length_lt hev hat hl
    have e1 : Int32.ofNat D.slots.size = Int32.ofNat 100 := (Value.int.inj hln).symm
    have e2 := congrArg Int32.toInt e1
    rw [len_toInt h31, len_toInt (by omega)] at e2
    omega
  refine Cond.before_iff.mpr (Cond.all_intro hev hat fun i hi => ?_)
  have q := eqv_i (hr i (by omega)) (Cond.all_elim hev hat (Cond.before_iff.mp w4) i hi)
  have hb : (-128 : Int32) ≤ Int32.ofNat (F i) ∧ Int32.ofNat (F i) ≤ 127 := by
    have hf := hF i (by omega)
    have e : (Int32.ofNat (F i)).toInt = (F i : Int) := len_toInt (by omega)
    rw [Int32.le_iff_toInt_le, Int32.le_iff_toInt_le, e, show (-128 : Int32).toInt = -128 from rfl, show (127 : Int32).toInt = 127 from rfl]
    omega
  have k1 : (Cond.le (.int (-128)) (.elem (Tof name) (.index 0))).value a s none s [i] = some true := by rw [Cond.le_ints (Term.int_eval (-128)) q, decide_eq_true hb.1]
  have k2 : (Cond.le (.elem (Tof name) (.index 0)) (.int 127)).value a s none s [i] = some true := by rw [Cond.le_ints q (Term.int_eval 127), decide_eq_true hb.2]
  show (Cond.and _ _).value a s none s [i] = some true
  simp only [Cond.value] at k1 k2 ⊢
  rw [k1, k2]
theorem own_tables {a : Array Value} (i1 : (Cond.initialized "java/lang/Integer").before a s = true) (ar : (Cond.arrayClass .byte).before a s = true)
    (a1 : (Cond.laysStatic "java/lang/Integer" "DigitOnes" "[B").before a s = true) (a2 : (Cond.exactly (Tof "DigitOnes") "[B").before a s = true) (a3 : (Cond.eq (.length (Tof "DigitOnes")) (.int 100)).before a s = true) (a4 : onesW.before a s = true)
    (b1 : (Cond.laysStatic "java/lang/Integer" "DigitTens" "[B").before a s = true) (b2 : (Cond.exactly (Tof "DigitTens") "[B").before a s = true) (b3 : (Cond.eq (.length (Tof "DigitTens")) (.int 100)).before a s = true) (b4 : tensW.before a s = true) :
    ∃ (st d1 d2 : Addr) (D1 D2 : Cell), Tbl s "DigitOnes" st d1 D1 ∧ Tbl s "DigitTens" st d2 D2 ∧ Ones D1 ∧ Tens D2 ∧ st < s.heap.size ∧ d1 < s.heap.size ∧ d2 < s.heap.size := by
  have c1 := own_bytesC (F := fun r => 48 + r % 10) a2 a3 (fun r hr => by rw [← ones_num r hr]; rfl) (fun r hr => by omega) a4
  have c2 := own_bytesC (F := fun r => 48 + r / 10) b2 b3 (fun r hr => by rw [← tens_num r hr]; rfl) (fun r hr => by omega) b4
  obtain ⟨c, k, st, d1, D1, h1, h2, h3, t1, o1⟩ := ones_of_words (a := a) (s := s) (fun w hw => by
    simp only [tblW, List.mem_cons, List.not_mem_nil, or_false] at hw
    rcases hw with rfl | rfl | rfl | rfl
    · exact a1
    · exact a2
    · exact a3
    · exact c1) a4 i1 ar
  obtain ⟨c', k', st', d2, D2, h1', h2', h3', t2, o2⟩ := tens_of_words (a := a) (s := s) (fun w hw => by
    simp only [tblW, List.mem_cons, List.not_mem_nil, or_false] at hw
    rcases hw with rfl | rfl | rfl | rfl
    · exact b1
    · exact b2
    · exact b3
    · exact c2) b4 i1 ar
  cases h1.symm.trans h1'
  cases h2.symm.trans h2'
  cases h3.symm.trans h3'
  have f1 := t1.choose_spec.choose_spec.choose_spec.choose_spec.choose_spec.2.2.2.2.2.2.2.1
  have f2 := t2.choose_spec.choose_spec.choose_spec.choose_spec.choose_spec.2.2.2.2.2.2.2.1
  have f0 := t1.choose_spec.choose_spec.choose_spec.choose_spec.choose_spec.2.2.2.2.1
  exact ⟨st, d1, d2, D1, D2, t1, t2, o1, o2, (Array.getElem?_eq_some_iff.mp f0).1, (Array.getElem?_eq_some_iff.mp f1).1, (Array.getElem?_eq_some_iff.mp f2).1⟩
end OwnLong

section OwnNum
open Jvm.Free.SBG
def own_val (cs : List Int32) : Nat := cs.foldl (fun v c => 10 * v + (c.toInt.toNat - 48)) 0
theorem own_val_snoc (cs : List Int32) (c : Int32) : own_val (cs ++ [c]) = 10 * own_val cs + (c.toInt.toNat - 48) := by simp [own_val]
theorem own_lt10 : ∀ f n : Nat, n < 100 ^ f → n < 10 ^ wN f n := by
  intro f
  induction f with
  | zero => intro n h; simpa [wN] using h
  | succ f ih =>
    intro n h
    simp only [wN]
    by_cases h1 : 100 ≤ n
    · rw [if_pos h1]
      have q := ih (n / 100) (Nat.div_lt_of_lt_mul (by rw [Nat.pow_succ, Nat.mul_comm] at h; exact h))
      rw [Nat.pow_add, show (10 : Nat) ^ 2 = 100 from rfl]
      omega
    · rw [if_neg h1]
      by_cases h2 : 9 < n
      · rw [if_pos h2, show (10 : Nat) ^ 2 = 100 from rfl]; omega
      · rw [if_neg h2, Nat.pow_one]; omega
theorem own_ge10 : ∀ f n : Nat, n < 100 ^ f → 1 < wN f n → 10 ^ (wN f n - 1) ≤ n := by
  intro f
  induction f with
  | zero => intro n h h1; simp [wN] at h1
  | succ f ih =>
    intro n h hw
    simp only [wN] at hw ⊢
    by_cases h1 : 100 ≤ n
    · rw [if_pos h1] at hw ⊢
      have hn : n / 100 < 100 ^ f := Nat.div_lt_of_lt_mul (by rw [Nat.pow_succ, Nat.mul_comm] at h; exact h)
      by_cases h2 : 1 < wN f (n / 100)
      · have q := ih (n / 100) hn h2
        rw [show 2 + wN f (n / 100) - 1 = 2 + (wN f (n / 100) - 1) from by omega, Nat.pow_add, show (10 : Nat) ^ 2 = 100 from rfl]
        omega
      · have hf : wN f (n / 100) ≤ 1 := by omega
        by_cases h3 : wN f (n / 100) = 1
        · rw [h3, show 2 + 1 - 1 = 2 from rfl, show (10 : Nat) ^ 2 = 100 from rfl]; exact h1
        · rw [show wN f (n / 100) = 0 from by omega, show 2 + 0 - 1 = 1 from rfl, Nat.pow_one]; omega
    · rw [if_neg h1] at hw ⊢
      by_cases h2 : 9 < n
      · rw [if_pos h2, show 2 - 1 = 1 from rfl, Nat.pow_one]; omega
      · rw [if_neg h2] at hw; omega
theorem own_n100 {n : Nat} (h : n ≤ 2 ^ 63) : n < 100 ^ 10 := by
  have e : (100 : Nat) ^ 10 = 100000000000000000000 := by decide
  omega
theorem own_ltw {n : Nat} (h : n ≤ 2 ^ 63) : n < 10 ^ digitsL n := own_lt10 10 n (own_n100 h)
theorem own_w19 {n : Nat} (h : n ≤ 2 ^ 63) : digitsL n ≤ 19 := by
  have h1 := (digitsL_pos n).2
  by_cases q : digitsL n = 20
  · have k := own_ge10 10 n (own_n100 h) (by show 1 < digitsL n; omega)
    rw [show wN 10 n = 20 from q, show 20 - 1 = 19 from rfl] at k
    have e : (10 : Nat) ^ 19 = 10000000000000000000 := by decide
    omega
  · omega
theorem own_dsat {n t : Nat} (h : t < digitsL n) : (own_ds n)[t]? = some (Int32.ofNat (48 + n / 10 ^ (digitsL n - 1 - t) % 10)) := by
  simp only [own_ds, List.getElem?_map, List.getElem?_range h, Option.map_some]
theorem own_digI (k : Nat) : (Int32.ofNat (48 + k % 10)).toInt = ((48 + k % 10 : Nat) : Int) := len_toInt (by omega)
theorem own_take {n : Nat} (hn : n ≤ 2 ^ 63) : ∀ k, k ≤ digitsL n → own_val ((own_ds n).take k) = n / 10 ^ (digitsL n - k) := by
  intro k
  induction k with
  | zero => intro _; rw [List.take_zero, Nat.sub_zero, Nat.div_eq_of_lt (own_ltw hn)]; rfl
  | succ k ih =>
    intro hk
    rw [List.take_add_one, own_dsat (show k < digitsL n by omega), Option.toList_some, own_val_snoc, ih (by omega), own_digI]
    rw [show digitsL n - k = (digitsL n - (k + 1)) + 1 from by omega, Nat.pow_succ, ← Nat.div_div_eq_div_mul, show digitsL n - 1 - k = digitsL n - (k + 1) from by omega]
    omega
theorem own_val_ds {n : Nat} (hn : n ≤ 2 ^ 63) : own_val (own_ds n) = n := by
  have q := own_take hn (digitsL n) (Nat.le_refl _)
  rw [List.take_of_length_le (by rw [own_dslen]; exact Nat.le_refl _), Nat.sub_self, Nat.pow_zero, Nat.div_one] at q
  exact q
theorem own_take_le {n k : Nat} (hn : n ≤ 2 ^ 63) : own_val ((own_ds n).take k) ≤ n := by
  by_cases h : k ≤ digitsL n
  · rw [own_take hn k h]; exact Nat.div_le_self _ _
  · rw [List.take_of_length_le (by rw [own_dslen]; omega), own_val_ds hn]; exact Nat.le_refl _
theorem own_dig {n t : Nat} (h : t < (own_ds n).length) : 48 ≤ ((own_ds n).getD t 0).toInt ∧ ((own_ds n).getD t 0).toInt ≤ 57 := by
  rw [own_dslen] at h
  rw [List.getD_eq_getElem?_getD, own_dsat h, Option.getD_some, own_digI]
  omega
theorem own_takeS {n k : Nat} (h : k < (own_ds n).length) : own_val ((own_ds n).take (k + 1)) = 10 * own_val ((own_ds n).take k) + (((own_ds n).getD k 0).toInt.toNat - 48) := by
  rw [List.take_add_one, List.getElem?_eq_getElem h, Option.toList_some, own_val_snoc, List.getD_eq_getElem?_getD, List.getElem?_eq_getElem h, Option.getD_some]
theorem own_takeE {n k : Nat} (h : ¬ k < (own_ds n).length) : own_val ((own_ds n).take (k + 1)) = own_val ((own_ds n).take k) := by
  rw [List.take_of_length_le (by omega), List.take_of_length_le (by omega)]
theorem own_lead {n : Nat} (hn : n ≤ 2 ^ 63) (h : 1 < (own_ds n).length) : ¬ ((own_ds n).getD 0 0 = 48) := fun q => by
  rw [own_dslen] at h
  have k := own_ge10 10 n (own_n100 hn) h
  have k2 := own_ltw hn
  rw [List.getD_eq_getElem?_getD, own_dsat (show 0 < digitsL n by omega), Option.getD_some] at q
  have q2 := congrArg Int32.toInt q
  rw [own_digI, show (48 : Int32).toInt = 48 from rfl] at q2
  rw [show wN 10 n - 1 = digitsL n - 1 - 0 from rfl] at k
  rw [show digitsL n = (digitsL n - 1 - 0) + 1 from by omega, Nat.pow_succ] at k2
  have a1 : 1 ≤ n / 10 ^ (digitsL n - 1 - 0) := (Nat.le_div_iff_mul_le (Nat.pow_pos (by decide))).mpr (by rw [Nat.one_mul]; exact k)
  have a2 : n / 10 ^ (digitsL n - 1 - 0) < 10 := Nat.div_lt_of_lt_mul k2
  omega
/-- one step of the reader -/
theorem own_st {v : Nat} {c : Int32} (hc : 48 ≤ c.toInt ∧ c.toInt ≤ 57) (hv : 10 * v + (c.toInt.toNat - 48) ≤ 2 ^ 63) :
    ¬ (lcmpW (negL v) (-922337203685477580) < 0) ∧ ¬ (lcmpW (negL v * 10) ((-9223372036854775808 : Int64) + (c - 48).toInt64) < 0) ∧ negL v * 10 - (c - 48).toInt64 = negL (10 * v + (c.toInt.toNat - 48)) := by
  have e1 : (negL v).toInt = -(v : Int) := negL_toInt (by omega)
  have e2 : (negL v * 10).toInt = -(10 * (v : Int)) := by
    rw [Int64.toInt_mul, e1, show (10 : Int64).toInt = 10 from rfl, Int.bmod_eq_of_le (by omega) (by omega)]; omega
  have e3 : (c - 48).toInt64.toInt = c.toInt - 48 := by
    rw [Int32.toInt_toInt64, Int32.toInt_sub, show (48 : Int32).toInt = 48 from rfl, Int.bmod_eq_of_le (by omega) (by omega)]
  refine ⟨?_, ?_, ?_⟩
  · rw [lw_lt, Int64.lt_iff_toInt_lt, e1, show (-922337203685477580 : Int64).toInt = -922337203685477580 from rfl]; omega
  · rw [lw_lt, Int64.lt_iff_toInt_lt, e2, Int64.toInt_add, e3, show (-9223372036854775808 : Int64).toInt = -9223372036854775808 from rfl, Int.bmod_eq_of_le (by omega) (by omega)]; omega
  · apply Int64.toInt_inj.mp
    rw [Int64.toInt_sub, e2, e3, negL_toInt hv, Int.bmod_eq_of_le (by omega) (by omega)]; omega
theorem own_nl0 {v : Nat} (hv : v ≤ 2 ^ 63) : ¬ ((0 : Int32) < lcmpW (negL v) 0) := by
  rw [lw_gt, Int64.lt_iff_toInt_lt, negL_toInt hv, show (0 : Int64).toInt = 0 from rfl]; omega
theorem own_v0 (ds : List Int32) : (0 : Int64) = negL (own_val (List.take 0 ds)) := by rw [List.take_zero]; decide
/-- the end of the law -/
theorem own_negend {x : Int64} (hx : x < 0) : negL (own_nL x) = x := by rw [← own_nL_neg x, if_pos hx]
theorem own_posend {x : Int64} (hx : ¬ x < 0) : ¬ (lcmpW (negL (own_nL x)) (-9223372036854775808) = 0) ∧ lcmpW (-negL (own_nL x)) x = 0 := by
  have b1 := x.toInt_lt
  have z0 : (0 : Int64).toInt = 0 := rfl
  have q := own_nL_neg x
  rw [if_neg hx] at q
  rw [Int64.lt_iff_toInt_lt, z0] at hx
  have e : (negL (own_nL x)).toInt = -x.toInt := by rw [← q, Int64.toInt_neg, Int.bmod_eq_of_le (by omega) (by omega)]
  constructor
  · rw [lw_eq, ← Int64.toInt_inj, e, show (-9223372036854775808 : Int64).toInt = -9223372036854775808 from rfl]; omega
  · rw [lw_eq, ← Int64.toInt_inj, Int64.toInt_neg, e, Int.bmod_eq_of_le (by omega) (by omega)]; omega
end OwnNum

theorem own_EW (Z : State) (a0 : Array Value) (hw : ∀ d ∈ tables_1, d.before a0 Z = true) : EW Z a0 consts_1 := (EW.cons (ow hw 38 rfl) (by decide) (EW.cons (ow hw 72 rfl) (by decide) (EW.cons (ow hw 120 rfl) (by decide) (EW.cons (ow hw 244 rfl) (by decide) EW.nil))))
theorem own_one {v : Int32} (hv : ¬ v < 0 ∧ ¬ (255 : Int32) < v) : ∀ c ∈ ([v] : List Int32), ¬ c < 0 ∧ ¬ (255 : Int32) < c := fun c hc => by rw [List.mem_singleton.mp hc]; exact hv
theorem own_litU : ((([99, 111, 108, 117, 109, 110, 32] : List Int32).map StrChars.lo8).map Value.int) = ([(.int 99), (.int 111), (.int 108), (.int 117), (.int 109), (.int 110), (.int 32)] : List Value) := by rfl
theorem own_litS : ((([32] : List Int32).map StrChars.lo8).map Value.int) = ([(.int 32)] : List Value) := by rfl
theorem own_c16 : (16 : Int32).toNatClampNeg = 16 := by decide
theorem own_c34 : (34 : Int32).toNatClampNeg = 34 := by decide
theorem own_txt20 (x : Int64) : (own_txt x).length ≤ 20 := by
  have h := own_w19 (own_nL_le x)
  rw [own_txtlen]
  unfold Jvm.Free.SBG.GetCharsL.sgnL
  split <;> omega
def own_ch (x : Int32) : Int32 := x &&& (255 : Int32)
def own_RC (o : List Int32) (x : Int64) : List Int32 := ((((([] : List Int32) ++ ([99, 111, 108, 117, 109, 110, 32] : List Int32)) ++ o) ++ ([32] : List Int32)) ++ own_txt x)
theorem own_addj {p : Int32} {k : Nat} (j : Nat) (h : p = Int32.ofNat k) : p + Int32.ofNat j = Int32.ofNat (k + j) := by rw [h]; exact (Int32.ofNat_add k j).symm
theorem own_ef_rm_emp2 (m : MethodId) (x0 : Addr) (x1 : Addr) (x2 : Int32) (x3 : Int32) : entryFrame m #[(.ref x0), (.ref x1), (.int x2), (.int x3), .null] 6 = mkF m 0 #[.val (.ref x0), .val (.ref x1), .val (.int x2), .val (.int x3), .val .null, .unset] [] := by first | (simp [entryFrame, mkF, argsToLocals, Value.category]; done) | rfl
theorem own_pn0 : plainName "java/lang/String" = true := by first | (simp [plainName, overriddenIn]; done) | decide +kernel
theorem od0_0 : decode jdk_42_method_149_code 0 = .ok (.aload_n 0, 1) := by decide +kernel
theorem od0_1 : decode jdk_42_method_149_code 1 = .ok (.invokespecial 1, 3) := by decide +kernel
theorem od0_4 : decode jdk_42_method_149_code 4 = .ok (.iload_n 3, 1) := by decide +kernel
theorem od0_5 : decode jdk_42_method_149_code 5 = .ok (.ifCond .ne 22, 3) := by decide +kernel
theorem od0_8 : decode jdk_42_method_149_code 8 = .ok (.aload_n 0, 1) := by decide +kernel
theorem od0_9 : decode jdk_42_method_149_code 9 = .ok (.ldc 7, 2) := by decide +kernel
theorem od0_11 : decode jdk_42_method_149_code 11 = .ok (.getfield 9, 3) := by decide +kernel
theorem od0_14 : decode jdk_42_method_149_code 14 = .ok (.putfield 9, 3) := by decide +kernel
theorem od0_17 : decode jdk_42_method_149_code 17 = .ok (.aload_n 0, 1) := by decide +kernel
theorem od0_18 : decode jdk_42_method_149_code 18 = .ok (.ldc 7, 2) := by decide +kernel
theorem od0_20 : decode jdk_42_method_149_code 20 = .ok (.getfield 15, 3) := by decide +kernel
theorem od0_23 : decode jdk_42_method_149_code 23 = .ok (.putfield 15, 3) := by decide +kernel
theorem od0_26 : decode jdk_42_method_149_code 26 = .ok (.return_, 1) := by decide +kernel
def Q_rm_emp2 (Z : State) (g_CS : Int32) (p0 : Addr) (p1 : Addr) (h0 : Heap) (n0 : Nat) (v : Option Value) (h : Heap) (L : List Loc) : Prop := ∃ (vb : Addr) (kb : ClassId), v = none ∧ Fr n0 L ∧ Keep h0 h [p0] ∧ Exa Z h p0 "java/lang/String" ∧ Fld Z h p0 "java/lang/String" "coder" "B" (.int 0) ∧ Fld Z h p0 "java/lang/String" "value" "[B" (.ref vb) ∧ Arv Z h vb kb .byte (0 : Int32) [] (.int 0)
set_option maxRecDepth 65536 in
set_option maxHeartbeats 40000000 in
theorem rm_emp2 (l : Launch) (Z : State) (a0 : Array Value) (hw : ∀ d ∈ tables_1, d.before a0 Z = true) (ws : List Jvm.Cond) (g_CS : Int32) (S_CS : Sta Z Z.heap "java/lang/String" "COMPACT_STRINGS" "Z" (.int g_CS)) (nz_CS : ¬ (g_CS = (0 : Int32))) (p0 : Addr) (p1 : Addr) (h0 : Heap) (n0 : Nat) (X00 : Old Z n0 h0) (hp0 : Exa Z h0 p0 "java/lang/String") (hp1 : Fld Z h0 p0 "java/lang/String" "value" "[B" .null) (hp2 : Fld Z h0 p0 "java/lang/String" "coder" "B" (.int 0)) (hp3 : n0 ≤ p0) :
    MetFree l (⟨"java/lang/String", "<init>", "([CIILjava/lang/Void;)V"⟩ : MethodName) (head1 (Jvm.Cond.code (⟨"java/lang/String", "<init>", "([CIILjava/lang/Void;)V"⟩ : MethodName) jdk_42_method_149_code 6 none :: ws) ({ frames := 1, cells := 4, slots := 8, locals := 12 } : Room)) (fun a U => a = #[(.ref p0), (.ref p1), (.int 0), (.int 0), .null] ∧ Z.Warmed39 U.vm ∧ U.heap = h0 ∧ CHv Z consts_1 U.vm h0) (fun _ _ _ _ _ => True) (fun _ U o U' => ∃ v L, o = .returned v ∧ Q_rm_emp2 Z g_CS p0 p1 h0 n0 v U'.heap L ∧ CHr Z consts_1 U.vm U.heap U'.vm U'.heap ∧ ReturnedEndW U o U' L ({ frames := 1, cells := 4, slots := 8, locals := 12 } : Room).cells ({ frames := 1, cells := 4, slots := 8, locals := 12 } : Room).slots) := by
  refine MetFree.of_bodySF (plainFor_of_name own_pn0) hisR ?_
  intro p e s m args below meth c s₁ Bd hml0 hP hK
  obtain ⟨rfl, hZ, hh, hCH⟩ := hP
  have hEL := own_EW Z a0 hw
  have CR0 : CHr Z consts_1 s.vm h0 s.vm h0 := CHr.refl hCH
  have hx := Bd.exec
  have hby := Bd.bytes
  have hml : c.maxLocals = 6 := hml0
  have hown : s.vm.findClass "java/lang/String" = some m.cls := findClass_of_methodNamed Bd.named
  have hnm := (name_of_methodNamed Bd.named Bd.method).1
  have X0 : Stand p l e ({ frames := 1, cells := 4, slots := 8, locals := 12 } : Room) (s.setVm s.vm) m #[(.ref p0), (.ref p1), (.int 0), (.int 0), .null] below meth c s₁ [] 0 0 := Stand.of_body Bd
  have e0 : s₁.heap = h0 := by rw [← hh, Bd.state]; rfl
  have N0 := Fr.nil n0
  have hS0 : s.Since s.vm 0 := own_since s
  have hk0 : 0 ≤ h0.size := Nat.zero_le _
  have hZ : Z.Warmed39 (s.setVm s.vm).vm := hZ
  have hown : (s.setVm s.vm).vm.findClass "java/lang/String" = some m.cls := hown
  refine Go.start fun P hPend => ?_
  refine Go.st (fun _ k => castTop (own_ef_rm_emp2 m p0 p1 ((0 : Int32)) ((0 : Int32))) k) ?_
  show Go _ _ _ _ (s₁.setTop (mkF m 0 #[lR p0, lR p1, lI (0 : Int32), lI (0 : Int32), lN, lU] []))
  refine Go.st (fun _ => XS.aloadN X0.here hx rfl (hb hby od0_0) rfl rfl) ?_
  show Go _ _ _ _ (s₁.setTop (mkF m 1 #[lR p0, lR p1, lI (0 : Int32), lI (0 : Int32), lN, lU] [(.ref p0)]))
  obtain ⟨T1, X1, e1, st1⟩ := initO X0 hx hZ hown (ow hw 19 rfl) (ow hw 20 rfl) (ow hw 21 rfl) e0 (g := (mkF m 1 #[lR p0, lR p1, lI (0 : Int32), lI (0 : Int32), lN, lU] [(.ref p0)])) rfl (by rw [hml]; rfl) rfl (hb hby od0_1) (by decide) (W := 0) (by show 2 * 0 + _ ≤ _; exact Nat.le_of_eq rfl) (by decide)
  refine Go.st st1 ?_
  show Go _ _ _ _ (T1.setTop (mkF m 4 #[lR p0, lR p1, lI (0 : Int32), lI (0 : Int32), lN, lU] []))
  refine Go.st (fun _ => XS.iloadN X1.here hx rfl (hb hby od0_4) rfl) ?_
  show Go _ _ _ _ (T1.setTop (mkF m 5 #[lR p0, lR p1, lI (0 : Int32), lI (0 : Int32), lN, lU] [(.int 0)]))
  refine Go.st (fun _ => XS.ifNo X1.here hx rfl (hb hby od0_5) rfl ((if0 _ _).trans (teq (by decide)).2)) ?_
  show Go _ _ _ _ (T1.setTop (mkF m 8 #[lR p0, lR p1, lI (0 : Int32), lI (0 : Int32), lN, lU] []))
  refine Go.st (fun _ => XS.aloadN X1.here hx rfl (hb hby od0_8) rfl rfl) ?_
  show Go _ _ _ _ (T1.setTop (mkF m 9 #[lR p0, lR p1, lI (0 : Int32), lI (0 : Int32), lN, lU] [(.ref p0)]))
  obtain ⟨a2, T2, h2, kk2, b2, kb2, X2, e2, E2, hS2, hk2, hZ2, hown2, Ea2, Ca2, Va2, Ab2, alt2, blt2, hCR2, Li2, hne2, st2⟩ := ldcCH X1 hx hZ hown (ow hw 244 rfl) (fun a ha => hw a (own_strAtoms a ha)) e1 hS0 hk0 hEL (by decide +kernel) CR0.1 (vs := []) (z := (0 : Int32)) (by decide +kernel) (by decide) rfl (g := (mkF m 9 #[lR p0, lR p1, lI (0 : Int32), lI (0 : Int32), lN, lU] [(.ref p0)])) rfl (hb hby od0_9) (n := 0) (by decide +kernel) (by decide) (by decide) (by decide)
  refine Go.st st2 ?_
  have K2 : Keep h0 h2 [p0] := (Keep.refl h0 [p0]).ext E2
  have O2 := X00.ext E2
  have CR2 := CR0.trans hCR2
  have c3 := (hp0.ext E2)
  have c4 := (hp1.ext E2)
  have ne5 := hne2 p0 (own_safe_null hZ2.alike c3 c4)
  show Go _ _ _ _ (T2.setTop (mkF m 11 #[lR p0, lR p1, lI (0 : Int32), lI (0 : Int32), lN, lU] [(.ref a2), (.ref p0)]))
  obtain ⟨T6, X6, e6, st6⟩ := getF X2 hx hZ2 hown2 (host := "") (Or.inl (ow hw 22 rfl)) Via.refl e2 Va2 (g := (mkF m 11 #[lR p0, lR p1, lI (0 : Int32), lI (0 : Int32), lN, lU] [(.ref a2), (.ref p0)])) rfl rfl (hb hby od0_11)
  refine Go.st st6 ?_
  show Go _ _ _ _ (T6.setTop (mkF m 14 #[lR p0, lR p1, lI (0 : Int32), lI (0 : Int32), lN, lU] [(.ref b2), (.ref p0)]))
  have sf7 : Safe Z consts_1 T2.vm h2 p0 := (own_safe_null hZ2.alike c3 c4)
  obtain ⟨T8, h8, X8, e8, W8, st8⟩ := putF X6 hx hZ2 hown2 (host := "") (Or.inl (ow hw 22 rfl)) Via.refl e6 c4 c3 (Or.inr ⟨(ow hw 23 rfl), rfl, hnm⟩) (ow hw 10 rfl) (ty := (.array .byte)) (by decide) rfl rfl (g := (mkF m 14 #[lR p0, lR p1, lI (0 : Int32), lI (0 : Int32), lN, lU] [(.ref b2), (.ref p0)])) rfl rfl (hb hby od0_14)
  refine Go.st st8 ?_
  have sf9 := Safe.wr W8 sf7 CR2.1 sf7
  have CR8 := CR2.trans (CHr.wr W8 sf7 CR2.1)
  have K8 : Keep h0 h8 [p0] := K2.wr W8 (Or.inl (List.mem_of_getElem? (i := 0) rfl))
  have O8 := O2.wr W8 hp3
  have N8 := Fr.snoc X8 N0 hp3
  have F8 := c4.same W8
  show Go _ _ _ _ (T8.setTop (mkF m 17 #[lR p0, lR p1, lI (0 : Int32), lI (0 : Int32), lN, lU] []))
  refine Go.st (fun _ => XS.aloadN X8.here hx rfl (hb hby od0_17) rfl rfl) ?_
  show Go _ _ _ _ (T8.setTop (mkF m 18 #[lR p0, lR p1, lI (0 : Int32), lI (0 : Int32), lN, lU] [(.ref p0)]))
  have c11 := (c3.wr W8)
  have c12 := (Ea2.wr W8)
  have c13 := (Ab2.other W8 (Ne.symm ne5.2))
  obtain ⟨a10, T10, h10, kk10, b10, kb10, X10, e10, E10, hS10, hk10, hZ10, hown10, Ea10, Ca10, Va10, Ab10, alt10, blt10, hCR10, Li10, hne10, st10⟩ := ldcCH X8 hx hZ2 hown2 (ow hw 244 rfl) (fun a ha => hw a (own_strAtoms a ha)) e8 hS2 (Nat.le_trans hk2 (Keep.of_wr W8).1) hEL (by decide +kernel) CR8.1 (vs := []) (z := (0 : Int32)) (by decide +kernel) (by decide) rfl (g := (mkF m 18 #[lR p0, lR p1, lI (0 : Int32), lI (0 : Int32), lN, lU] [(.ref p0)])) rfl (hb hby od0_18) (n := 0) (by decide +kernel) (by decide) (by decide) (by decide)
  refine Go.st st10 ?_
  have K10 : Keep h0 h10 [p0] := K8.ext E10
  have O10 := O8.ext E10
  have sf14 := hCR10.safe c11.lt sf9
  have CR10 := CR8.trans hCR10
  have ne15 := hne10 p0 sf14
  show Go _ _ _ _ (T10.setTop (mkF m 20 #[lR p0, lR p1, lI (0 : Int32), lI (0 : Int32), lN, lU] [(.ref a10), (.ref p0)]))
  obtain ⟨T16, X16, e16, st16⟩ := getF X10 hx hZ10 hown10 (host := "") (Or.inl (ow hw 24 rfl)) Via.refl e10 Ca10 (g := (mkF m 20 #[lR p0, lR p1, lI (0 : Int32), lI (0 : Int32), lN, lU] [(.ref a10), (.ref p0)])) rfl rfl (hb hby od0_20)
  refine Go.st st16 ?_
  show Go _ _ _ _ (T16.setTop (mkF m 23 #[lR p0, lR p1, lI (0 : Int32), lI (0 : Int32), lN, lU] [(.int 0), (.ref p0)]))
  have c17 := (((hp2.ext E2).other W8 (Or.inr (slot_ne (Or.inr (ow hw 25 rfl)) (Or.inr (ow hw 23 rfl)) (by decide) (t := .byte) (t' := (.array .byte)) (by decide) (by decide)))).ext E10)
  have c18 := (c11.ext E10)
  obtain ⟨T19, h19, X19, e19, W19, st19⟩ := putF X16 hx hZ10 hown10 (host := "") (Or.inl (ow hw 24 rfl)) Via.refl e16 c17 c18 (Or.inr ⟨(ow hw 25 rfl), rfl, hnm⟩) (ow hw 10 rfl) (ty := .byte) (by decide) rfl rfl (g := (mkF m 23 #[lR p0, lR p1, lI (0 : Int32), lI (0 : Int32), lN, lU] [(.int 0), (.ref p0)])) rfl rfl (hb hby od0_23)
  refine Go.st st19 ?_
  have sf20 := Safe.wr W19 sf14 CR10.1 sf14
  have CR19 := CR10.trans (CHr.wr W19 sf14 CR10.1)
  have K19 : Keep h0 h19 [p0] := K10.wr W19 (Or.inl (List.mem_of_getElem? (i := 0) rfl))
  have O19 := O10.wr W19 hp3
  have N19 := Fr.snoc X19 N8 hp3
  have F19 := c17.same W19
  show Go _ _ _ _ (T19.setTop (mkF m 26 #[lR p0, lR p1, lI (0 : Int32), lI (0 : Int32), lN, lU] []))
  obtain ⟨fs, hr, hrun, hended, -, hW, hpair, hsame⟩ := X19.leaveW hS10 (by rw [e19]; exact (Nat.le_trans hk10 (Keep.of_wr W19).1)) (v := none) (fun _ => rfl)
  have hCRe := CR19.trans (CHv.at X19 hZ10 hEL CR19.1)
  refine ⟨_, ?_, hPend _ _ hrun hended ⟨_, _, rfl, ?_, ?_, ⟨_, rfl⟩, hW, hpair, hsame.mono (by decide) (by decide)⟩⟩
  · exact X19.returnOut hx Bd.returns (hb hby od0_26) hr
  · show Q_rm_emp2 Z _ _ _ h0 n0 _ T19.heap _
    rw [e19]
    have c21 := (c18.wr W19)
    have c22 := ((F8.ext E10).other W19 (Or.inr (slot_ne (Or.inr (ow hw 23 rfl)) (Or.inr (ow hw 25 rfl)) (by decide) (t := (.array .byte)) (t' := .byte) (by decide) (by decide))))
    have c23 := ((c13.ext E10).other W19 (Ne.symm ne5.2))
    exact ⟨b2, kb2, rfl, N19, K19, c21, F19, c22, c23⟩
  · show CHr Z consts_1 s.vm s.heap T19.vm T19.heap
    rw [hh, e19]
    exact hCRe
theorem own_ef_rm_emp1 (m : MethodId) (x0 : Addr) (x1 : Addr) : entryFrame m #[(.ref x0), (.ref x1)] 2 = mkF m 0 #[.val (.ref x0), .val (.ref x1)] [] := by first | (simp [entryFrame, mkF, argsToLocals, Value.category]; done) | rfl
theorem od1_0 : decode jdk_42_method_3_code 0 = .ok (.aload_n 0, 1) := by decide +kernel
theorem od1_1 : decode jdk_42_method_3_code 1 = .ok (.aload_n 1, 1) := by decide +kernel
theorem od1_2 : decode jdk_42_method_3_code 2 = .ok (.iconst 0, 1) := by decide +kernel
theorem od1_3 : decode jdk_42_method_3_code 3 = .ok (.aload_n 1, 1) := by decide +kernel
theorem od1_4 : decode jdk_42_method_3_code 4 = .ok (.arraylength, 1) := by decide +kernel
theorem od1_5 : decode jdk_42_method_3_code 5 = .ok (.aconst_null, 1) := by decide +kernel
theorem od1_6 : decode jdk_42_method_3_code 6 = .ok (.invokespecial 27, 3) := by decide +kernel
theorem own_pd0 : parseMethodDescriptor "([CIILjava/lang/Void;)V" = some ⟨[(.array .char), .int, .int, (.object "java/lang/Void")], none⟩ := by decide +kernel
theorem od1_9 : decode jdk_42_method_3_code 9 = .ok (.return_, 1) := by decide +kernel
def Q_rm_emp1 (Z : State) (g_CS : Int32) (p0 : Addr) (p1 : Addr) (ka : ClassId) (h0 : Heap) (n0 : Nat) (v : Option Value) (h : Heap) (L : List Loc) : Prop := ∃ (vb : Addr) (kb : ClassId), v = none ∧ Fr n0 L ∧ Keep h0 h [p0] ∧ Exa Z h p0 "java/lang/String" ∧ Fld Z h p0 "java/lang/String" "coder" "B" (.int 0) ∧ Fld Z h p0 "java/lang/String" "value" "[B" (.ref vb) ∧ Arv Z h vb kb .byte (0 : Int32) [] (.int 0)
set_option maxRecDepth 65536 in
set_option maxHeartbeats 40000000 in
theorem rm_emp1 (l : Launch) (Z : State) (a0 : Array Value) (hw : ∀ d ∈ tables_1, d.before a0 Z = true) (ws : List Jvm.Cond) (g_CS : Int32) (S_CS : Sta Z Z.heap "java/lang/String" "COMPACT_STRINGS" "Z" (.int g_CS)) (nz_CS : ¬ (g_CS = (0 : Int32))) (p0 : Addr) (p1 : Addr) (ka : ClassId) (h0 : Heap) (n0 : Nat) (X00 : Old Z n0 h0) (hp0 : Exa Z h0 p0 "java/lang/String") (hp1 : Fld Z h0 p0 "java/lang/String" "value" "[B" .null) (hp2 : Fld Z h0 p0 "java/lang/String" "coder" "B" (.int 0)) (hp3 : n0 ≤ p0) (hp4 : Arv Z h0 p1 ka .char (0 : Int32) [] (.int 0)) :
    MetFree l (⟨"java/lang/String", "<init>", "([C)V"⟩ : MethodName) (head1 (Jvm.Cond.code (⟨"java/lang/String", "<init>", "([C)V"⟩ : MethodName) jdk_42_method_3_code 2 none :: ws) ({ frames := 2, cells := 4, slots := 8, locals := 29 } : Room)) (fun a U => a = #[(.ref p0), (.ref p1)] ∧ Z.Warmed39 U.vm ∧ U.heap = h0 ∧ CHv Z consts_1 U.vm h0) (fun _ _ _ _ _ => True) (fun _ U o U' => ∃ v L, o = .returned v ∧ Q_rm_emp1 Z g_CS p0 p1 ka h0 n0 v U'.heap L ∧ CHr Z consts_1 U.vm U.heap U'.vm U'.heap ∧ ReturnedEndW U o U' L ({ frames := 2, cells := 4, slots := 8, locals := 29 } : Room).cells ({ frames := 2, cells := 4, slots := 8, locals := 29 } : Room).slots) := by
  refine MetFree.of_bodySF (plainFor_of_name own_pn0) hisR ?_
  intro p e s m args below meth c s₁ Bd hml0 hP hK
  obtain ⟨rfl, hZ, hh, hCH⟩ := hP
  have hEL := own_EW Z a0 hw
  have CR0 : CHr Z consts_1 s.vm h0 s.vm h0 := CHr.refl hCH
  have hx := Bd.exec
  have hby := Bd.bytes
  have hml : c.maxLocals = 2 := hml0
  have hown : s.vm.findClass "java/lang/String" = some m.cls := findClass_of_methodNamed Bd.named
  have hnm := (name_of_methodNamed Bd.named Bd.method).1
  have X0 : Stand p l e ({ frames := 2, cells := 4, slots := 8, locals := 29 } : Room) (s.setVm s.vm) m #[(.ref p0), (.ref p1)] below meth c s₁ [] 0 0 := Stand.of_body Bd
  have e0 : s₁.heap = h0 := by rw [← hh, Bd.state]; rfl
  have N0 := Fr.nil n0
  have hS0 : s.Since s.vm 0 := own_since s
  have hk0 : 0 ≤ h0.size := Nat.zero_le _
  have hZ : Z.Warmed39 (s.setVm s.vm).vm := hZ
  have hown : (s.setVm s.vm).vm.findClass "java/lang/String" = some m.cls := hown
  refine Go.start fun P hPend => ?_
  refine Go.st (fun _ k => castTop (own_ef_rm_emp1 m p0 p1) k) ?_
  show Go _ _ _ _ (s₁.setTop (mkF m 0 #[lR p0, lR p1] []))
  refine Go.st (fun _ => XS.aloadN X0.here hx rfl (hb hby od1_0) rfl rfl) ?_
  refine Go.st (fun _ => XS.aloadN X0.here hx rfl (hb hby od1_1) rfl rfl) ?_
  refine Go.st (fun _ => XS.iconst X0.here hx rfl (hb hby od1_2)) ?_
  refine Go.st (fun _ => XS.aloadN X0.here hx rfl (hb hby od1_3) rfl rfl) ?_
  show Go _ _ _ _ (s₁.setTop (mkF m 4 #[lR p0, lR p1] [(.ref p1), (.int 0), (.ref p1), (.ref p0)]))
  refine Go.st (fun _ => own_len X0 hx hZ e0 hp4 (g := (mkF m 4 #[lR p0, lR p1] [(.ref p1), (.int 0), (.ref p1), (.ref p0)])) rfl rfl (hb hby od1_4) _) ?_
  show Go _ _ _ _ (s₁.setTop (mkF m 5 #[lR p0, lR p1] [(.int 0), (.int 0), (.ref p1), (.ref p0)]))
  refine Go.st (fun _ => XS.aconstNull X0.here hx rfl (hb hby od1_5)) ?_
  show Go _ _ _ _ (s₁.setTop (mkF m 6 #[lR p0, lR p1] [.null, (.int 0), (.int 0), (.ref p1), (.ref p0)]))
  obtain ⟨_, _, ⟨T1, L1, k1, n1⟩, -, X1, hS1, hg1, ⟨Lc1, hQ1, l1, y1, z1, hCR1⟩, st1⟩ := X0.specialBackS hx (y := (⟨"java/lang/String", "<init>", "([CIILjava/lang/Void;)V"⟩ : MethodName)) rfl hown (mvT hZ (ow hw 241 rfl)) (mvT hZ (ow hw 242 rfl)) (mvT hZ (ow hw 243 rfl)) (by decide) (backOfSH (W := 0) (rm_emp2 l Z a0 hw [] g_CS S_CS nz_CS p0 p1 h0 n0 X00 hp0 hp1 hp2 hp3) hZ (ow hw 243 rfl) (ow hw 2 rfl) (by decide) (by decide) hEL CR0.1) (g := (mkF m 6 #[lR p0, lR p1] [.null, (.int 0), (.int 0), (.ref p1), (.ref p0)])) rfl (by rw [hml]; rfl) (Steps.refl _) (a := p0) (argsL := [(.ref p1), (.int 0), (.int 0), .null]) (rest := []) (lenOf own_pd0 rfl) rfl (by show 2 * 0 + _ ≤ _; exact Nat.le_of_eq rfl) (hb hby od1_6) (fun _ _ => ⟨rfl, e0, (by decide : 0 + 4 ≤ _), (by decide : 0 + 8 ≤ _)⟩)
  dsimp only [Pt.U, Pt.locs, Pt.cells, Pt.slots] at X1 l1 y1 z1 st1 hQ1 hS1 hg1 hCR1
  subst y1 z1
  refine Go.tr st1 ?_
  obtain ⟨XX1, hSS1, hZ1, hown1⟩ := rebS hS0 (by rw [e0]; exact hk0) X1 hS1 hg1 hZ hown
  obtain ⟨vb_2, kb_3, rfl, N1q, K1q, q1_0, q1_1, q1_2, q1_3⟩ := hQ1
  have N1 : Fr n0 L1 := by rw [l1]; exact Fr.app N0 N1q
  have CR1 := CR0.trans hCR1
  have O1 := X00.keep K1q (allS hp3 all0)
  have K1 : Keep h0 T1.heap [p0] := (Keep.refl h0 [p0]).trans K1q (allS (Or.inl (List.mem_of_getElem? (i := 0) rfl)) all0)
  show Go _ _ _ _ (T1.setTop (mkF m 9 #[lR p0, lR p1] []))
  obtain ⟨fs, hr, hrun, hended, -, hW, hpair, hsame⟩ := XX1.leaveW hSS1 (Nat.le_refl _) (v := none) (fun _ => rfl)
  have hCRe := CR1.trans (CHv.at XX1 hZ1 hEL CR1.1)
  refine ⟨_, ?_, hPend _ _ hrun hended ⟨_, _, rfl, ?_, ?_, ⟨_, rfl⟩, hW, hpair, hsame.mono (by decide) (by decide)⟩⟩
  · exact XX1.returnOut hx Bd.returns (hb hby od1_9) hr
  · show Q_rm_emp1 Z _ _ _ _ h0 n0 _ T1.heap _
    exact ⟨vb_2, kb_3, rfl, N1, K1, q1_0, q1_1, q1_2, q1_3⟩
  · show CHr Z consts_1 s.vm s.heap T1.vm T1.heap
    rw [hh]
    exact hCRe
theorem own_ef_rm_canEnc (m : MethodId) (x0 : Int32) : entryFrame m #[(.int x0)] 1 = mkF m 0 #[.val (.int x0)] [] := by first | (simp [entryFrame, mkF, argsToLocals, Value.category]; done) | rfl
theorem own_pn1 : plainName "java/lang/StringLatin1" = true := by first | (simp [plainName, overriddenIn]; done) | decide +kernel
theorem od2_0 : decode jdk_43_method_3_code 0 = .ok (.iload_n 0, 1) := by decide +kernel
theorem od2_1 : decode jdk_43_method_3_code 1 = .ok (.sipush 255, 3) := by decide +kernel
theorem od2_4 : decode jdk_43_method_3_code 4 = .ok (.if_icmp .gt 7, 3) := by decide +kernel
theorem od2_7 : decode jdk_43_method_3_code 7 = .ok (.iconst 1, 1) := by decide +kernel
theorem od2_8 : decode jdk_43_method_3_code 8 = .ok (.goto 4, 3) := by decide +kernel
theorem od2_12 : decode jdk_43_method_3_code 12 = .ok (.ireturn, 1) := by decide +kernel
def Q_rm_canEnc (Z : State) (g_CS : Int32) (p0 : Int32) (h0 : Heap) (n0 : Nat) (v : Option Value) (h : Heap) (L : List Loc) : Prop := v = some (.int 1) ∧ Fr n0 L ∧ h = h0
set_option maxRecDepth 65536 in
set_option maxHeartbeats 40000000 in
theorem rm_canEnc (l : Launch) (Z : State) (a0 : Array Value) (hw : ∀ d ∈ tables_1, d.before a0 Z = true) (ws : List Jvm.Cond) (g_CS : Int32) (S_CS : Sta Z Z.heap "java/lang/String" "COMPACT_STRINGS" "Z" (.int g_CS)) (nz_CS : ¬ (g_CS = (0 : Int32))) (p0 : Int32) (h0 : Heap) (n0 : Nat) (X00 : Old Z n0 h0) (hsm : ¬ p0 < 0 ∧ ¬ (255 : Int32) < p0) :
    MetFree l (⟨"java/lang/StringLatin1", "canEncode", "(C)Z"⟩ : MethodName) (head1 (Jvm.Cond.code (⟨"java/lang/StringLatin1", "canEncode", "(C)Z"⟩ : MethodName) jdk_43_method_3_code 1 (some .boolean) :: ws) ({ frames := 0, cells := 0, slots := 0, locals := 0 } : Room)) (fun a U => a = #[(.int p0)] ∧ Z.Warmed39 U.vm ∧ U.heap = h0) (fun _ _ _ _ _ => True) (fun _ U o U' => ∃ v L, o = .returned v ∧ Q_rm_canEnc Z g_CS p0 h0 n0 v U'.heap L ∧ FrameEnd U o U' L ({ frames := 0, cells := 0, slots := 0, locals := 0 } : Room).cells ({ frames := 0, cells := 0, slots := 0, locals := 0 } : Room).slots) := by
  refine MetFree.of_bodySF (plainFor_of_name own_pn1) hisR ?_
  intro p e s m args below meth c s₁ Bd hml0 hP hK
  obtain ⟨rfl, hZ, hh⟩ := hP
  have hx := Bd.exec
  have hby := Bd.bytes
  have hml : c.maxLocals = 1 := hml0
  have hown : s.vm.findClass "java/lang/StringLatin1" = some m.cls := findClass_of_methodNamed Bd.named
  have hnm := (name_of_methodNamed Bd.named Bd.method).1
  have X0 : Stand p l e ({ frames := 0, cells := 0, slots := 0, locals := 0 } : Room) s m #[(.int p0)] below meth c s₁ [] 0 0 := Stand.of_body Bd
  have e0 : s₁.heap = h0 := by rw [← hh, Bd.state]; rfl
  have N0 := Fr.nil n0
  refine Go.start fun P hPend => ?_
  refine Go.st (fun _ k => castTop (own_ef_rm_canEnc m p0) k) ?_
  show Go _ _ _ _ (s₁.setTop (mkF m 0 #[lI p0] []))
  refine Go.st (fun _ => XS.iloadN X0.here hx rfl (hb hby od2_0) rfl) ?_
  refine Go.st (fun _ => XS.sipush X0.here hx rfl (hb hby od2_1)) ?_
  show Go _ _ _ _ (s₁.setTop (mkF m 4 #[lI p0] [(.int 255), (.int p0)]))
  have hb1 : ¬ ((255 : Int32) < p0) := hsm.2
  refine Go.st (fun _ => XS.icmpNo X0.here hx rfl (hb hby od2_4) rfl (flt hb1).2.2.1) ?_
  show Go _ _ _ _ (s₁.setTop (mkF m 7 #[lI p0] []))
  refine Go.st (fun _ => XS.iconst X0.here hx rfl (hb hby od2_7)) ?_
  show Go _ _ _ _ (s₁.setTop (mkF m 8 #[lI p0] [(.int 1)]))
  refine Go.st (fun _ => XS.goto X0.here hx rfl (pc0 := 8) (pc' := 12) rfl (hb hby od2_8) (by decide) (by decide)) ?_
  show Go _ _ _ _ (s₁.setTop (mkF m 12 #[lI p0] [(.int 1)]))
  obtain ⟨fs, hr, hrun, hended, hW, hsame⟩ := X0.leave (v := some (.int 1)) (fun h => by rw [Bd.returns] at h; cases h)
  refine ⟨_, ?_, hPend _ _ hrun hended ⟨_, _, rfl, ?_, ⟨_, rfl⟩, hW, hsame.mono (by decide) (by decide)⟩⟩
  · exact retN X0 hx (t := .boolean) Bd.returns (by simp) (hb hby od2_12) hr
  · show Q_rm_canEnc Z _ _ h0 n0 _ s₁.heap _
    rw [e0]
    exact ⟨rfl, N0, rfl⟩
theorem own_ef_rm_toB (m : MethodId) (x0 : Int32) : entryFrame m #[(.int x0)] 1 = mkF m 0 #[.val (.int x0)] [] := by first | (simp [entryFrame, mkF, argsToLocals, Value.category]; done) | rfl
theorem od3_0 : decode jdk_43_method_46_code 0 = .ok (.iconst 1, 1) := by decide +kernel
theorem od3_1 : decode jdk_43_method_46_code 1 = .ok (.newarray .byte, 2) := by decide +kernel
theorem od3_3 : decode jdk_43_method_46_code 3 = .ok (.dup, 1) := by decide +kernel
theorem od3_4 : decode jdk_43_method_46_code 4 = .ok (.iconst 0, 1) := by decide +kernel
theorem od3_5 : decode jdk_43_method_46_code 5 = .ok (.iload_n 0, 1) := by decide +kernel
theorem od3_6 : decode jdk_43_method_46_code 6 = .ok (.i2b, 1) := by decide +kernel
theorem od3_7 : decode jdk_43_method_46_code 7 = .ok (.bastore, 1) := by decide +kernel
theorem od3_8 : decode jdk_43_method_46_code 8 = .ok (.areturn, 1) := by decide +kernel
def Q_rm_toB (Z : State) (g_CS : Int32) (p0 : Int32) (h0 : Heap) (n0 : Nat) (v : Option Value) (h : Heap) (L : List Loc) : Prop := ∃ (ob : Addr) (kb : ClassId), v = some (.ref ob) ∧ Fr n0 L ∧ Keep h0 h [] ∧ h0.size ≤ ob ∧ Arv Z h ob kb .byte (1 : Int32) [(.int p0.toInt8.toInt32)] (.int 0)
set_option maxRecDepth 65536 in
set_option maxHeartbeats 40000000 in
theorem rm_toB (l : Launch) (Z : State) (a0 : Array Value) (hw : ∀ d ∈ tables_1, d.before a0 Z = true) (ws : List Jvm.Cond) (g_CS : Int32) (S_CS : Sta Z Z.heap "java/lang/String" "COMPACT_STRINGS" "Z" (.int g_CS)) (nz_CS : ¬ (g_CS = (0 : Int32))) (p0 : Int32) (h0 : Heap) (n0 : Nat) (X00 : Old Z n0 h0)  :
    MetFree l (⟨"java/lang/StringLatin1", "toBytes", "(C)[B"⟩ : MethodName) (head1 (Jvm.Cond.code (⟨"java/lang/StringLatin1", "toBytes", "(C)[B"⟩ : MethodName) jdk_43_method_46_code 1 (some (.array .byte)) :: ws) ({ frames := 0, cells := 1, slots := 1, locals := 0 } : Room)) (fun a U => a = #[(.int p0)] ∧ Z.Warmed39 U.vm ∧ U.heap = h0) (fun _ _ _ _ _ => True) (fun _ U o U' => ∃ v L, o = .returned v ∧ Q_rm_toB Z g_CS p0 h0 n0 v U'.heap L ∧ FrameEnd U o U' L ({ frames := 0, cells := 1, slots := 1, locals := 0 } : Room).cells ({ frames := 0, cells := 1, slots := 1, locals := 0 } : Room).slots) := by
  refine MetFree.of_bodySF (plainFor_of_name own_pn1) hisR ?_
  intro p e s m args below meth c s₁ Bd hml0 hP hK
  obtain ⟨rfl, hZ, hh⟩ := hP
  have hx := Bd.exec
  have hby := Bd.bytes
  have hml : c.maxLocals = 1 := hml0
  have hown : s.vm.findClass "java/lang/StringLatin1" = some m.cls := findClass_of_methodNamed Bd.named
  have hnm := (name_of_methodNamed Bd.named Bd.method).1
  have X0 : Stand p l e ({ frames := 0, cells := 1, slots := 1, locals := 0 } : Room) s m #[(.int p0)] below meth c s₁ [] 0 0 := Stand.of_body Bd
  have e0 : s₁.heap = h0 := by rw [← hh, Bd.state]; rfl
  have N0 := Fr.nil n0
  refine Go.start fun P hPend => ?_
  refine Go.st (fun _ k => castTop (own_ef_rm_toB m p0) k) ?_
  show Go _ _ _ _ (s₁.setTop (mkF m 0 #[lI p0] []))
  refine Go.st (fun _ => XS.iconst X0.here hx rfl (hb hby od3_0)) ?_
  show Go _ _ _ _ (s₁.setTop (mkF m 1 #[lI p0] [(.int 1)]))
  obtain ⟨T1, h1, k1, X1, e1, E1, A1, st1⟩ := newP X0 hx hZ (ow hw 14 rfl) e0 (g := (mkF m 1 #[lI p0] [(.int 1)])) rfl (hb hby od3_1) rfl (by decide) (cap := 1) (by decide) (by decide) (by decide) (by decide)
  obtain ⟨b1, g1⟩ : ∃ z, z = h0.size := ⟨_, rfl⟩
  rw [← g1] at A1 st1
  refine Go.st st1 ?_
  have g_b1 : n0 ≤ b1 := Nat.le_trans (own_oldsz X00) (Nat.le_of_eq g1.symm)
  have sz_b1 : h0.size ≤ b1 := Nat.le_trans (Keep.refl h0 []).1 (Nat.le_of_eq g1.symm)
  have K1 : Keep h0 h1 [] := (Keep.refl h0 []).ext E1
  have O1 := X00.ext E1
  have V1 : Arv Z h1 b1 k1 .byte (1 : Int32) [(.int 0)] (.int 0) := (Arv.new A1 (by decide)).pad (pad_rep [] (.int 0) 1)
  show Go _ _ _ _ (T1.setTop (mkF m 3 #[lI p0] [(.ref b1)]))
  refine Go.st (fun _ => XS.dup X1.here hx rfl (hb hby od3_3) rfl rfl) ?_
  refine Go.st (fun _ => XS.iconst X1.here hx rfl (hb hby od3_4)) ?_
  refine Go.st (fun _ => XS.iloadN X1.here hx rfl (hb hby od3_5) rfl) ?_
  show Go _ _ _ _ (T1.setTop (mkF m 6 #[lI p0] [(.int p0), (.int 0), (.ref b1), (.ref b1)]))
  refine Go.st (fun _ => XS.i2b X1.here hx rfl (hb hby od3_6) rfl) ?_
  show Go _ _ _ _ (T1.setTop (mkF m 7 #[lI p0] [(.int (p0.toInt8.toInt32)), (.int 0), (.ref b1), (.ref b1)]))
  obtain ⟨T2, h2, X2, e2, W2, V2, st2⟩ := own_stB X1 hx hZ e1 V1 (j := (0 : Int32)) (i := 0) (by decide) (by decide) (Nat.le_of_ble_eq_true rfl) (g := (mkF m 7 #[lI p0] [(.int (p0.toInt8.toInt32)), (.int 0), (.ref b1), (.ref b1)])) rfl rfl (hb hby od3_7)
  refine Go.st st2 ?_
  rw [show nar .byte (p0.toInt8.toInt32) = (p0.toInt8.toInt32) from own_nar_i2b _] at V2
  have K2 : Keep h0 h2 [] := K1.wr W2 (Or.inr sz_b1)
  have O2 := O1.wr W2 g_b1
  have N2 := Fr.snoc X2 N0 g_b1
  have V2' : Arv Z h2 b1 k1 .byte (1 : Int32) [(.int (p0.toInt8.toInt32))] (.int 0) := V2
  show Go _ _ _ _ (T2.setTop (mkF m 8 #[lI p0] [(.ref b1)]))
  obtain ⟨fs, hr, hrun, hended, hW, hsame⟩ := X2.leave (v := some (.ref b1)) (fun h => by rw [Bd.returns] at h; cases h)
  refine ⟨_, ?_, hPend _ _ hrun hended ⟨_, _, rfl, ?_, ⟨_, rfl⟩, hW, hsame.mono (by decide) (by decide)⟩⟩
  · exact retOut X2 hx (t := (.array .byte)) Bd.returns rfl (Or.inr (Or.inr (Or.inr (Or.inr ⟨rfl, rfl, rfl⟩)))) (hb hby od3_8) hr
  · show Q_rm_toB Z _ _ h0 n0 _ T2.heap _
    rw [e2]
    exact ⟨b1, k1, rfl, N2, K2, sz_b1, V2'⟩
theorem own_ef_rm_sBB (m : MethodId) (x0 : Addr) (x1 : Addr) (x2 : Int32) : entryFrame m #[(.ref x0), (.ref x1), (.int x2)] 3 = mkF m 0 #[.val (.ref x0), .val (.ref x1), .val (.int x2)] [] := by first | (simp [entryFrame, mkF, argsToLocals, Value.category]; done) | rfl
theorem od4_0 : decode jdk_42_method_151_code 0 = .ok (.aload_n 0, 1) := by decide +kernel
theorem od4_1 : decode jdk_42_method_151_code 1 = .ok (.invokespecial 1, 3) := by decide +kernel
theorem od4_4 : decode jdk_42_method_151_code 4 = .ok (.aload_n 0, 1) := by decide +kernel
theorem od4_5 : decode jdk_42_method_151_code 5 = .ok (.aload_n 1, 1) := by decide +kernel
theorem od4_6 : decode jdk_42_method_151_code 6 = .ok (.putfield 9, 3) := by decide +kernel
theorem od4_9 : decode jdk_42_method_151_code 9 = .ok (.aload_n 0, 1) := by decide +kernel
theorem od4_10 : decode jdk_42_method_151_code 10 = .ok (.iload_n 2, 1) := by decide +kernel
theorem od4_11 : decode jdk_42_method_151_code 11 = .ok (.putfield 15, 3) := by decide +kernel
theorem od4_14 : decode jdk_42_method_151_code 14 = .ok (.return_, 1) := by decide +kernel
def Q_rm_sBB (Z : State) (g_CS : Int32) (p0 : Addr) (p1 : Addr) (p2 : Int32) (h0 : Heap) (n0 : Nat) (v : Option Value) (h : Heap) (L : List Loc) : Prop := v = none ∧ Fr n0 L ∧ Keep h0 h [p0] ∧ Exa Z h p0 "java/lang/String" ∧ Fld Z h p0 "java/lang/String" "value" "[B" (.ref p1) ∧ Fld Z h p0 "java/lang/String" "coder" "B" (.int p2)
set_option maxRecDepth 65536 in
set_option maxHeartbeats 40000000 in
theorem rm_sBB (l : Launch) (Z : State) (a0 : Array Value) (hw : ∀ d ∈ tables_1, d.before a0 Z = true) (ws : List Jvm.Cond) (g_CS : Int32) (S_CS : Sta Z Z.heap "java/lang/String" "COMPACT_STRINGS" "Z" (.int g_CS)) (nz_CS : ¬ (g_CS = (0 : Int32))) (p0 : Addr) (p1 : Addr) (p2 : Int32) (h0 : Heap) (n0 : Nat) (X00 : Old Z n0 h0) (hp0 : Exa Z h0 p0 "java/lang/String") (hp1 : Fld Z h0 p0 "java/lang/String" "value" "[B" .null) (hp2 : Fld Z h0 p0 "java/lang/String" "coder" "B" (.int 0)) (hp3 : n0 ≤ p0) (hn2 : narrow .byte (.int p2) = .int p2) (hf2 : fits .byte (.int p2) = true) :
    MetFree l (⟨"java/lang/String", "<init>", "([BB)V"⟩ : MethodName) (head1 (Jvm.Cond.code (⟨"java/lang/String", "<init>", "([BB)V"⟩ : MethodName) jdk_42_method_151_code 3 none :: ws) ({ frames := 1, cells := 0, slots := 0, locals := 12 } : Room)) (fun a U => a = #[(.ref p0), (.ref p1), (.int p2)] ∧ Z.Warmed39 U.vm ∧ U.heap = h0) (fun _ _ _ _ _ => True) (fun _ U o U' => ∃ v L, o = .returned v ∧ Q_rm_sBB Z g_CS p0 p1 p2 h0 n0 v U'.heap L ∧ FrameEnd U o U' L ({ frames := 1, cells := 0, slots := 0, locals := 12 } : Room).cells ({ frames := 1, cells := 0, slots := 0, locals := 12 } : Room).slots) := by
  refine MetFree.of_bodySF (plainFor_of_name own_pn0) hisR ?_
  intro p e s m args below meth c s₁ Bd hml0 hP hK
  obtain ⟨rfl, hZ, hh⟩ := hP
  have hx := Bd.exec
  have hby := Bd.bytes
  have hml : c.maxLocals = 3 := hml0
  have hown : s.vm.findClass "java/lang/String" = some m.cls := findClass_of_methodNamed Bd.named
  have hnm := (name_of_methodNamed Bd.named Bd.method).1
  have X0 : Stand p l e ({ frames := 1, cells := 0, slots := 0, locals := 12 } : Room) s m #[(.ref p0), (.ref p1), (.int p2)] below meth c s₁ [] 0 0 := Stand.of_body Bd
  have e0 : s₁.heap = h0 := by rw [← hh, Bd.state]; rfl
  have N0 := Fr.nil n0
  refine Go.start fun P hPend => ?_
  refine Go.st (fun _ k => castTop (own_ef_rm_sBB m p0 p1 p2) k) ?_
  show Go _ _ _ _ (s₁.setTop (mkF m 0 #[lR p0, lR p1, lI p2] []))
  refine Go.st (fun _ => XS.aloadN X0.here hx rfl (hb hby od4_0) rfl rfl) ?_
  show Go _ _ _ _ (s₁.setTop (mkF m 1 #[lR p0, lR p1, lI p2] [(.ref p0)]))
  obtain ⟨T1, X1, e1, st1⟩ := initO X0 hx hZ hown (ow hw 19 rfl) (ow hw 20 rfl) (ow hw 21 rfl) e0 (g := (mkF m 1 #[lR p0, lR p1, lI p2] [(.ref p0)])) rfl (by rw [hml]; rfl) rfl (hb hby od4_1) (by decide) (W := 0) (by show 2 * 0 + _ ≤ _; exact Nat.le_of_eq rfl) (by decide)
  refine Go.st st1 ?_
  show Go _ _ _ _ (T1.setTop (mkF m 4 #[lR p0, lR p1, lI p2] []))
  refine Go.st (fun _ => XS.aloadN X1.here hx rfl (hb hby od4_4) rfl rfl) ?_
  refine Go.st (fun _ => XS.aloadN X1.here hx rfl (hb hby od4_5) rfl rfl) ?_
  show Go _ _ _ _ (T1.setTop (mkF m 6 #[lR p0, lR p1, lI p2] [(.ref p1), (.ref p0)]))
  obtain ⟨T2, h2, X2, e2, W2, st2⟩ := putF X1 hx hZ hown (host := "") (Or.inl (ow hw 22 rfl)) Via.refl e1 hp1 hp0 (Or.inr ⟨(ow hw 23 rfl), rfl, hnm⟩) (ow hw 10 rfl) (ty := (.array .byte)) (by decide) rfl rfl (g := (mkF m 6 #[lR p0, lR p1, lI p2] [(.ref p1), (.ref p0)])) rfl rfl (hb hby od4_6)
  refine Go.st st2 ?_
  have K2 : Keep h0 h2 [p0] := (Keep.refl h0 [p0]).wr W2 (Or.inl (List.mem_of_getElem? (i := 0) rfl))
  have O2 := X00.wr W2 hp3
  have N2 := Fr.snoc X2 N0 hp3
  have F2 := hp1.same W2
  show Go _ _ _ _ (T2.setTop (mkF m 9 #[lR p0, lR p1, lI p2] []))
  refine Go.st (fun _ => XS.aloadN X2.here hx rfl (hb hby od4_9) rfl rfl) ?_
  refine Go.st (fun _ => XS.iloadN X2.here hx rfl (hb hby od4_10) rfl) ?_
  show Go _ _ _ _ (T2.setTop (mkF m 11 #[lR p0, lR p1, lI p2] [(.int p2), (.ref p0)]))
  have c3 := (hp2.other W2 (Or.inr (slot_ne (Or.inr (ow hw 25 rfl)) (Or.inr (ow hw 23 rfl)) (by decide) (t := .byte) (t' := (.array .byte)) (by decide) (by decide))))
  have c4 := (hp0.wr W2)
  obtain ⟨T5, h5, X5, e5, W5, st5⟩ := putF X2 hx hZ hown (host := "") (Or.inl (ow hw 24 rfl)) Via.refl e2 c3 c4 (Or.inr ⟨(ow hw 25 rfl), rfl, hnm⟩) (ow hw 10 rfl) (ty := .byte) (by decide) hn2 hf2 (g := (mkF m 11 #[lR p0, lR p1, lI p2] [(.int p2), (.ref p0)])) rfl rfl (hb hby od4_11)
  refine Go.st st5 ?_
  have K5 : Keep h0 h5 [p0] := K2.wr W5 (Or.inl (List.mem_of_getElem? (i := 0) rfl))
  have O5 := O2.wr W5 hp3
  have N5 := Fr.snoc X5 N2 hp3
  have F5 := c3.same W5
  show Go _ _ _ _ (T5.setTop (mkF m 14 #[lR p0, lR p1, lI p2] []))
  obtain ⟨fs, hr, hrun, hended, hW, hsame⟩ := X5.leave (v := none) (fun _ => rfl)
  refine ⟨_, ?_, hPend _ _ hrun hended ⟨_, _, rfl, ?_, ⟨_, rfl⟩, hW, hsame.mono (by decide) (by decide)⟩⟩
  · exact X5.returnOut hx Bd.returns (hb hby od4_14) hr
  · show Q_rm_sBB Z _ _ _ _ h0 n0 _ T5.heap _
    rw [e5]
    have c6 := (c4.wr W5)
    have c7 := (F2.other W5 (Or.inr (slot_ne (Or.inr (ow hw 23 rfl)) (Or.inr (ow hw 25 rfl)) (by decide) (t := (.array .byte)) (t' := .byte) (by decide) (by decide))))
    exact ⟨rfl, N5, K5, c6, c7, F5⟩
theorem own_ef_rm_valOf (m : MethodId) (x0 : Int32) : entryFrame m #[(.int x0)] 1 = mkF m 0 #[.val (.int x0)] [] := by first | (simp [entryFrame, mkF, argsToLocals, Value.category]; done) | rfl
theorem od5_0 : decode jdk_42_method_139_code 0 = .ok (.getstatic 38, 3) := by decide +kernel
theorem od5_3 : decode jdk_42_method_139_code 3 = .ok (.ifCond .eq 23, 3) := by decide +kernel
theorem od5_6 : decode jdk_42_method_139_code 6 = .ok (.iload_n 0, 1) := by decide +kernel
theorem od5_7 : decode jdk_42_method_139_code 7 = .ok (.invokestatic 1015, 3) := by decide +kernel
theorem own_pd1 : parseMethodDescriptor "(C)Z" = some ⟨[.char], some .boolean⟩ := by decide +kernel
theorem od5_10 : decode jdk_42_method_139_code 10 = .ok (.ifCond .eq 16, 3) := by decide +kernel
theorem od5_13 : decode jdk_42_method_139_code 13 = .ok (.new 10, 3) := by decide +kernel
theorem od5_16 : decode jdk_42_method_139_code 16 = .ok (.dup, 1) := by decide +kernel
theorem od5_17 : decode jdk_42_method_139_code 17 = .ok (.iload_n 0, 1) := by decide +kernel
theorem od5_18 : decode jdk_42_method_139_code 18 = .ok (.invokestatic 1018, 3) := by decide +kernel
theorem own_pd2 : parseMethodDescriptor "(C)[B" = some ⟨[.char], some (.array .byte)⟩ := by decide +kernel
theorem od5_21 : decode jdk_42_method_139_code 21 = .ok (.iconst 0, 1) := by decide +kernel
theorem od5_22 : decode jdk_42_method_139_code 22 = .ok (.invokespecial 209, 3) := by decide +kernel
theorem own_pd3 : parseMethodDescriptor "([BB)V" = some ⟨[(.array .byte), .byte], none⟩ := by decide +kernel
theorem od5_25 : decode jdk_42_method_139_code 25 = .ok (.areturn, 1) := by decide +kernel
def Q_rm_valOf (Z : State) (g_CS : Int32) (p0 : Int32) (h0 : Heap) (n0 : Nat) (v : Option Value) (h : Heap) (L : List Loc) : Prop := ∃ (ob : Addr) (vb : Addr) (kb : ClassId), v = some (.ref ob) ∧ Fr n0 L ∧ Keep h0 h [] ∧ h0.size ≤ ob ∧ h0.size ≤ vb ∧ Exa Z h ob "java/lang/String" ∧ Fld Z h ob "java/lang/String" "coder" "B" (.int 0) ∧ Fld Z h ob "java/lang/String" "value" "[B" (.ref vb) ∧ Arv Z h vb kb .byte (1 : Int32) [(.int p0.toInt8.toInt32)] (.int 0)
set_option maxRecDepth 65536 in
set_option maxHeartbeats 40000000 in
theorem rm_valOf (l : Launch) (Z : State) (a0 : Array Value) (hw : ∀ d ∈ tables_1, d.before a0 Z = true) (ws : List Jvm.Cond) (g_CS : Int32) (S_CS : Sta Z Z.heap "java/lang/String" "COMPACT_STRINGS" "Z" (.int g_CS)) (nz_CS : ¬ (g_CS = (0 : Int32))) (p0 : Int32) (h0 : Heap) (n0 : Nat) (X00 : Old Z n0 h0) (hsm : ¬ p0 < 0 ∧ ¬ (255 : Int32) < p0) :
    MetFree l (⟨"java/lang/String", "valueOf", "(C)Ljava/lang/String;"⟩ : MethodName) (head1 (Jvm.Cond.code (⟨"java/lang/String", "valueOf", "(C)Ljava/lang/String;"⟩ : MethodName) jdk_42_method_139_code 1 (some (.object "java/lang/String")) :: ws) ({ frames := 2, cells := 2, slots := 5, locals := 27 } : Room)) (fun a U => a = #[(.int p0)] ∧ Z.Warmed39 U.vm ∧ U.heap = h0) (fun _ _ _ _ _ => True) (fun _ U o U' => ∃ v L, o = .returned v ∧ Q_rm_valOf Z g_CS p0 h0 n0 v U'.heap L ∧ FrameEnd U o U' L ({ frames := 2, cells := 2, slots := 5, locals := 27 } : Room).cells ({ frames := 2, cells := 2, slots := 5, locals := 27 } : Room).slots) := by
  refine MetFree.of_bodySF (plainFor_of_name own_pn0) hisR ?_
  intro p e s m args below meth c s₁ Bd hml0 hP hK
  obtain ⟨rfl, hZ, hh⟩ := hP
  have hx := Bd.exec
  have hby := Bd.bytes
  have hml : c.maxLocals = 1 := hml0
  have hown : s.vm.findClass "java/lang/String" = some m.cls := findClass_of_methodNamed Bd.named
  have hnm := (name_of_methodNamed Bd.named Bd.method).1
  have X0 : Stand p l e ({ frames := 2, cells := 2, slots := 5, locals := 27 } : Room) s m #[(.int p0)] below meth c s₁ [] 0 0 := Stand.of_body Bd
  have e0 : s₁.heap = h0 := by rw [← hh, Bd.state]; rfl
  have N0 := Fr.nil n0
  refine Go.start fun P hPend => ?_
  refine Go.st (fun _ k => castTop (own_ef_rm_valOf m p0) k) ?_
  show Go _ _ _ _ (s₁.setTop (mkF m 0 #[lI p0] []))
  obtain ⟨T1, X1, e1, st1⟩ := getS2 X0 hx hZ hown (host := "") (Or.inl (ow hw 4 rfl)) Via.refl e0 (S_CS.ext X00.2) (g := (mkF m 0 #[lI p0] [])) rfl (hb hby od5_0)
  refine Go.st st1 ?_
  show Go _ _ _ _ (T1.setTop (mkF m 3 #[lI p0] [(.int g_CS)]))
  have hb2 : ¬ (g_CS = (0 : Int32)) := nz_CS
  refine Go.st (fun _ => XS.ifNo X1.here hx rfl (hb hby od5_3) rfl ((if0 _ _).trans (feq hb2).1)) ?_
  show Go _ _ _ _ (T1.setTop (mkF m 6 #[lI p0] []))
  refine Go.st (fun _ => XS.iloadN X1.here hx rfl (hb hby od5_6) rfl) ?_
  show Go _ _ _ _ (T1.setTop (mkF m 7 #[lI p0] [(.int p0)]))
  obtain ⟨_, _, ⟨T3, L3, k3, n3⟩, -, X3, ⟨Lc3, hQ3, l3, y3, z3⟩, st3⟩ := Jvm.LawKit.callS X1 hx (y := (⟨"java/lang/StringLatin1", "canEncode", "(C)Z"⟩ : MethodName)) hown (mvT hZ (ow hw 5 rfl)) (mvT hZ (ow hw 6 rfl)) (mvT hZ (ow hw 7 rfl)) (mvT hZ (ow hw 8 rfl)) (by decide) (backOf (W := 0) (rm_canEnc l Z a0 hw [] g_CS S_CS nz_CS p0 h0 n0 X00 hsm) hZ (ow hw 8 rfl) (ow hw 7 rfl) (by decide) (by decide)) (g := (mkF m 7 #[lI p0] [(.int p0)])) rfl (by rw [hml]; rfl) (argsL := [(.int p0)]) (rest := []) (lenOf own_pd1 rfl) rfl (by show 2 * 0 + _ ≤ _; exact Nat.le_of_eq rfl) (hb hby od5_7) (fun _ _ => ⟨rfl, e1, (by decide : 0 + 0 ≤ _), (by decide : 0 + 0 ≤ _)⟩)
  dsimp only [Pt.U, Pt.locs, Pt.cells, Pt.slots] at X3 l3 y3 z3 st3 hQ3
  subst y3 z3
  refine Go.st st3 ?_
  obtain ⟨rfl, N3q, e3⟩ := hQ3
  have N3 : Fr n0 L3 := by rw [l3]; exact Fr.app N0 N3q
  show Go _ _ _ _ (T3.setTop (mkF m 10 #[lI p0] [(.int 1)]))
  refine Go.st (fun _ => XS.ifNo X3.here hx rfl (hb hby od5_10) rfl ((if0 _ _).trans (feq (by decide)).1)) ?_
  show Go _ _ _ _ (T3.setTop (mkF m 13 #[lI p0] []))
  obtain ⟨T4, h4, X4, e4, E4, A4, D4, -, st4⟩ := newO X3 hx hZ hown (ow hw 9 rfl) (ow hw 10 rfl) (ow hw 2 rfl) e3 (g := (mkF m 13 #[lI p0] [])) rfl (hb hby od5_13) (by decide) (by decide)
  obtain ⟨b4, g4⟩ : ∃ z, z = h0.size := ⟨_, rfl⟩
  rw [← g4] at A4 D4 st4
  refine Go.st st4 ?_
  have g_b4 : n0 ≤ b4 := Nat.le_trans (own_oldsz X00) (Nat.le_of_eq g4.symm)
  have sz_b4 : h0.size ≤ b4 := Nat.le_trans (Keep.refl h0 []).1 (Nat.le_of_eq g4.symm)
  have K4 : Keep h0 h4 [] := (Keep.refl h0 []).ext E4
  have O4 := X00.ext E4
  have F5 : Fld Z h4 b4 "java/lang/String" "value" "[B" .null := D4 (Or.inr (ow hw 23 rfl)) (ty := (.array .byte)) (by decide)
  have F6 : Fld Z h4 b4 "java/lang/String" "coder" "B" (.int 0) := D4 (Or.inr (ow hw 25 rfl)) (ty := .byte) (by decide)
  show Go _ _ _ _ (T4.setTop (mkF m 16 #[lI p0] [(.ref b4)]))
  refine Go.st (fun _ => XS.dup X4.here hx rfl (hb hby od5_16) rfl rfl) ?_
  refine Go.st (fun _ => XS.iloadN X4.here hx rfl (hb hby od5_17) rfl) ?_
  show Go _ _ _ _ (T4.setTop (mkF m 18 #[lI p0] [(.int p0), (.ref b4), (.ref b4)]))
  obtain ⟨_, _, ⟨T7, L7, k7, n7⟩, -, X7, ⟨Lc7, hQ7, l7, y7, z7⟩, st7⟩ := Jvm.LawKit.callS X4 hx (y := (⟨"java/lang/StringLatin1", "toBytes", "(C)[B"⟩ : MethodName)) hown (mvT hZ (ow hw 11 rfl)) (mvT hZ (ow hw 12 rfl)) (mvT hZ (ow hw 7 rfl)) (mvT hZ (ow hw 13 rfl)) (by decide) (backOf (W := 2) (rm_toB l Z a0 hw [] g_CS S_CS nz_CS p0 h4 n0 O4 ) hZ (ow hw 13 rfl) (ow hw 7 rfl) (by decide) (by decide)) (g := (mkF m 18 #[lI p0] [(.int p0), (.ref b4), (.ref b4)])) rfl (by rw [hml]; rfl) (argsL := [(.int p0)]) (rest := [(.ref b4), (.ref b4)]) (lenOf own_pd2 rfl) rfl (by show 2 * 0 + _ ≤ _; exact Nat.le_of_eq rfl) (hb hby od5_18) (fun _ _ => ⟨rfl, e4, (by decide : 1 + 1 ≤ _), (by decide : 4 + 1 ≤ _)⟩)
  dsimp only [Pt.U, Pt.locs, Pt.cells, Pt.slots] at X7 l7 y7 z7 st7 hQ7
  subst y7 z7
  refine Go.st st7 ?_
  obtain ⟨ob_8, kb_9, rfl, N7q, K7q, q7_0, q7_1⟩ := hQ7
  have N7 : Fr n0 L7 := by rw [l7]; exact Fr.app N3 N7q
  have O7 := O4.keep K7q all0
  have K7 : Keep h0 T7.heap [] := K4.trans K7q all0
  have sz_ob_8 : h0.size ≤ ob_8 := Nat.le_trans K4.1 q7_0
  have g_ob_8 : n0 ≤ ob_8 := Nat.le_trans (own_oldsz X00) sz_ob_8
  show Go _ _ _ _ (T7.setTop (mkF m 21 #[lI p0] [(.ref ob_8), (.ref b4), (.ref b4)]))
  refine Go.st (fun _ => XS.iconst X7.here hx rfl (hb hby od5_21)) ?_
  show Go _ _ _ _ (T7.setTop (mkF m 22 #[lI p0] [(.int 0), (.ref ob_8), (.ref b4), (.ref b4)]))
  have c11 := (A4.keep K7q)
  have c12 := (F5.keep K7q nin0)
  have c13 := (F6.keep K7q nin0)
  obtain ⟨_, _, ⟨T10, L10, k10, n10⟩, -, X10, ⟨Lc10, hQ10, l10, y10, z10⟩, st10⟩ := X7.specialBack hx (y := (⟨"java/lang/String", "<init>", "([BB)V"⟩ : MethodName)) rfl hown (mvT hZ (ow hw 15 rfl)) (mvT hZ (ow hw 16 rfl)) (mvT hZ (ow hw 18 rfl)) (by decide) (backOf (W := 1) (rm_sBB l Z a0 hw [] g_CS S_CS nz_CS b4 ob_8 (0 : Int32) T7.heap n0 O7 c11 c12 c13 g_b4 rfl rfl) hZ (ow hw 18 rfl) (ow hw 2 rfl) (by decide) (by decide)) (g := (mkF m 22 #[lI p0] [(.int 0), (.ref ob_8), (.ref b4), (.ref b4)])) rfl (by rw [hml]; rfl) (Steps.refl _) (a := b4) (argsL := [(.ref ob_8), (.int 0)]) (rest := [(.ref b4)]) (lenOf own_pd3 rfl) rfl (by show 2 * 0 + _ ≤ _; exact Nat.le_of_eq rfl) (hb hby od5_22) (fun _ _ => ⟨rfl, rfl, (by decide : 2 + 0 ≤ _), (by decide : 5 + 0 ≤ _)⟩)
  dsimp only [Pt.U, Pt.locs, Pt.cells, Pt.slots] at X10 l10 y10 z10 st10 hQ10
  subst y10 z10
  refine Go.tr st10 ?_
  obtain ⟨rfl, N10q, K10q, q10_0, q10_1, q10_2⟩ := hQ10
  have N10 : Fr n0 L10 := by rw [l10]; exact Fr.app N7 N10q
  have O10 := O7.keep K10q (allS g_b4 all0)
  have K10 : Keep h0 T10.heap [] := K7.trans K10q (allS (Or.inr sz_b4) all0)
  show Go _ _ _ _ (T10.setTop (mkF m 25 #[lI p0] [(.ref b4)]))
  obtain ⟨fs, hr, hrun, hended, hW, hsame⟩ := X10.leave (v := some (.ref b4)) (fun h => by rw [Bd.returns] at h; cases h)
  refine ⟨_, ?_, hPend _ _ hrun hended ⟨_, _, rfl, ?_, ⟨_, rfl⟩, hW, hsame.mono (by decide) (by decide)⟩⟩
  · exact retOut X10 hx (t := (.object "java/lang/String")) Bd.returns rfl (Or.inr (Or.inr (Or.inr (Or.inr ⟨rfl, rfl, rfl⟩)))) (hb hby od5_25) hr
  · show Q_rm_valOf Z _ _ h0 n0 _ T10.heap _
    have c14 := (q7_1.keep K10q (ninS (Ne.symm (Nat.ne_of_lt (Nat.lt_of_lt_of_le A4.lt q7_0))) nin0))
    exact ⟨b4, ob_8, kb_9, rfl, N10, K10, sz_b4, sz_ob_8, q10_0, q10_2, q10_1, c14⟩
theorem own_ef_rm_rec (m : MethodId) (x0 : Addr) : entryFrame m #[(.ref x0)] 1 = mkF m 0 #[.val (.ref x0)] [] := by first | (simp [entryFrame, mkF, argsToLocals, Value.category]; done) | rfl
theorem own_pn2 : plainName "java/lang/Record" = true := by first | (simp [plainName, overriddenIn]; done) | decide +kernel
theorem od6_0 : decode jdk_30_method_1_code 0 = .ok (.aload_n 0, 1) := by decide +kernel
theorem od6_1 : decode jdk_30_method_1_code 1 = .ok (.invokespecial 1, 3) := by decide +kernel
theorem od6_4 : decode jdk_30_method_1_code 4 = .ok (.return_, 1) := by decide +kernel
def Q_rm_rec (Z : State) (p0 : Addr) (h0 : Heap) (n0 : Nat) (v : Option Value) (h : Heap) (L : List Loc) : Prop := v = none ∧ Fr n0 L ∧ h = h0
set_option maxRecDepth 65536 in
set_option maxHeartbeats 40000000 in
theorem rm_rec (l : Launch) (Z : State) (a0 : Array Value) (hw : ∀ d ∈ tables_1, d.before a0 Z = true) (ws : List Jvm.Cond) (p0 : Addr) (h0 : Heap) (n0 : Nat) (X00 : Old Z n0 h0)  :
    MetFree l (⟨"java/lang/Record", "<init>", "()V"⟩ : MethodName) (head1 (Jvm.Cond.code (⟨"java/lang/Record", "<init>", "()V"⟩ : MethodName) jdk_30_method_1_code 1 none :: ws) ({ frames := 1, cells := 0, slots := 0, locals := 12 } : Room)) (fun a U => a = #[(.ref p0)] ∧ Z.Warmed39 U.vm ∧ U.heap = h0) (fun _ _ _ _ _ => True) (fun _ U o U' => ∃ v L, o = .returned v ∧ Q_rm_rec Z p0 h0 n0 v U'.heap L ∧ FrameEnd U o U' L ({ frames := 1, cells := 0, slots := 0, locals := 12 } : Room).cells ({ frames := 1, cells := 0, slots := 0, locals := 12 } : Room).slots) := by
  refine MetFree.of_bodySF (plainFor_of_name own_pn2) hisR ?_
  intro p e s m args below meth c s₁ Bd hml0 hP hK
  obtain ⟨rfl, hZ, hh⟩ := hP
  have hx := Bd.exec
  have hby := Bd.bytes
  have hml : c.maxLocals = 1 := hml0
  have hown : s.vm.findClass "java/lang/Record" = some m.cls := findClass_of_methodNamed Bd.named
  have hnm := (name_of_methodNamed Bd.named Bd.method).1
  have X0 : Stand p l e ({ frames := 1, cells := 0, slots := 0, locals := 12 } : Room) s m #[(.ref p0)] below meth c s₁ [] 0 0 := Stand.of_body Bd
  have e0 : s₁.heap = h0 := by rw [← hh, Bd.state]; rfl
  have N0 := Fr.nil n0
  refine Go.start fun P hPend => ?_
  refine Go.st (fun _ k => castTop (own_ef_rm_rec m p0) k) ?_
  show Go _ _ _ _ (s₁.setTop (mkF m 0 #[lR p0] []))
  refine Go.st (fun _ => XS.aloadN X0.here hx rfl (hb hby od6_0) rfl rfl) ?_
  show Go _ _ _ _ (s₁.setTop (mkF m 1 #[lR p0] [(.ref p0)]))
  obtain ⟨T1, X1, e1, st1⟩ := initO X0 hx hZ hown (ow hw 37 rfl) (ow hw 20 rfl) (ow hw 21 rfl) e0 (g := (mkF m 1 #[lR p0] [(.ref p0)])) rfl (by rw [hml]; rfl) rfl (hb hby od6_1) (by decide) (W := 0) (by show 2 * 0 + _ ≤ _; exact Nat.le_of_eq rfl) (by decide)
  refine Go.st st1 ?_
  show Go _ _ _ _ (T1.setTop (mkF m 4 #[lR p0] []))
  obtain ⟨fs, hr, hrun, hended, hW, hsame⟩ := X1.leave (v := none) (fun _ => rfl)
  refine ⟨_, ?_, hPend _ _ hrun hended ⟨_, _, rfl, ?_, ⟨_, rfl⟩, hW, hsame.mono (by decide) (by decide)⟩⟩
  · exact X1.returnOut hx Bd.returns (hb hby od6_4) hr
  · show Q_rm_rec Z _ h0 n0 _ T1.heap _
    rw [e1]
    exact ⟨rfl, N0, rfl⟩
theorem own_ef_rm_rnn (m : MethodId) (x0 : Addr) (x1 : Addr) : entryFrame m #[(.ref x0), (.ref x1)] 2 = mkF m 0 #[.val (.ref x0), .val (.ref x1)] [] := by first | (simp [entryFrame, mkF, argsToLocals, Value.category]; done) | rfl
theorem own_pn3 : plainName "java/util/Objects" = true := by first | (simp [plainName, overriddenIn]; done) | decide +kernel
theorem od7_0 : decode jdk_31_method_11_code 0 = .ok (.aload_n 0, 1) := by decide +kernel
theorem od7_1 : decode jdk_31_method_11_code 1 = .ok (.ifnonnull 12, 3) := by decide +kernel
theorem od7_13 : decode jdk_31_method_11_code 13 = .ok (.aload_n 0, 1) := by decide +kernel
theorem od7_14 : decode jdk_31_method_11_code 14 = .ok (.areturn, 1) := by decide +kernel
def Q_rm_rnn (Z : State) (p0 : Addr) (p1 : Addr) (h0 : Heap) (n0 : Nat) (v : Option Value) (h : Heap) (L : List Loc) : Prop := v = some (.ref p0) ∧ Fr n0 L ∧ h = h0
set_option maxRecDepth 65536 in
set_option maxHeartbeats 40000000 in
theorem rm_rnn (l : Launch) (Z : State) (a0 : Array Value) (hw : ∀ d ∈ tables_1, d.before a0 Z = true) (ws : List Jvm.Cond) (p0 : Addr) (p1 : Addr) (h0 : Heap) (n0 : Nat) (X00 : Old Z n0 h0)  :
    MetFree l (⟨"java/util/Objects", "requireNonNull", "(Ljava/lang/Object;Ljava/lang/String;)Ljava/lang/Object;"⟩ : MethodName) (head1 (Jvm.Cond.code (⟨"java/util/Objects", "requireNonNull", "(Ljava/lang/Object;Ljava/lang/String;)Ljava/lang/Object;"⟩ : MethodName) jdk_31_method_11_code 2 (some (.object "java/lang/Object")) :: ws) ({ frames := 0, cells := 0, slots := 0, locals := 0 } : Room)) (fun a U => a = #[(.ref p0), (.ref p1)] ∧ Z.Warmed39 U.vm ∧ U.heap = h0) (fun _ _ _ _ _ => True) (fun _ U o U' => ∃ v L, o = .returned v ∧ Q_rm_rnn Z p0 p1 h0 n0 v U'.heap L ∧ FrameEnd U o U' L ({ frames := 0, cells := 0, slots := 0, locals := 0 } : Room).cells ({ frames := 0, cells := 0, slots := 0, locals := 0 } : Room).slots) := by
  refine MetFree.of_bodySF (plainFor_of_name own_pn3) hisR ?_
  intro p e s m args below meth c s₁ Bd hml0 hP hK
  obtain ⟨rfl, hZ, hh⟩ := hP
  have hx := Bd.exec
  have hby := Bd.bytes
  have hml : c.maxLocals = 2 := hml0
  have hown : s.vm.findClass "java/util/Objects" = some m.cls := findClass_of_methodNamed Bd.named
  have hnm := (name_of_methodNamed Bd.named Bd.method).1
  have X0 : Stand p l e ({ frames := 0, cells := 0, slots := 0, locals := 0 } : Room) s m #[(.ref p0), (.ref p1)] below meth c s₁ [] 0 0 := Stand.of_body Bd
  have e0 : s₁.heap = h0 := by rw [← hh, Bd.state]; rfl
  have N0 := Fr.nil n0
  refine Go.start fun P hPend => ?_
  refine Go.st (fun _ k => castTop (own_ef_rm_rnn m p0 p1) k) ?_
  show Go _ _ _ _ (s₁.setTop (mkF m 0 #[lR p0, lR p1] []))
  refine Go.st (fun _ => XS.aloadN X0.here hx rfl (hb hby od7_0) rfl rfl) ?_
  show Go _ _ _ _ (s₁.setTop (mkF m 1 #[lR p0, lR p1] [(.ref p0)]))
  refine Go.st (fun _ => XS.ifnonnullYes X0.here hx rfl (pc0 := 1) (pc' := 13) rfl (hb hby od7_1) rfl (by decide) (by decide)) ?_
  show Go _ _ _ _ (s₁.setTop (mkF m 13 #[lR p0, lR p1] []))
  refine Go.st (fun _ => XS.aloadN X0.here hx rfl (hb hby od7_13) rfl rfl) ?_
  show Go _ _ _ _ (s₁.setTop (mkF m 14 #[lR p0, lR p1] [(.ref p0)]))
  obtain ⟨fs, hr, hrun, hended, hW, hsame⟩ := X0.leave (v := some (.ref p0)) (fun h => by rw [Bd.returns] at h; cases h)
  refine ⟨_, ?_, hPend _ _ hrun hended ⟨_, _, rfl, ?_, ⟨_, rfl⟩, hW, hsame.mono (by decide) (by decide)⟩⟩
  · exact retOut X0 hx (t := (.object "java/lang/Object")) Bd.returns rfl (Or.inr (Or.inr (Or.inr (Or.inr ⟨rfl, rfl, rfl⟩)))) (hb hby od7_14) hr
  · show Q_rm_rnn Z _ _ h0 n0 _ s₁.heap _
    rw [e0]
    exact ⟨rfl, N0, rfl⟩
theorem own_ef_rm_ainit (m : MethodId) (x0 : Addr) (x1 : Int32) : entryFrame m #[(.ref x0), (.int x1)] 2 = mkF m 0 #[.val (.ref x0), .val (.int x1)] [] := by first | (simp [entryFrame, mkF, argsToLocals, Value.category]; done) | rfl
theorem own_pn4 : plainName "java/lang/AbstractStringBuilder" = true := by first | (simp [plainName, overriddenIn]; done) | decide +kernel
theorem od8_0 : decode jdk_68_method_2_code 0 = .ok (.aload_n 0, 1) := by decide +kernel
theorem od8_1 : decode jdk_68_method_2_code 1 = .ok (.invokespecial 3, 3) := by decide +kernel
theorem od8_4 : decode jdk_68_method_2_code 4 = .ok (.getstatic 18, 3) := by decide +kernel
theorem od8_7 : decode jdk_68_method_2_code 7 = .ok (.ifCond .eq 18, 3) := by decide +kernel
theorem od8_10 : decode jdk_68_method_2_code 10 = .ok (.aload_n 0, 1) := by decide +kernel
theorem od8_11 : decode jdk_68_method_2_code 11 = .ok (.iload_n 1, 1) := by decide +kernel
theorem od8_12 : decode jdk_68_method_2_code 12 = .ok (.newarray .byte, 2) := by decide +kernel
theorem od8_14 : decode jdk_68_method_2_code 14 = .ok (.putfield 15, 3) := by decide +kernel
theorem od8_17 : decode jdk_68_method_2_code 17 = .ok (.aload_n 0, 1) := by decide +kernel
theorem od8_18 : decode jdk_68_method_2_code 18 = .ok (.iconst 0, 1) := by decide +kernel
theorem od8_19 : decode jdk_68_method_2_code 19 = .ok (.putfield 22, 3) := by decide +kernel
theorem od8_22 : decode jdk_68_method_2_code 22 = .ok (.goto 16, 3) := by decide +kernel
theorem od8_38 : decode jdk_68_method_2_code 38 = .ok (.return_, 1) := by decide +kernel
def Q_rm_ainit (Z : State) (g_CS : Int32) (p0 : Addr) (h0 : Heap) (n0 : Nat) (v : Option Value) (h : Heap) (L : List Loc) : Prop := ∃ (ob : Addr) (kb : ClassId), v = none ∧ Fr n0 L ∧ Keep h0 h [p0] ∧ h0.size ≤ ob ∧ Exa Z h p0 "java/lang/StringBuilder" ∧ Fld Z h p0 "java/lang/AbstractStringBuilder" "value" "[B" (.ref ob) ∧ Fld Z h p0 "java/lang/AbstractStringBuilder" "coder" "B" (.int 0) ∧ Fld Z h p0 "java/lang/AbstractStringBuilder" "count" "I" (.int 0) ∧ Exa Z h ob "[B" ∧ Arv Z h ob kb .byte (16 : Int32) [] (.int 0)
set_option maxRecDepth 65536 in
set_option maxHeartbeats 40000000 in
theorem rm_ainit (l : Launch) (Z : State) (a0 : Array Value) (hw : ∀ d ∈ tables_1, d.before a0 Z = true) (ws : List Jvm.Cond) (g_CS : Int32) (S_CS : Sta Z Z.heap "java/lang/String" "COMPACT_STRINGS" "Z" (.int g_CS)) (nz_CS : ¬ (g_CS = (0 : Int32))) (p0 : Addr) (h0 : Heap) (n0 : Nat) (X00 : Old Z n0 h0) (hp0 : Exa Z h0 p0 "java/lang/StringBuilder") (hp1 : Fld Z h0 p0 "java/lang/AbstractStringBuilder" "value" "[B" .null) (hp2 : Fld Z h0 p0 "java/lang/AbstractStringBuilder" "coder" "B" (.int 0)) (hp3 : Fld Z h0 p0 "java/lang/AbstractStringBuilder" "count" "I" (.int 0)) (hp4 : n0 ≤ p0) :
    MetFree l (⟨"java/lang/AbstractStringBuilder", "<init>", "(I)V"⟩ : MethodName) (head1 (Jvm.Cond.code (⟨"java/lang/AbstractStringBuilder", "<init>", "(I)V"⟩ : MethodName) jdk_68_method_2_code 2 none :: ws) ({ frames := 1, cells := 1, slots := 16, locals := 12 } : Room)) (fun a U => a = #[(.ref p0), (.int 16)] ∧ Z.Warmed39 U.vm ∧ U.heap = h0) (fun _ _ _ _ _ => True) (fun _ U o U' => ∃ v L, o = .returned v ∧ Q_rm_ainit Z g_CS p0 h0 n0 v U'.heap L ∧ FrameEnd U o U' L ({ frames := 1, cells := 1, slots := 16, locals := 12 } : Room).cells ({ frames := 1, cells := 1, slots := 16, locals := 12 } : Room).slots) := by
  refine MetFree.of_bodySF (plainFor_of_name own_pn4) hisR ?_
  intro p e s m args below meth c s₁ Bd hml0 hP hK
  obtain ⟨rfl, hZ, hh⟩ := hP
  have hx := Bd.exec
  have hby := Bd.bytes
  have hml : c.maxLocals = 2 := hml0
  have hown : s.vm.findClass "java/lang/AbstractStringBuilder" = some m.cls := findClass_of_methodNamed Bd.named
  have hnm := (name_of_methodNamed Bd.named Bd.method).1
  have X0 : Stand p l e ({ frames := 1, cells := 1, slots := 16, locals := 12 } : Room) s m #[(.ref p0), (.int 16)] below meth c s₁ [] 0 0 := Stand.of_body Bd
  have e0 : s₁.heap = h0 := by rw [← hh, Bd.state]; rfl
  have N0 := Fr.nil n0
  refine Go.start fun P hPend => ?_
  refine Go.st (fun _ k => castTop (own_ef_rm_ainit m p0 ((16 : Int32))) k) ?_
  show Go _ _ _ _ (s₁.setTop (mkF m 0 #[lR p0, lI (16 : Int32)] []))
  refine Go.st (fun _ => XS.aloadN X0.here hx rfl (hb hby od8_0) rfl rfl) ?_
  show Go _ _ _ _ (s₁.setTop (mkF m 1 #[lR p0, lI (16 : Int32)] [(.ref p0)]))
  obtain ⟨T1, X1, e1, st1⟩ := initO X0 hx hZ hown (ow hw 66 rfl) (ow hw 20 rfl) (ow hw 21 rfl) e0 (g := (mkF m 1 #[lR p0, lI (16 : Int32)] [(.ref p0)])) rfl (by rw [hml]; rfl) rfl (hb hby od8_1) (by decide) (W := 0) (by show 2 * 0 + _ ≤ _; exact Nat.le_of_eq rfl) (by decide)
  refine Go.st st1 ?_
  show Go _ _ _ _ (T1.setTop (mkF m 4 #[lR p0, lI (16 : Int32)] []))
  obtain ⟨T2, X2, e2, st2⟩ := getS2 X1 hx hZ hown (host := "") (Or.inl (ow hw 67 rfl)) Via.refl e1 (S_CS.ext X00.2) (g := (mkF m 4 #[lR p0, lI (16 : Int32)] [])) rfl (hb hby od8_4)
  refine Go.st st2 ?_
  show Go _ _ _ _ (T2.setTop (mkF m 7 #[lR p0, lI (16 : Int32)] [(.int g_CS)]))
  have hb3 : ¬ (g_CS = (0 : Int32)) := nz_CS
  refine Go.st (fun _ => XS.ifNo X2.here hx rfl (hb hby od8_7) rfl ((if0 _ _).trans (feq hb3).1)) ?_
  show Go _ _ _ _ (T2.setTop (mkF m 10 #[lR p0, lI (16 : Int32)] []))
  refine Go.st (fun _ => XS.aloadN X2.here hx rfl (hb hby od8_10) rfl rfl) ?_
  refine Go.st (fun _ => XS.iloadN X2.here hx rfl (hb hby od8_11) rfl) ?_
  show Go _ _ _ _ (T2.setTop (mkF m 12 #[lR p0, lI (16 : Int32)] [(.int 16), (.ref p0)]))
  obtain ⟨T4, h4, k4, X4, e4, E4, A4, B4, st4⟩ := newPE X2 hx hZ (ow hw 14 rfl) e2 (g := (mkF m 12 #[lR p0, lI (16 : Int32)] [(.int 16), (.ref p0)])) rfl (hb hby od8_12) rfl (by decide) (cap := 16) (by decide) (by decide) (by decide) (by decide) (ad := "[B") (by decide +kernel)
  obtain ⟨b4, g4⟩ : ∃ z, z = h0.size := ⟨_, rfl⟩
  rw [← g4] at A4 B4 st4
  refine Go.st st4 ?_
  have g_b4 : n0 ≤ b4 := Nat.le_trans (own_oldsz X00) (Nat.le_of_eq g4.symm)
  have sz_b4 : h0.size ≤ b4 := Nat.le_trans (Keep.refl h0 [p0]).1 (Nat.le_of_eq g4.symm)
  have K4 : Keep h0 h4 [p0] := (Keep.refl h0 [p0]).ext E4
  have O4 := X00.ext E4
  have V4 : Arv Z h4 b4 k4 .byte (16 : Int32) [] (.int 0) := Arv.new A4 (by decide)
  show Go _ _ _ _ (T4.setTop (mkF m 14 #[lR p0, lI (16 : Int32)] [(.ref b4), (.ref p0)]))
  have c5 := (hp1.ext E4)
  have c6 := (hp0.ext E4)
  obtain ⟨T7, h7, X7, e7, W7, st7⟩ := putF X4 hx hZ hown (host := "") (Or.inl (ow hw 68 rfl)) Via.refl e4 c5 c6 (Or.inl (ow hw 69 rfl)) (ow hw 55 rfl) (ty := (.array .byte)) (by decide) rfl rfl (g := (mkF m 14 #[lR p0, lI (16 : Int32)] [(.ref b4), (.ref p0)])) rfl rfl (hb hby od8_14)
  refine Go.st st7 ?_
  have K7 : Keep h0 h7 [p0] := K4.wr W7 (Or.inl (List.mem_of_getElem? (i := 0) rfl))
  have O7 := O4.wr W7 hp4
  have N7 := Fr.snoc X7 N0 hp4
  have F7 := c5.same W7
  show Go _ _ _ _ (T7.setTop (mkF m 17 #[lR p0, lI (16 : Int32)] []))
  refine Go.st (fun _ => XS.aloadN X7.here hx rfl (hb hby od8_17) rfl rfl) ?_
  refine Go.st (fun _ => XS.iconst X7.here hx rfl (hb hby od8_18)) ?_
  show Go _ _ _ _ (T7.setTop (mkF m 19 #[lR p0, lI (16 : Int32)] [(.int 0), (.ref p0)]))
  have c8 := ((hp2.ext E4).other W7 (Or.inr (slot_ne (Or.inl (ow hw 71 rfl)) (Or.inl (ow hw 69 rfl)) (by decide) (t := .byte) (t' := (.array .byte)) (by decide) (by decide))))
  have c9 := (c6.wr W7)
  obtain ⟨T10, h10, X10, e10, W10, st10⟩ := putF X7 hx hZ hown (host := "") (Or.inl (ow hw 70 rfl)) Via.refl e7 c8 c9 (Or.inl (ow hw 71 rfl)) (ow hw 55 rfl) (ty := .byte) (by decide) rfl rfl (g := (mkF m 19 #[lR p0, lI (16 : Int32)] [(.int 0), (.ref p0)])) rfl rfl (hb hby od8_19)
  refine Go.st st10 ?_
  have K10 : Keep h0 h10 [p0] := K7.wr W10 (Or.inl (List.mem_of_getElem? (i := 0) rfl))
  have O10 := O7.wr W10 hp4
  have N10 := Fr.snoc X10 N7 hp4
  have F10 := c8.same W10
  show Go _ _ _ _ (T10.setTop (mkF m 22 #[lR p0, lI (16 : Int32)] []))
  refine Go.st (fun _ => XS.goto X10.here hx rfl (pc0 := 22) (pc' := 38) rfl (hb hby od8_22) (by decide) (by decide)) ?_
  show Go _ _ _ _ (T10.setTop (mkF m 38 #[lR p0, lI (16 : Int32)] []))
  obtain ⟨fs, hr, hrun, hended, hW, hsame⟩ := X10.leave (v := none) (fun _ => rfl)
  refine ⟨_, ?_, hPend _ _ hrun hended ⟨_, _, rfl, ?_, ⟨_, rfl⟩, hW, hsame.mono (by decide) (by decide)⟩⟩
  · exact X10.returnOut hx Bd.returns (hb hby od8_38) hr
  · show Q_rm_ainit Z _ _ h0 n0 _ T10.heap _
    rw [e10]
    have c11 := (c9.wr W10)
    have c12 := (F7.other W10 (Or.inr (slot_ne (Or.inl (ow hw 69 rfl)) (Or.inl (ow hw 71 rfl)) (by decide) (t := (.array .byte)) (t' := .byte) (by decide) (by decide))))
    have c13 := (((hp3.ext E4).other W7 (Or.inr (slot_ne (Or.inl (ow hw 94 rfl)) (Or.inl (ow hw 69 rfl)) (by decide) (t := .int) (t' := (.array .byte)) (by decide) (by decide)))).other W10 (Or.inr (slot_ne (Or.inl (ow hw 94 rfl)) (Or.inl (ow hw 71 rfl)) (by decide) (t := .int) (t' := .byte) (by decide) (by decide))))
    have c14 := ((B4.wr W7).wr W10)
    have c15 := ((V4.other W7 (Ne.symm (Nat.ne_of_lt (Nat.lt_of_lt_of_le hp0.lt (Nat.le_of_eq g4.symm))))).other W10 (Ne.symm (Nat.ne_of_lt (Nat.lt_of_lt_of_le hp0.lt (Nat.le_of_eq g4.symm)))))
    exact ⟨b4, k4, rfl, N10, K10, sz_b4, c11, c12, F10, c13, c14, c15⟩
theorem own_ef_rm_sbinit (m : MethodId) (x0 : Addr) : entryFrame m #[(.ref x0)] 1 = mkF m 0 #[.val (.ref x0)] [] := by first | (simp [entryFrame, mkF, argsToLocals, Value.category]; done) | rfl
theorem own_pn5 : plainName "java/lang/StringBuilder" = true := by first | (simp [plainName, overriddenIn]; done) | decide +kernel
theorem od9_0 : decode jdk_67_method_1_code 0 = .ok (.aload_n 0, 1) := by decide +kernel
theorem od9_1 : decode jdk_67_method_1_code 1 = .ok (.bipush 16, 2) := by decide +kernel
theorem od9_3 : decode jdk_67_method_1_code 3 = .ok (.invokespecial 1, 3) := by decide +kernel
theorem own_pd4 : parseMethodDescriptor "(I)V" = some ⟨[.int], none⟩ := by decide +kernel
theorem od9_6 : decode jdk_67_method_1_code 6 = .ok (.return_, 1) := by decide +kernel
def Q_rm_sbinit (Z : State) (g_CS : Int32) (p0 : Addr) (h0 : Heap) (n0 : Nat) (v : Option Value) (h : Heap) (L : List Loc) : Prop := ∃ (ob : Addr) (kb : ClassId), v = none ∧ Fr n0 L ∧ Keep h0 h [p0] ∧ h0.size ≤ ob ∧ Exa Z h p0 "java/lang/StringBuilder" ∧ Fld Z h p0 "java/lang/AbstractStringBuilder" "value" "[B" (.ref ob) ∧ Fld Z h p0 "java/lang/AbstractStringBuilder" "coder" "B" (.int 0) ∧ Fld Z h p0 "java/lang/AbstractStringBuilder" "count" "I" (.int 0) ∧ Exa Z h ob "[B" ∧ Arv Z h ob kb .byte (16 : Int32) [] (.int 0)
set_option maxRecDepth 65536 in
set_option maxHeartbeats 40000000 in
theorem rm_sbinit (l : Launch) (Z : State) (a0 : Array Value) (hw : ∀ d ∈ tables_1, d.before a0 Z = true) (ws : List Jvm.Cond) (g_CS : Int32) (S_CS : Sta Z Z.heap "java/lang/String" "COMPACT_STRINGS" "Z" (.int g_CS)) (nz_CS : ¬ (g_CS = (0 : Int32))) (p0 : Addr) (h0 : Heap) (n0 : Nat) (X00 : Old Z n0 h0) (hp0 : Exa Z h0 p0 "java/lang/StringBuilder") (hp1 : Fld Z h0 p0 "java/lang/AbstractStringBuilder" "value" "[B" .null) (hp2 : Fld Z h0 p0 "java/lang/AbstractStringBuilder" "coder" "B" (.int 0)) (hp3 : Fld Z h0 p0 "java/lang/AbstractStringBuilder" "count" "I" (.int 0)) (hp4 : n0 ≤ p0) :
    MetFree l (⟨"java/lang/StringBuilder", "<init>", "()V"⟩ : MethodName) (head1 (Jvm.Cond.code (⟨"java/lang/StringBuilder", "<init>", "()V"⟩ : MethodName) jdk_67_method_1_code 1 none :: ws) ({ frames := 2, cells := 1, slots := 16, locals := 25 } : Room)) (fun a U => a = #[(.ref p0)] ∧ Z.Warmed39 U.vm ∧ U.heap = h0) (fun _ _ _ _ _ => True) (fun _ U o U' => ∃ v L, o = .returned v ∧ Q_rm_sbinit Z g_CS p0 h0 n0 v U'.heap L ∧ FrameEnd U o U' L ({ frames := 2, cells := 1, slots := 16, locals := 25 } : Room).cells ({ frames := 2, cells := 1, slots := 16, locals := 25 } : Room).slots) := by
  refine MetFree.of_bodySF (plainFor_of_name own_pn5) hisR ?_
  intro p e s m args below meth c s₁ Bd hml0 hP hK
  obtain ⟨rfl, hZ, hh⟩ := hP
  have hx := Bd.exec
  have hby := Bd.bytes
  have hml : c.maxLocals = 1 := hml0
  have hown : s.vm.findClass "java/lang/StringBuilder" = some m.cls := findClass_of_methodNamed Bd.named
  have hnm := (name_of_methodNamed Bd.named Bd.method).1
  have X0 : Stand p l e ({ frames := 2, cells := 1, slots := 16, locals := 25 } : Room) s m #[(.ref p0)] below meth c s₁ [] 0 0 := Stand.of_body Bd
  have e0 : s₁.heap = h0 := by rw [← hh, Bd.state]; rfl
  have N0 := Fr.nil n0
  refine Go.start fun P hPend => ?_
  refine Go.st (fun _ k => castTop (own_ef_rm_sbinit m p0) k) ?_
  show Go _ _ _ _ (s₁.setTop (mkF m 0 #[lR p0] []))
  refine Go.st (fun _ => XS.aloadN X0.here hx rfl (hb hby od9_0) rfl rfl) ?_
  refine Go.st (fun _ => XS.bipush X0.here hx rfl (hb hby od9_1)) ?_
  show Go _ _ _ _ (s₁.setTop (mkF m 3 #[lR p0] [(.int 16), (.ref p0)]))
  obtain ⟨_, _, ⟨T1, L1, k1, n1⟩, -, X1, ⟨Lc1, hQ1, l1, y1, z1⟩, st1⟩ := X0.specialBack hx (y := (⟨"java/lang/AbstractStringBuilder", "<init>", "(I)V"⟩ : MethodName)) rfl hown (mvT hZ (ow hw 60 rfl)) (mvT hZ (ow hw 61 rfl)) (mvT hZ (ow hw 65 rfl)) (by decide) (backOf (W := 0) (rm_ainit l Z a0 hw [] g_CS S_CS nz_CS p0 h0 n0 X00 hp0 hp1 hp2 hp3 hp4) hZ (ow hw 65 rfl) (ow hw 64 rfl) (by decide) (by decide)) (g := (mkF m 3 #[lR p0] [(.int 16), (.ref p0)])) rfl (by rw [hml]; rfl) (Steps.refl _) (a := p0) (argsL := [(.int 16)]) (rest := []) (lenOf own_pd4 rfl) rfl (by show 2 * 0 + _ ≤ _; exact Nat.le_of_eq rfl) (hb hby od9_3) (fun _ _ => ⟨rfl, e0, (by decide : 0 + 1 ≤ _), (by decide : 0 + 16 ≤ _)⟩)
  dsimp only [Pt.U, Pt.locs, Pt.cells, Pt.slots] at X1 l1 y1 z1 st1 hQ1
  subst y1 z1
  refine Go.tr st1 ?_
  obtain ⟨ob_2, kb_3, rfl, N1q, K1q, q1_0, q1_1, q1_2, q1_3, q1_4, q1_5, q1_6⟩ := hQ1
  have N1 : Fr n0 L1 := by rw [l1]; exact Fr.app N0 N1q
  have O1 := X00.keep K1q (allS hp4 all0)
  have K1 : Keep h0 T1.heap [p0] := (Keep.refl h0 [p0]).trans K1q (allS (Or.inl (List.mem_of_getElem? (i := 0) rfl)) all0)
  have sz_ob_2 : h0.size ≤ ob_2 := Nat.le_trans (Keep.refl h0 [p0]).1 q1_0
  have g_ob_2 : n0 ≤ ob_2 := Nat.le_trans (own_oldsz X00) sz_ob_2
  show Go _ _ _ _ (T1.setTop (mkF m 6 #[lR p0] []))
  obtain ⟨fs, hr, hrun, hended, hW, hsame⟩ := X1.leave (v := none) (fun _ => rfl)
  refine ⟨_, ?_, hPend _ _ hrun hended ⟨_, _, rfl, ?_, ⟨_, rfl⟩, hW, hsame.mono (by decide) (by decide)⟩⟩
  · exact X1.returnOut hx Bd.returns (hb hby od9_6) hr
  · show Q_rm_sbinit Z _ _ h0 n0 _ T1.heap _
    exact ⟨ob_2, kb_3, rfl, N1, K1, sz_ob_2, q1_1, q1_2, q1_3, q1_4, q1_5, q1_6⟩
theorem own_ef_rm_coder (m : MethodId) (x0 : Addr) : entryFrame m #[(.ref x0)] 1 = mkF m 0 #[.val (.ref x0)] [] := by first | (simp [entryFrame, mkF, argsToLocals, Value.category]; done) | rfl
theorem od10_0 : decode jdk_42_method_152_code 0 = .ok (.getstatic 38, 3) := by decide +kernel
theorem od10_3 : decode jdk_42_method_152_code 3 = .ok (.ifCond .eq 10, 3) := by decide +kernel
theorem od10_6 : decode jdk_42_method_152_code 6 = .ok (.aload_n 0, 1) := by decide +kernel
theorem od10_7 : decode jdk_42_method_152_code 7 = .ok (.getfield 15, 3) := by decide +kernel
theorem od10_10 : decode jdk_42_method_152_code 10 = .ok (.goto 4, 3) := by decide +kernel
theorem od10_14 : decode jdk_42_method_152_code 14 = .ok (.ireturn, 1) := by decide +kernel
def Q_rm_coder (Z : State) (g_CS : Int32) (p0 : Addr) (h0 : Heap) (n0 : Nat) (v : Option Value) (h : Heap) (L : List Loc) : Prop := v = some (.int 0) ∧ Fr n0 L ∧ h = h0
set_option maxRecDepth 65536 in
set_option maxHeartbeats 40000000 in
theorem rm_coder (l : Launch) (Z : State) (a0 : Array Value) (hw : ∀ d ∈ tables_1, d.before a0 Z = true) (ws : List Jvm.Cond) (g_CS : Int32) (S_CS : Sta Z Z.heap "java/lang/String" "COMPACT_STRINGS" "Z" (.int g_CS)) (nz_CS : ¬ (g_CS = (0 : Int32))) (p0 : Addr) (h0 : Heap) (n0 : Nat) (X00 : Old Z n0 h0) (hp0 : Fld Z h0 p0 "java/lang/String" "coder" "B" (.int 0)) :
    MetFree l (⟨"java/lang/String", "coder", "()B"⟩ : MethodName) (head1 (Jvm.Cond.code (⟨"java/lang/String", "coder", "()B"⟩ : MethodName) jdk_42_method_152_code 1 (some .byte) :: ws) ({ frames := 0, cells := 0, slots := 0, locals := 0 } : Room)) (fun a U => a = #[(.ref p0)] ∧ Z.Warmed39 U.vm ∧ U.heap = h0) (fun _ _ _ _ _ => True) (fun _ U o U' => ∃ v L, o = .returned v ∧ Q_rm_coder Z g_CS p0 h0 n0 v U'.heap L ∧ FrameEnd U o U' L ({ frames := 0, cells := 0, slots := 0, locals := 0 } : Room).cells ({ frames := 0, cells := 0, slots := 0, locals := 0 } : Room).slots) := by
  refine MetFree.of_bodySF (plainFor_of_name own_pn0) hisR ?_
  intro p e s m args below meth c s₁ Bd hml0 hP hK
  obtain ⟨rfl, hZ, hh⟩ := hP
  have hx := Bd.exec
  have hby := Bd.bytes
  have hml : c.maxLocals = 1 := hml0
  have hown : s.vm.findClass "java/lang/String" = some m.cls := findClass_of_methodNamed Bd.named
  have hnm := (name_of_methodNamed Bd.named Bd.method).1
  have X0 : Stand p l e ({ frames := 0, cells := 0, slots := 0, locals := 0 } : Room) s m #[(.ref p0)] below meth c s₁ [] 0 0 := Stand.of_body Bd
  have e0 : s₁.heap = h0 := by rw [← hh, Bd.state]; rfl
  have N0 := Fr.nil n0
  refine Go.start fun P hPend => ?_
  refine Go.st (fun _ k => castTop (own_ef_rm_coder m p0) k) ?_
  show Go _ _ _ _ (s₁.setTop (mkF m 0 #[lR p0] []))
  obtain ⟨T1, X1, e1, st1⟩ := getS2 X0 hx hZ hown (host := "") (Or.inl (ow hw 4 rfl)) Via.refl e0 (S_CS.ext X00.2) (g := (mkF m 0 #[lR p0] [])) rfl (hb hby od10_0)
  refine Go.st st1 ?_
  show Go _ _ _ _ (T1.setTop (mkF m 3 #[lR p0] [(.int g_CS)]))
  have hb2 : ¬ (g_CS = (0 : Int32)) := nz_CS
  refine Go.st (fun _ => XS.ifNo X1.here hx rfl (hb hby od10_3) rfl ((if0 _ _).trans (feq hb2).1)) ?_
  show Go _ _ _ _ (T1.setTop (mkF m 6 #[lR p0] []))
  refine Go.st (fun _ => XS.aloadN X1.here hx rfl (hb hby od10_6) rfl rfl) ?_
  show Go _ _ _ _ (T1.setTop (mkF m 7 #[lR p0] [(.ref p0)]))
  obtain ⟨T3, X3, e3, st3⟩ := getF X1 hx hZ hown (host := "") (Or.inl (ow hw 24 rfl)) Via.refl e1 hp0 (g := (mkF m 7 #[lR p0] [(.ref p0)])) rfl rfl (hb hby od10_7)
  refine Go.st st3 ?_
  show Go _ _ _ _ (T3.setTop (mkF m 10 #[lR p0] [(.int 0)]))
  refine Go.st (fun _ => XS.goto X3.here hx rfl (pc0 := 10) (pc' := 14) rfl (hb hby od10_10) (by decide) (by decide)) ?_
  show Go _ _ _ _ (T3.setTop (mkF m 14 #[lR p0] [(.int 0)]))
  obtain ⟨fs, hr, hrun, hended, hW, hsame⟩ := X3.leave (v := some (.int 0)) (fun h => by rw [Bd.returns] at h; cases h)
  refine ⟨_, ?_, hPend _ _ hrun hended ⟨_, _, rfl, ?_, ⟨_, rfl⟩, hW, hsame.mono (by decide) (by decide)⟩⟩
  · exact retN X3 hx (t := .byte) Bd.returns (by simp) (hb hby od10_14) hr
  · show Q_rm_coder Z _ _ h0 n0 _ T3.heap _
    rw [e3]
    exact ⟨rfl, N0, rfl⟩
theorem own_ef_rm_ensr (m : MethodId) (x0 : Addr) (x1 : Int32) : entryFrame m #[(.ref x0), (.int x1)] 3 = mkF m 0 #[.val (.ref x0), .val (.int x1), .unset] [] := by first | (simp [entryFrame, mkF, argsToLocals, Value.category]; done) | rfl
theorem od11_0 : decode jdk_68_method_9_code 0 = .ok (.aload_n 0, 1) := by decide +kernel
theorem od11_1 : decode jdk_68_method_9_code 1 = .ok (.getfield 15, 3) := by decide +kernel
theorem od11_4 : decode jdk_68_method_9_code 4 = .ok (.arraylength, 1) := by decide +kernel
theorem od11_5 : decode jdk_68_method_9_code 5 = .ok (.aload_n 0, 1) := by decide +kernel
theorem od11_6 : decode jdk_68_method_9_code 6 = .ok (.getfield 22, 3) := by decide +kernel
theorem od11_9 : decode jdk_68_method_9_code 9 = .ok (.ishr, 1) := by decide +kernel
theorem od11_10 : decode jdk_68_method_9_code 10 = .ok (.istore_n 2, 1) := by decide +kernel
theorem od11_11 : decode jdk_68_method_9_code 11 = .ok (.iload_n 1, 1) := by decide +kernel
theorem od11_12 : decode jdk_68_method_9_code 12 = .ok (.iload_n 2, 1) := by decide +kernel
theorem od11_13 : decode jdk_68_method_9_code 13 = .ok (.isub, 1) := by decide +kernel
theorem od11_14 : decode jdk_68_method_9_code 14 = .ok (.ifCond .le 24, 3) := by decide +kernel
theorem od11_38 : decode jdk_68_method_9_code 38 = .ok (.return_, 1) := by decide +kernel
def Q_rm_ensr (Z : State) (g_CS : Int32) (p0 : Addr) (p1 : Int32) (arr : Addr) (ka : ClassId) (za : Int32) (va : List Value) (h0 : Heap) (n0 : Nat) (v : Option Value) (h : Heap) (L : List Loc) : Prop := v = none ∧ Fr n0 L ∧ h = h0
set_option maxRecDepth 65536 in
set_option maxHeartbeats 40000000 in
theorem rm_ensr (l : Launch) (Z : State) (a0 : Array Value) (hw : ∀ d ∈ tables_1, d.before a0 Z = true) (ws : List Jvm.Cond) (g_CS : Int32) (S_CS : Sta Z Z.heap "java/lang/String" "COMPACT_STRINGS" "Z" (.int g_CS)) (nz_CS : ¬ (g_CS = (0 : Int32))) (p0 : Addr) (p1 : Int32) (arr : Addr) (ka : ClassId) (za : Int32) (va : List Value) (h0 : Heap) (n0 : Nat) (X00 : Old Z n0 h0) (hp0 : Fld Z h0 p0 "java/lang/AbstractStringBuilder" "value" "[B" (.ref arr)) (hp1 : Fld Z h0 p0 "java/lang/AbstractStringBuilder" "coder" "B" (.int 0)) (hp2 : Arv Z h0 arr ka .byte za va (.int 0)) (hroom : ¬ ((0 : Int32) < (p1 - za))) :
    MetFree l (⟨"java/lang/AbstractStringBuilder", "ensureCapacityInternal", "(I)V"⟩ : MethodName) (head1 (Jvm.Cond.code (⟨"java/lang/AbstractStringBuilder", "ensureCapacityInternal", "(I)V"⟩ : MethodName) jdk_68_method_9_code 3 none :: ws) ({ frames := 0, cells := 0, slots := 0, locals := 0 } : Room)) (fun a U => a = #[(.ref p0), (.int p1)] ∧ Z.Warmed39 U.vm ∧ U.heap = h0) (fun _ _ _ _ _ => True) (fun _ U o U' => ∃ v L, o = .returned v ∧ Q_rm_ensr Z g_CS p0 p1 arr ka za va h0 n0 v U'.heap L ∧ FrameEnd U o U' L ({ frames := 0, cells := 0, slots := 0, locals := 0 } : Room).cells ({ frames := 0, cells := 0, slots := 0, locals := 0 } : Room).slots) := by
  refine MetFree.of_bodySF (plainFor_of_name own_pn4) hisR ?_
  intro p e s m args below meth c s₁ Bd hml0 hP hK
  obtain ⟨rfl, hZ, hh⟩ := hP
  have hx := Bd.exec
  have hby := Bd.bytes
  have hml : c.maxLocals = 3 := hml0
  have hown : s.vm.findClass "java/lang/AbstractStringBuilder" = some m.cls := findClass_of_methodNamed Bd.named
  have hnm := (name_of_methodNamed Bd.named Bd.method).1
  have X0 : Stand p l e ({ frames := 0, cells := 0, slots := 0, locals := 0 } : Room) s m #[(.ref p0), (.int p1)] below meth c s₁ [] 0 0 := Stand.of_body Bd
  have e0 : s₁.heap = h0 := by rw [← hh, Bd.state]; rfl
  have N0 := Fr.nil n0
  refine Go.start fun P hPend => ?_
  refine Go.st (fun _ k => castTop (own_ef_rm_ensr m p0 p1) k) ?_
  show Go _ _ _ _ (s₁.setTop (mkF m 0 #[lR p0, lI p1, lU] []))
  refine Go.st (fun _ => XS.aloadN X0.here hx rfl (hb hby od11_0) rfl rfl) ?_
  show Go _ _ _ _ (s₁.setTop (mkF m 1 #[lR p0, lI p1, lU] [(.ref p0)]))
  obtain ⟨T1, X1, e1, st1⟩ := getF X0 hx hZ hown (host := "") (Or.inl (ow hw 68 rfl)) Via.refl e0 hp0 (g := (mkF m 1 #[lR p0, lI p1, lU] [(.ref p0)])) rfl rfl (hb hby od11_1)
  refine Go.st st1 ?_
  show Go _ _ _ _ (T1.setTop (mkF m 4 #[lR p0, lI p1, lU] [(.ref arr)]))
  refine Go.st (fun _ => own_len X1 hx hZ e1 hp2 (g := (mkF m 4 #[lR p0, lI p1, lU] [(.ref arr)])) rfl rfl (hb hby od11_4) _) ?_
  show Go _ _ _ _ (T1.setTop (mkF m 5 #[lR p0, lI p1, lU] [(.int za)]))
  refine Go.st (fun _ => XS.aloadN X1.here hx rfl (hb hby od11_5) rfl rfl) ?_
  show Go _ _ _ _ (T1.setTop (mkF m 6 #[lR p0, lI p1, lU] [(.ref p0), (.int za)]))
  obtain ⟨T2, X2, e2, st2⟩ := getF X1 hx hZ hown (host := "") (Or.inl (ow hw 70 rfl)) Via.refl e1 hp1 (g := (mkF m 6 #[lR p0, lI p1, lU] [(.ref p0), (.int za)])) rfl rfl (hb hby od11_6)
  refine Go.st st2 ?_
  show Go _ _ _ _ (T2.setTop (mkF m 9 #[lR p0, lI p1, lU] [(.int 0), (.int za)]))
  refine Go.st (fun _ => XS.ishr X2.here hx rfl (hb hby od11_9) rfl) ?_
  show Go _ _ _ _ (T2.setTop (mkF m 10 #[lR p0, lI p1, lU] [(.int (za >>> ((0 : Int32) &&& 31)))]))
  rw [show (za >>> ((0 : Int32) &&& 31)) = za from own_ishr0 _]
  show Go _ _ _ _ (T2.setTop (mkF m 10 #[lR p0, lI p1, lU] [(.int za)]))
  refine Go.st (fun _ => XS.istoreN X2.here hx rfl (hb hby od11_10) rfl (l' := #[lR p0, lI p1, lI za]) rfl) ?_
  show Go _ _ _ _ (T2.setTop (mkF m 11 #[lR p0, lI p1, lI za] []))
  refine Go.st (fun _ => XS.iloadN X2.here hx rfl (hb hby od11_11) rfl) ?_
  refine Go.st (fun _ => XS.iloadN X2.here hx rfl (hb hby od11_12) rfl) ?_
  show Go _ _ _ _ (T2.setTop (mkF m 13 #[lR p0, lI p1, lI za] [(.int za), (.int p1)]))
  refine Go.st (fun _ => XS.isub X2.here hx rfl (hb hby od11_13) rfl) ?_
  show Go _ _ _ _ (T2.setTop (mkF m 14 #[lR p0, lI p1, lI za] [(.int (p1 - za))]))
  have hb3 : ¬ ((0 : Int32) < (p1 - za)) := hroom
  refine Go.st (fun _ => XS.ifYes X2.here hx rfl (pc0 := 14) (pc' := 38) rfl (hb hby od11_14) rfl ((if0 _ _).trans (flt hb3).2.2.2) (by decide) (by decide)) ?_
  show Go _ _ _ _ (T2.setTop (mkF m 38 #[lR p0, lI p1, lI za] []))
  obtain ⟨fs, hr, hrun, hended, hW, hsame⟩ := X2.leave (v := none) (fun _ => rfl)
  refine ⟨_, ?_, hPend _ _ hrun hended ⟨_, _, rfl, ?_, ⟨_, rfl⟩, hW, hsame.mono (by decide) (by decide)⟩⟩
  · exact X2.returnOut hx Bd.returns (hb hby od11_38) hr
  · show Q_rm_ensr Z _ _ _ _ _ _ _ h0 n0 _ T2.heap _
    rw [e2]
    exact ⟨rfl, N0, rfl⟩
theorem own_ef_rm_infl (m : MethodId) (x0 : Addr) (x1 : Addr) : entryFrame m #[(.ref x0), (.ref x1)] 2 = mkF m 0 #[.val (.ref x0), .val (.ref x1)] [] := by first | (simp [entryFrame, mkF, argsToLocals, Value.category]; done) | rfl
theorem od12_0 : decode jdk_68_method_71_code 0 = .ok (.getstatic 18, 3) := by decide +kernel
theorem od12_3 : decode jdk_68_method_71_code 3 = .ok (.ifCond .eq 18, 3) := by decide +kernel
theorem od12_6 : decode jdk_68_method_71_code 6 = .ok (.aload_n 0, 1) := by decide +kernel
theorem od12_7 : decode jdk_68_method_71_code 7 = .ok (.getfield 22, 3) := by decide +kernel
theorem od12_10 : decode jdk_68_method_71_code 10 = .ok (.aload_n 1, 1) := by decide +kernel
theorem od12_11 : decode jdk_68_method_71_code 11 = .ok (.invokevirtual 40, 3) := by decide +kernel
theorem own_pd5 : parseMethodDescriptor "()B" = some ⟨[], some .byte⟩ := by decide +kernel
theorem od12_14 : decode jdk_68_method_71_code 14 = .ok (.if_icmp .eq 7, 3) := by decide +kernel
theorem od12_21 : decode jdk_68_method_71_code 21 = .ok (.return_, 1) := by decide +kernel
def Q_rm_infl (Z : State) (g_CS : Int32) (p0 : Addr) (p1 : Addr) (h0 : Heap) (n0 : Nat) (v : Option Value) (h : Heap) (L : List Loc) : Prop := v = none ∧ Fr n0 L ∧ h = h0
set_option maxRecDepth 65536 in
set_option maxHeartbeats 40000000 in
theorem rm_infl (l : Launch) (Z : State) (a0 : Array Value) (hw : ∀ d ∈ tables_1, d.before a0 Z = true) (ws : List Jvm.Cond) (g_CS : Int32) (S_CS : Sta Z Z.heap "java/lang/String" "COMPACT_STRINGS" "Z" (.int g_CS)) (nz_CS : ¬ (g_CS = (0 : Int32))) (p0 : Addr) (p1 : Addr) (h0 : Heap) (n0 : Nat) (X00 : Old Z n0 h0) (hp0 : Fld Z h0 p0 "java/lang/AbstractStringBuilder" "coder" "B" (.int 0)) (hp1 : Exa Z h0 p1 "java/lang/String") (hp2 : Fld Z h0 p1 "java/lang/String" "coder" "B" (.int 0)) :
    MetFree l (⟨"java/lang/AbstractStringBuilder", "inflateIfNeededFor", "(Ljava/lang/String;)V"⟩ : MethodName) (head1 (Jvm.Cond.code (⟨"java/lang/AbstractStringBuilder", "inflateIfNeededFor", "(Ljava/lang/String;)V"⟩ : MethodName) jdk_68_method_71_code 2 none :: ws) ({ frames := 1, cells := 0, slots := 0, locals := 13 } : Room)) (fun a U => a = #[(.ref p0), (.ref p1)] ∧ Z.Warmed39 U.vm ∧ U.heap = h0) (fun _ _ _ _ _ => True) (fun _ U o U' => ∃ v L, o = .returned v ∧ Q_rm_infl Z g_CS p0 p1 h0 n0 v U'.heap L ∧ FrameEnd U o U' L ({ frames := 1, cells := 0, slots := 0, locals := 13 } : Room).cells ({ frames := 1, cells := 0, slots := 0, locals := 13 } : Room).slots) := by
  refine MetFree.of_bodySF (plainFor_of_name own_pn4) hisR ?_
  intro p e s m args below meth c s₁ Bd hml0 hP hK
  obtain ⟨rfl, hZ, hh⟩ := hP
  have hx := Bd.exec
  have hby := Bd.bytes
  have hml : c.maxLocals = 2 := hml0
  have hown : s.vm.findClass "java/lang/AbstractStringBuilder" = some m.cls := findClass_of_methodNamed Bd.named
  have hnm := (name_of_methodNamed Bd.named Bd.method).1
  have X0 : Stand p l e ({ frames := 1, cells := 0, slots := 0, locals := 13 } : Room) s m #[(.ref p0), (.ref p1)] below meth c s₁ [] 0 0 := Stand.of_body Bd
  have e0 : s₁.heap = h0 := by rw [← hh, Bd.state]; rfl
  have N0 := Fr.nil n0
  refine Go.start fun P hPend => ?_
  refine Go.st (fun _ k => castTop (own_ef_rm_infl m p0 p1) k) ?_
  show Go _ _ _ _ (s₁.setTop (mkF m 0 #[lR p0, lR p1] []))
  obtain ⟨T1, X1, e1, st1⟩ := getS2 X0 hx hZ hown (host := "") (Or.inl (ow hw 67 rfl)) Via.refl e0 (S_CS.ext X00.2) (g := (mkF m 0 #[lR p0, lR p1] [])) rfl (hb hby od12_0)
  refine Go.st st1 ?_
  show Go _ _ _ _ (T1.setTop (mkF m 3 #[lR p0, lR p1] [(.int g_CS)]))
  have hb2 : ¬ (g_CS = (0 : Int32)) := nz_CS
  refine Go.st (fun _ => XS.ifNo X1.here hx rfl (hb hby od12_3) rfl ((if0 _ _).trans (feq hb2).1)) ?_
  show Go _ _ _ _ (T1.setTop (mkF m 6 #[lR p0, lR p1] []))
  refine Go.st (fun _ => XS.aloadN X1.here hx rfl (hb hby od12_6) rfl rfl) ?_
  show Go _ _ _ _ (T1.setTop (mkF m 7 #[lR p0, lR p1] [(.ref p0)]))
  obtain ⟨T3, X3, e3, st3⟩ := getF X1 hx hZ hown (host := "") (Or.inl (ow hw 70 rfl)) Via.refl e1 hp0 (g := (mkF m 7 #[lR p0, lR p1] [(.ref p0)])) rfl rfl (hb hby od12_7)
  refine Go.st st3 ?_
  show Go _ _ _ _ (T3.setTop (mkF m 10 #[lR p0, lR p1] [(.int 0)]))
  refine Go.st (fun _ => XS.aloadN X3.here hx rfl (hb hby od12_10) rfl rfl) ?_
  show Go _ _ _ _ (T3.setTop (mkF m 11 #[lR p0, lR p1] [(.ref p1), (.int 0)]))
  obtain ⟨cq4, kq4, q4a, q4b, q4c⟩ := isOf hZ e3 hp1
  obtain ⟨_, _, ⟨T4, L4, k4, n4⟩, -, X4, ⟨Lc4, hQ4, l4, y4, z4⟩, st4⟩ := X3.virtualBack hx (y := (⟨"java/lang/String", "coder", "()B"⟩ : MethodName)) (z := (⟨"java/lang/String", "coder", "()B"⟩ : MethodName)) hown (mvT hZ (ow hw 110 rfl)) (mvT hZ (ow hw 89 rfl)) (notFace_of_selects (args := #[]) (mvT hZ (ow hw 91 rfl))) (mvT hZ (ow hw 91 rfl)) (mvT hZ (ow hw 90 rfl)) (by decide) (backOf (W := 1) (rm_coder l Z a0 hw [] g_CS S_CS nz_CS p1 h0 n0 X00 hp2) hZ (ow hw 92 rfl) (ow hw 2 rfl) (by decide) (by decide)) q4a q4c (g := (mkF m 11 #[lR p0, lR p1] [(.ref p1), (.int 0)])) rfl (by rw [hml]; rfl) (Steps.refl _) (argsL := []) (rest := [(.int 0)]) (lenOf own_pd5 rfl) rfl (by show 2 * 0 + _ ≤ _; exact Nat.le_of_eq rfl) (hb hby od12_11) (fun _ _ => ⟨rfl, e3, (by decide : 0 + 0 ≤ _), (by decide : 0 + 0 ≤ _)⟩)
  dsimp only [Pt.U, Pt.locs, Pt.cells, Pt.slots] at X4 l4 y4 z4 st4 hQ4
  subst y4 z4
  refine Go.tr st4 ?_
  obtain ⟨rfl, N4q, e4⟩ := hQ4
  have N4 : Fr n0 L4 := by rw [l4]; exact Fr.app N0 N4q
  show Go _ _ _ _ (T4.setTop (mkF m 14 #[lR p0, lR p1] [(.int 0), (.int 0)]))
  refine Go.st (fun _ => XS.icmpYes X4.here hx rfl (pc0 := 14) (pc' := 21) rfl (hb hby od12_14) rfl (teq (by decide)).1 (by decide) (by decide)) ?_
  show Go _ _ _ _ (T4.setTop (mkF m 21 #[lR p0, lR p1] []))
  obtain ⟨fs, hr, hrun, hended, hW, hsame⟩ := X4.leave (v := none) (fun _ => rfl)
  refine ⟨_, ?_, hPend _ _ hrun hended ⟨_, _, rfl, ?_, ⟨_, rfl⟩, hW, hsame.mono (by decide) (by decide)⟩⟩
  · exact X4.returnOut hx Bd.returns (hb hby od12_21) hr
  · show Q_rm_infl Z _ _ _ h0 n0 _ T4.heap _
    rw [e4]
    exact ⟨rfl, N4, rfl⟩
theorem own_ef_rm_getb (m : MethodId) (x0 : Addr) (x1 : Addr) (x2 : Int32) (x3 : Int32) : entryFrame m #[(.ref x0), (.ref x1), (.int x2), (.int x3)] 4 = mkF m 0 #[.val (.ref x0), .val (.ref x1), .val (.int x2), .val (.int x3)] [] := by first | (simp [entryFrame, mkF, argsToLocals, Value.category]; done) | rfl
theorem od13_0 : decode jdk_42_method_147_code 0 = .ok (.aload_n 0, 1) := by decide +kernel
theorem od13_1 : decode jdk_42_method_147_code 1 = .ok (.invokevirtual 335, 3) := by decide +kernel
theorem od13_4 : decode jdk_42_method_147_code 4 = .ok (.iload_n 3, 1) := by decide +kernel
theorem od13_5 : decode jdk_42_method_147_code 5 = .ok (.if_icmp .ne 23, 3) := by decide +kernel
theorem od13_8 : decode jdk_42_method_147_code 8 = .ok (.aload_n 0, 1) := by decide +kernel
theorem od13_9 : decode jdk_42_method_147_code 9 = .ok (.getfield 9, 3) := by decide +kernel
theorem od13_12 : decode jdk_42_method_147_code 12 = .ok (.iconst 0, 1) := by decide +kernel
theorem od13_13 : decode jdk_42_method_147_code 13 = .ok (.aload_n 1, 1) := by decide +kernel
theorem od13_14 : decode jdk_42_method_147_code 14 = .ok (.iload_n 2, 1) := by decide +kernel
theorem od13_15 : decode jdk_42_method_147_code 15 = .ok (.iload_n 3, 1) := by decide +kernel
theorem od13_16 : decode jdk_42_method_147_code 16 = .ok (.ishl, 1) := by decide +kernel
theorem od13_17 : decode jdk_42_method_147_code 17 = .ok (.aload_n 0, 1) := by decide +kernel
theorem od13_18 : decode jdk_42_method_147_code 18 = .ok (.getfield 9, 3) := by decide +kernel
theorem od13_21 : decode jdk_42_method_147_code 21 = .ok (.arraylength, 1) := by decide +kernel
theorem od13_22 : decode jdk_42_method_147_code 22 = .ok (.invokestatic 212, 3) := by decide +kernel
theorem od13_25 : decode jdk_42_method_147_code 25 = .ok (.goto 18, 3) := by decide +kernel
theorem od13_43 : decode jdk_42_method_147_code 43 = .ok (.return_, 1) := by decide +kernel
def Q_rm_getb (Z : State) (g_CS : Int32) (p0 : Addr) (p1 : Addr) (p2 : Int32) (pcs : List Int32) (qcs : List Int32) (qv : Addr) (qk : ClassId) (ka : ClassId) (za : Int32) (h0 : Heap) (n0 : Nat) (v : Option Value) (h : Heap) (L : List Loc) : Prop := v = none ∧ Fr n0 L ∧ Keep h0 h [p1] ∧ Arv Z h p1 ka .byte za (((pcs ++ qcs).map StrChars.lo8).map Value.int) (.int 0)
set_option maxRecDepth 65536 in
set_option maxHeartbeats 40000000 in
theorem rm_getb (l : Launch) (Z : State) (a0 : Array Value) (hw : ∀ d ∈ tables_1, d.before a0 Z = true) (ws : List Jvm.Cond) (g_CS : Int32) (S_CS : Sta Z Z.heap "java/lang/String" "COMPACT_STRINGS" "Z" (.int g_CS)) (nz_CS : ¬ (g_CS = (0 : Int32))) (p0 : Addr) (p1 : Addr) (p2 : Int32) (pcs : List Int32) (qcs : List Int32) (qv : Addr) (qk : ClassId) (ka : ClassId) (za : Int32) (h0 : Heap) (n0 : Nat) (X00 : Old Z n0 h0) (hp0 : Exa Z h0 p0 "java/lang/String") (hp1 : Fld Z h0 p0 "java/lang/String" "coder" "B" (.int 0)) (hp2 : Fld Z h0 p0 "java/lang/String" "value" "[B" (.ref qv)) (hp3 : Arv Z h0 qv qk .byte (Int32.ofNat qcs.length) ((qcs.map StrChars.lo8).map Value.int) (.int 0)) (hpcq : ∀ c ∈ qcs, ¬ c < 0 ∧ ¬ (255 : Int32) < c) (hleq : qcs.length ≤ 4000) (hp6 : Exa Z h0 p1 "[B") (hp7 : Arv Z h0 p1 ka .byte za ((pcs.map StrChars.lo8).map Value.int) (.int 0)) (hp8 : n0 ≤ p1) (hidx : p2 = Int32.ofNat pcs.length) (hcap : (pcs ++ qcs).length ≤ za.toNatClampNeg) :
    MetFree l (⟨"java/lang/String", "getBytes", "([BIB)V"⟩ : MethodName) (head1 (Jvm.Cond.code (⟨"java/lang/String", "getBytes", "([BIB)V"⟩ : MethodName) jdk_42_method_147_code 4 none :: ws) ({ frames := 1, cells := 0, slots := 0, locals := 18 } : Room)) (fun a U => a = #[(.ref p0), (.ref p1), (.int p2), (.int 0)] ∧ Z.Warmed39 U.vm ∧ U.heap = h0) (fun _ _ _ _ _ => True) (fun _ U o U' => ∃ v L, o = .returned v ∧ Q_rm_getb Z g_CS p0 p1 p2 pcs qcs qv qk ka za h0 n0 v U'.heap L ∧ FrameEnd U o U' L ({ frames := 1, cells := 0, slots := 0, locals := 18 } : Room).cells ({ frames := 1, cells := 0, slots := 0, locals := 18 } : Room).slots) := by
  refine MetFree.of_bodySF (plainFor_of_name own_pn0) hisR ?_
  intro p e s m args below meth c s₁ Bd hml0 hP hK
  obtain ⟨rfl, hZ, hh⟩ := hP
  have hx := Bd.exec
  have hby := Bd.bytes
  have hml : c.maxLocals = 4 := hml0
  have hown : s.vm.findClass "java/lang/String" = some m.cls := findClass_of_methodNamed Bd.named
  have hnm := (name_of_methodNamed Bd.named Bd.method).1
  have X0 : Stand p l e ({ frames := 1, cells := 0, slots := 0, locals := 18 } : Room) s m #[(.ref p0), (.ref p1), (.int p2), (.int 0)] below meth c s₁ [] 0 0 := Stand.of_body Bd
  have e0 : s₁.heap = h0 := by rw [← hh, Bd.state]; rfl
  have N0 := Fr.nil n0
  refine Go.start fun P hPend => ?_
  refine Go.st (fun _ k => castTop (own_ef_rm_getb m p0 p1 p2 ((0 : Int32))) k) ?_
  show Go _ _ _ _ (s₁.setTop (mkF m 0 #[lR p0, lR p1, lI p2, lI (0 : Int32)] []))
  refine Go.st (fun _ => XS.aloadN X0.here hx rfl (hb hby od13_0) rfl rfl) ?_
  show Go _ _ _ _ (s₁.setTop (mkF m 1 #[lR p0, lR p1, lI p2, lI (0 : Int32)] [(.ref p0)]))
  obtain ⟨cq1, kq1, q1a, q1b, q1c⟩ := isOf hZ e0 hp0
  obtain ⟨_, _, ⟨T1, L1, k1, n1⟩, -, X1, ⟨Lc1, hQ1, l1, y1, z1⟩, st1⟩ := X0.virtualBack hx (y := (⟨"java/lang/String", "coder", "()B"⟩ : MethodName)) (z := (⟨"java/lang/String", "coder", "()B"⟩ : MethodName)) hown (mvT hZ (ow hw 88 rfl)) (mvT hZ (ow hw 89 rfl)) (notFace_of_selects (args := #[]) (mvT hZ (ow hw 91 rfl))) (mvT hZ (ow hw 91 rfl)) (mvT hZ (ow hw 90 rfl)) (by decide) (backOf (W := 0) (rm_coder l Z a0 hw [] g_CS S_CS nz_CS p0 h0 n0 X00 hp1) hZ (ow hw 92 rfl) (ow hw 2 rfl) (by decide) (by decide)) q1a q1c (g := (mkF m 1 #[lR p0, lR p1, lI p2, lI (0 : Int32)] [(.ref p0)])) rfl (by rw [hml]; rfl) (Steps.refl _) (argsL := []) (rest := []) (lenOf own_pd5 rfl) rfl (by show 2 * 0 + _ ≤ _; exact Nat.le_of_eq rfl) (hb hby od13_1) (fun _ _ => ⟨rfl, e0, (by decide : 0 + 0 ≤ _), (by decide : 0 + 0 ≤ _)⟩)
  dsimp only [Pt.U, Pt.locs, Pt.cells, Pt.slots] at X1 l1 y1 z1 st1 hQ1
  subst y1 z1
  refine Go.tr st1 ?_
  obtain ⟨rfl, N1q, e1⟩ := hQ1
  have N1 : Fr n0 L1 := by rw [l1]; exact Fr.app N0 N1q
  show Go _ _ _ _ (T1.setTop (mkF m 4 #[lR p0, lR p1, lI p2, lI (0 : Int32)] [(.int 0)]))
  refine Go.st (fun _ => XS.iloadN X1.here hx rfl (hb hby od13_4) rfl) ?_
  show Go _ _ _ _ (T1.setTop (mkF m 5 #[lR p0, lR p1, lI p2, lI (0 : Int32)] [(.int 0), (.int 0)]))
  refine Go.st (fun _ => XS.icmpNo X1.here hx rfl (hb hby od13_5) rfl (teq (by decide)).2) ?_
  show Go _ _ _ _ (T1.setTop (mkF m 8 #[lR p0, lR p1, lI p2, lI (0 : Int32)] []))
  refine Go.st (fun _ => XS.aloadN X1.here hx rfl (hb hby od13_8) rfl rfl) ?_
  show Go _ _ _ _ (T1.setTop (mkF m 9 #[lR p0, lR p1, lI p2, lI (0 : Int32)] [(.ref p0)]))
  obtain ⟨T2, X2, e2, st2⟩ := getF X1 hx hZ hown (host := "") (Or.inl (ow hw 22 rfl)) Via.refl e1 hp2 (g := (mkF m 9 #[lR p0, lR p1, lI p2, lI (0 : Int32)] [(.ref p0)])) rfl rfl (hb hby od13_9)
  refine Go.st st2 ?_
  show Go _ _ _ _ (T2.setTop (mkF m 12 #[lR p0, lR p1, lI p2, lI (0 : Int32)] [(.ref qv)]))
  refine Go.st (fun _ => XS.iconst X2.here hx rfl (hb hby od13_12)) ?_
  refine Go.st (fun _ => XS.aloadN X2.here hx rfl (hb hby od13_13) rfl rfl) ?_
  refine Go.st (fun _ => XS.iloadN X2.here hx rfl (hb hby od13_14) rfl) ?_
  refine Go.st (fun _ => XS.iloadN X2.here hx rfl (hb hby od13_15) rfl) ?_
  show Go _ _ _ _ (T2.setTop (mkF m 16 #[lR p0, lR p1, lI p2, lI (0 : Int32)] [(.int 0), (.int p2), (.ref p1), (.int 0), (.ref qv)]))
  refine Go.st (fun _ => XS.ishl X2.here hx rfl (hb hby od13_16) rfl) ?_
  show Go _ _ _ _ (T2.setTop (mkF m 17 #[lR p0, lR p1, lI p2, lI (0 : Int32)] [(.int (p2 <<< ((0 : Int32) &&& 31))), (.ref p1), (.int 0), (.ref qv)]))
  rw [show (p2 <<< ((0 : Int32) &&& 31)) = p2 from own_ishl0 _]
  show Go _ _ _ _ (T2.setTop (mkF m 17 #[lR p0, lR p1, lI p2, lI (0 : Int32)] [(.int p2), (.ref p1), (.int 0), (.ref qv)]))
  refine Go.st (fun _ => XS.aloadN X2.here hx rfl (hb hby od13_17) rfl rfl) ?_
  show Go _ _ _ _ (T2.setTop (mkF m 18 #[lR p0, lR p1, lI p2, lI (0 : Int32)] [(.ref p0), (.int p2), (.ref p1), (.int 0), (.ref qv)]))
  obtain ⟨T3, X3, e3, st3⟩ := getF X2 hx hZ hown (host := "") (Or.inl (ow hw 22 rfl)) Via.refl e2 hp2 (g := (mkF m 18 #[lR p0, lR p1, lI p2, lI (0 : Int32)] [(.ref p0), (.int p2), (.ref p1), (.int 0), (.ref qv)])) rfl rfl (hb hby od13_18)
  refine Go.st st3 ?_
  show Go _ _ _ _ (T3.setTop (mkF m 21 #[lR p0, lR p1, lI p2, lI (0 : Int32)] [(.ref qv), (.int p2), (.ref p1), (.int 0), (.ref qv)]))
  refine Go.st (fun _ => own_len X3 hx hZ e3 hp3 (g := (mkF m 21 #[lR p0, lR p1, lI p2, lI (0 : Int32)] [(.ref qv), (.int p2), (.ref p1), (.int 0), (.ref qv)])) rfl rfl (hb hby od13_21) _) ?_
  show Go _ _ _ _ (T3.setTop (mkF m 22 #[lR p0, lR p1, lI p2, lI (0 : Int32)] [(.int (Int32.ofNat qcs.length)), (.int p2), (.ref p1), (.int 0), (.ref qv)]))
  obtain ⟨T4, L4, X4, N4d, K4q, A4, st4⟩ := own_acopy X3 hx hZ e3 hown (mvT hZ (ow hw 116 rfl)) (mvT hZ (ow hw 119 rfl)) (mvT hZ (ow hw 117 rfl)) (mvT hZ (ow hw 118 rfl)) hp3 hp7 (o := 0) (q := pcs.length) (n := qcs.length) (ws := (((pcs ++ qcs).map StrChars.lo8).map Value.int)) (by rw [own_clamp (by omega)]; omega) (by rw [← List.length_append]; exact hcap) (fun i _ => own_appws pcs qcs i) (g := (mkF m 22 #[lR p0, lR p1, lI p2, lI (0 : Int32)] [(.int (Int32.ofNat qcs.length)), (.int p2), (.ref p1), (.int 0), (.ref qv)])) rfl (by rw [hml]; rfl) rfl hidx rfl rfl (hb hby od13_22) (by decide) (by show 2 * 0 + 0 + (nativeFrameWords "java/lang/System" "arraycopy" 5 + 11) ≤ _; decide)
  refine Go.st st4 ?_
  have N4 := Fr.app N1 (N4d _ hp8)
  have O4 := X00.keep K4q (allS hp8 all0)
  have K4 : Keep h0 T4.heap [p1] := (Keep.refl h0 [p1]).trans K4q (allS (Or.inl (List.mem_of_getElem? (i := 0) rfl)) all0)
  show Go _ _ _ _ (T4.setTop (mkF m 25 #[lR p0, lR p1, lI p2, lI (0 : Int32)] []))
  refine Go.st (fun _ => XS.goto X4.here hx rfl (pc0 := 25) (pc' := 43) rfl (hb hby od13_25) (by decide) (by decide)) ?_
  show Go _ _ _ _ (T4.setTop (mkF m 43 #[lR p0, lR p1, lI p2, lI (0 : Int32)] []))
  obtain ⟨fs, hr, hrun, hended, hW, hsame⟩ := X4.leave (v := none) (fun _ => rfl)
  refine ⟨_, ?_, hPend _ _ hrun hended ⟨_, _, rfl, ?_, ⟨_, rfl⟩, hW, hsame.mono (by decide) (by decide)⟩⟩
  · exact X4.returnOut hx Bd.returns (hb hby od13_43) hr
  · show Q_rm_getb Z _ _ _ _ _ _ _ _ _ _ h0 n0 _ T4.heap _
    exact ⟨rfl, N4, K4, A4⟩
theorem own_ef_rm_puts (m : MethodId) (x0 : Addr) (x1 : Int32) (x2 : Addr) : entryFrame m #[(.ref x0), (.int x1), (.ref x2)] 3 = mkF m 0 #[.val (.ref x0), .val (.int x1), .val (.ref x2)] [] := by first | (simp [entryFrame, mkF, argsToLocals, Value.category]; done) | rfl
theorem od14_0 : decode jdk_68_method_73_code 0 = .ok (.aload_n 0, 1) := by decide +kernel
theorem od14_1 : decode jdk_68_method_73_code 1 = .ok (.aload_n 2, 1) := by decide +kernel
theorem od14_2 : decode jdk_68_method_73_code 2 = .ok (.invokevirtual 397, 3) := by decide +kernel
theorem own_pd6 : parseMethodDescriptor "(Ljava/lang/String;)V" = some ⟨[(.object "java/lang/String")], none⟩ := by decide +kernel
theorem od14_5 : decode jdk_68_method_73_code 5 = .ok (.aload_n 2, 1) := by decide +kernel
theorem od14_6 : decode jdk_68_method_73_code 6 = .ok (.aload_n 0, 1) := by decide +kernel
theorem od14_7 : decode jdk_68_method_73_code 7 = .ok (.getfield 15, 3) := by decide +kernel
theorem od14_10 : decode jdk_68_method_73_code 10 = .ok (.iload_n 1, 1) := by decide +kernel
theorem od14_11 : decode jdk_68_method_73_code 11 = .ok (.aload_n 0, 1) := by decide +kernel
theorem od14_12 : decode jdk_68_method_73_code 12 = .ok (.getfield 22, 3) := by decide +kernel
theorem od14_15 : decode jdk_68_method_73_code 15 = .ok (.invokevirtual 399, 3) := by decide +kernel
theorem own_pd7 : parseMethodDescriptor "([BIB)V" = some ⟨[(.array .byte), .int, .byte], none⟩ := by decide +kernel
theorem od14_18 : decode jdk_68_method_73_code 18 = .ok (.return_, 1) := by decide +kernel
def Q_rm_puts (Z : State) (g_CS : Int32) (p0 : Addr) (p1 : Int32) (p2 : Addr) (pcs : List Int32) (arr : Addr) (ka : ClassId) (za : Int32) (qcs : List Int32) (qv : Addr) (qk : ClassId) (h0 : Heap) (n0 : Nat) (v : Option Value) (h : Heap) (L : List Loc) : Prop := v = none ∧ Fr n0 L ∧ Keep h0 h [arr] ∧ Arv Z h arr ka .byte za (((pcs ++ qcs).map StrChars.lo8).map Value.int) (.int 0)
set_option maxRecDepth 65536 in
set_option maxHeartbeats 40000000 in
theorem rm_puts (l : Launch) (Z : State) (a0 : Array Value) (hw : ∀ d ∈ tables_1, d.before a0 Z = true) (ws : List Jvm.Cond) (g_CS : Int32) (S_CS : Sta Z Z.heap "java/lang/String" "COMPACT_STRINGS" "Z" (.int g_CS)) (nz_CS : ¬ (g_CS = (0 : Int32))) (p0 : Addr) (p1 : Int32) (p2 : Addr) (pcs : List Int32) (arr : Addr) (ka : ClassId) (za : Int32) (qcs : List Int32) (qv : Addr) (qk : ClassId) (h0 : Heap) (n0 : Nat) (X00 : Old Z n0 h0) (hp0 : Exa Z h0 p0 "java/lang/StringBuilder") (hp1 : Fld Z h0 p0 "java/lang/AbstractStringBuilder" "value" "[B" (.ref arr)) (hp2 : Fld Z h0 p0 "java/lang/AbstractStringBuilder" "coder" "B" (.int 0)) (hp3 : Exa Z h0 arr "[B") (hp4 : Arv Z h0 arr ka .byte za ((pcs.map StrChars.lo8).map Value.int) (.int 0)) (hp5 : n0 ≤ arr) (hp6 : Exa Z h0 p2 "java/lang/String") (hp7 : Fld Z h0 p2 "java/lang/String" "coder" "B" (.int 0)) (hp8 : Fld Z h0 p2 "java/lang/String" "value" "[B" (.ref qv)) (hp9 : Arv Z h0 qv qk .byte (Int32.ofNat qcs.length) ((qcs.map StrChars.lo8).map Value.int) (.int 0)) (hpcq : ∀ c ∈ qcs, ¬ c < 0 ∧ ¬ (255 : Int32) < c) (hleq : qcs.length ≤ 4000) (hidx : p1 = Int32.ofNat pcs.length) (hcap : (pcs ++ qcs).length ≤ za.toNatClampNeg) :
    MetFree l (⟨"java/lang/AbstractStringBuilder", "putStringAt", "(ILjava/lang/String;)V"⟩ : MethodName) (head1 (Jvm.Cond.code (⟨"java/lang/AbstractStringBuilder", "putStringAt", "(ILjava/lang/String;)V"⟩ : MethodName) jdk_68_method_73_code 3 none :: ws) ({ frames := 2, cells := 0, slots := 0, locals := 33 } : Room)) (fun a U => a = #[(.ref p0), (.int p1), (.ref p2)] ∧ Z.Warmed39 U.vm ∧ U.heap = h0) (fun _ _ _ _ _ => True) (fun _ U o U' => ∃ v L, o = .returned v ∧ Q_rm_puts Z g_CS p0 p1 p2 pcs arr ka za qcs qv qk h0 n0 v U'.heap L ∧ FrameEnd U o U' L ({ frames := 2, cells := 0, slots := 0, locals := 33 } : Room).cells ({ frames := 2, cells := 0, slots := 0, locals := 33 } : Room).slots) := by
  refine MetFree.of_bodySF (plainFor_of_name own_pn4) hisR ?_
  intro p e s m args below meth c s₁ Bd hml0 hP hK
  obtain ⟨rfl, hZ, hh⟩ := hP
  have hx := Bd.exec
  have hby := Bd.bytes
  have hml : c.maxLocals = 3 := hml0
  have hown : s.vm.findClass "java/lang/AbstractStringBuilder" = some m.cls := findClass_of_methodNamed Bd.named
  have hnm := (name_of_methodNamed Bd.named Bd.method).1
  have X0 : Stand p l e ({ frames := 2, cells := 0, slots := 0, locals := 33 } : Room) s m #[(.ref p0), (.int p1), (.ref p2)] below meth c s₁ [] 0 0 := Stand.of_body Bd
  have e0 : s₁.heap = h0 := by rw [← hh, Bd.state]; rfl
  have N0 := Fr.nil n0
  refine Go.start fun P hPend => ?_
  refine Go.st (fun _ k => castTop (own_ef_rm_puts m p0 p1 p2) k) ?_
  show Go _ _ _ _ (s₁.setTop (mkF m 0 #[lR p0, lI p1, lR p2] []))
  refine Go.st (fun _ => XS.aloadN X0.here hx rfl (hb hby od14_0) rfl rfl) ?_
  refine Go.st (fun _ => XS.aloadN X0.here hx rfl (hb hby od14_1) rfl rfl) ?_
  show Go _ _ _ _ (s₁.setTop (mkF m 2 #[lR p0, lI p1, lR p2] [(.ref p2), (.ref p0)]))
  obtain ⟨cq1, kq1, q1a, q1b, q1c⟩ := isOf hZ e0 hp0
  obtain ⟨_, _, ⟨T1, L1, k1, n1⟩, -, X1, ⟨Lc1, hQ1, l1, y1, z1⟩, st1⟩ := X0.virtualBack hx (y := (⟨"java/lang/AbstractStringBuilder", "inflateIfNeededFor", "(Ljava/lang/String;)V"⟩ : MethodName)) (z := (⟨"java/lang/AbstractStringBuilder", "inflateIfNeededFor", "(Ljava/lang/String;)V"⟩ : MethodName)) hown (mvT hZ (ow hw 105 rfl)) (mvT hZ (own_declares (ow hw 106 rfl) (ow hw 109 rfl))) (notFace_of_selects (args := #[]) (mvT hZ (ow hw 108 rfl))) (mvT hZ (ow hw 108 rfl)) (mvT hZ (ow hw 106 rfl)) (by decide) (backOf (W := 0) (rm_infl l Z a0 hw [] g_CS S_CS nz_CS p0 p2 h0 n0 X00 hp2 hp6 hp7) hZ (ow hw 109 rfl) (ow hw 64 rfl) (by decide) (by decide)) q1a q1c (g := (mkF m 2 #[lR p0, lI p1, lR p2] [(.ref p2), (.ref p0)])) rfl (by rw [hml]; rfl) (Steps.refl _) (argsL := [(.ref p2)]) (rest := []) (lenOf own_pd6 rfl) rfl (by show 2 * 0 + _ ≤ _; exact Nat.le_of_eq rfl) (hb hby od14_2) (fun _ _ => ⟨rfl, e0, (by decide : 0 + 0 ≤ _), (by decide : 0 + 0 ≤ _)⟩)
  dsimp only [Pt.U, Pt.locs, Pt.cells, Pt.slots] at X1 l1 y1 z1 st1 hQ1
  subst y1 z1
  refine Go.tr st1 ?_
  obtain ⟨rfl, N1q, e1⟩ := hQ1
  have N1 : Fr n0 L1 := by rw [l1]; exact Fr.app N0 N1q
  show Go _ _ _ _ (T1.setTop (mkF m 5 #[lR p0, lI p1, lR p2] []))
  refine Go.st (fun _ => XS.aloadN X1.here hx rfl (hb hby od14_5) rfl rfl) ?_
  refine Go.st (fun _ => XS.aloadN X1.here hx rfl (hb hby od14_6) rfl rfl) ?_
  show Go _ _ _ _ (T1.setTop (mkF m 7 #[lR p0, lI p1, lR p2] [(.ref p0), (.ref p2)]))
  obtain ⟨T2, X2, e2, st2⟩ := getF X1 hx hZ hown (host := "") (Or.inl (ow hw 68 rfl)) Via.refl e1 hp1 (g := (mkF m 7 #[lR p0, lI p1, lR p2] [(.ref p0), (.ref p2)])) rfl rfl (hb hby od14_7)
  refine Go.st st2 ?_
  show Go _ _ _ _ (T2.setTop (mkF m 10 #[lR p0, lI p1, lR p2] [(.ref arr), (.ref p2)]))
  refine Go.st (fun _ => XS.iloadN X2.here hx rfl (hb hby od14_10) rfl) ?_
  refine Go.st (fun _ => XS.aloadN X2.here hx rfl (hb hby od14_11) rfl rfl) ?_
  show Go _ _ _ _ (T2.setTop (mkF m 12 #[lR p0, lI p1, lR p2] [(.ref p0), (.int p1), (.ref arr), (.ref p2)]))
  obtain ⟨T3, X3, e3, st3⟩ := getF X2 hx hZ hown (host := "") (Or.inl (ow hw 70 rfl)) Via.refl e2 hp2 (g := (mkF m 12 #[lR p0, lI p1, lR p2] [(.ref p0), (.int p1), (.ref arr), (.ref p2)])) rfl rfl (hb hby od14_12)
  refine Go.st st3 ?_
  show Go _ _ _ _ (T3.setTop (mkF m 15 #[lR p0, lI p1, lR p2] [(.int 0), (.int p1), (.ref arr), (.ref p2)]))
  obtain ⟨cq4, kq4, q4a, q4b, q4c⟩ := isOf hZ e3 hp6
  obtain ⟨_, _, ⟨T4, L4, k4, n4⟩, -, X4, ⟨Lc4, hQ4, l4, y4, z4⟩, st4⟩ := X3.virtualBack hx (y := (⟨"java/lang/String", "getBytes", "([BIB)V"⟩ : MethodName)) (z := (⟨"java/lang/String", "getBytes", "([BIB)V"⟩ : MethodName)) hown (mvT hZ (ow hw 111 rfl)) (mvT hZ (ow hw 112 rfl)) (notFace_of_selects (args := #[]) (mvT hZ (ow hw 114 rfl))) (mvT hZ (ow hw 114 rfl)) (mvT hZ (ow hw 113 rfl)) (by decide) (backOf (W := 0) (rm_getb l Z a0 hw [] g_CS S_CS nz_CS p2 arr p1 pcs qcs qv qk ka za h0 n0 X00 hp6 hp7 hp8 hp9 hpcq hleq hp3 hp4 hp5 hidx hcap) hZ (ow hw 115 rfl) (ow hw 2 rfl) (by decide) (by decide)) q4a q4c (g := (mkF m 15 #[lR p0, lI p1, lR p2] [(.int 0), (.int p1), (.ref arr), (.ref p2)])) rfl (by rw [hml]; rfl) (Steps.refl _) (argsL := [(.ref arr), (.int p1), (.int 0)]) (rest := []) (lenOf own_pd7 rfl) rfl (by show 2 * 0 + _ ≤ _; exact Nat.le_of_eq rfl) (hb hby od14_15) (fun _ _ => ⟨rfl, e3, (by decide : 0 + 0 ≤ _), (by decide : 0 + 0 ≤ _)⟩)
  dsimp only [Pt.U, Pt.locs, Pt.cells, Pt.slots] at X4 l4 y4 z4 st4 hQ4
  subst y4 z4
  refine Go.tr st4 ?_
  obtain ⟨rfl, N4q, K4q, q4_0⟩ := hQ4
  have N4 : Fr n0 L4 := by rw [l4]; exact Fr.app N1 N4q
  have O4 := X00.keep K4q (allS hp5 all0)
  have K4 : Keep h0 T4.heap [arr] := (Keep.refl h0 [arr]).trans K4q (allS (Or.inl (List.mem_of_getElem? (i := 0) rfl)) all0)
  show Go _ _ _ _ (T4.setTop (mkF m 18 #[lR p0, lI p1, lR p2] []))
  obtain ⟨fs, hr, hrun, hended, hW, hsame⟩ := X4.leave (v := none) (fun _ => rfl)
  refine ⟨_, ?_, hPend _ _ hrun hended ⟨_, _, rfl, ?_, ⟨_, rfl⟩, hW, hsame.mono (by decide) (by decide)⟩⟩
  · exact X4.returnOut hx Bd.returns (hb hby od14_18) hr
  · show Q_rm_puts Z _ _ _ _ _ _ _ _ _ _ _ h0 n0 _ T4.heap _
    exact ⟨rfl, N4, K4, q4_0⟩
theorem own_ef_rm_appr (m : MethodId) (x0 : Addr) (x1 : Addr) : entryFrame m #[(.ref x0), (.ref x1)] 3 = mkF m 0 #[.val (.ref x0), .val (.ref x1), .unset] [] := by first | (simp [entryFrame, mkF, argsToLocals, Value.category]; done) | rfl
theorem od15_0 : decode jdk_68_method_22_code 0 = .ok (.aload_n 1, 1) := by decide +kernel
theorem od15_1 : decode jdk_68_method_22_code 1 = .ok (.ifnonnull 8, 3) := by decide +kernel
theorem od15_9 : decode jdk_68_method_22_code 9 = .ok (.aload_n 1, 1) := by decide +kernel
theorem od15_10 : decode jdk_68_method_22_code 10 = .ok (.invokevirtual 32, 3) := by decide +kernel
theorem own_pd8 : parseMethodDescriptor "()I" = some ⟨[], some .int⟩ := by decide +kernel
theorem od15_13 : decode jdk_68_method_22_code 13 = .ok (.istore_n 2, 1) := by decide +kernel
theorem od15_14 : decode jdk_68_method_22_code 14 = .ok (.aload_n 0, 1) := by decide +kernel
theorem od15_15 : decode jdk_68_method_22_code 15 = .ok (.aload_n 0, 1) := by decide +kernel
theorem od15_16 : decode jdk_68_method_22_code 16 = .ok (.getfield 79, 3) := by decide +kernel
theorem od15_19 : decode jdk_68_method_22_code 19 = .ok (.iload_n 2, 1) := by decide +kernel
theorem od15_20 : decode jdk_68_method_22_code 20 = .ok (.iadd, 1) := by decide +kernel
theorem od15_21 : decode jdk_68_method_22_code 21 = .ok (.invokevirtual 100, 3) := by decide +kernel
theorem od15_24 : decode jdk_68_method_22_code 24 = .ok (.aload_n 0, 1) := by decide +kernel
theorem od15_25 : decode jdk_68_method_22_code 25 = .ok (.aload_n 0, 1) := by decide +kernel
theorem od15_26 : decode jdk_68_method_22_code 26 = .ok (.getfield 79, 3) := by decide +kernel
theorem od15_29 : decode jdk_68_method_22_code 29 = .ok (.aload_n 1, 1) := by decide +kernel
theorem od15_30 : decode jdk_68_method_22_code 30 = .ok (.invokevirtual 208, 3) := by decide +kernel
theorem own_pd9 : parseMethodDescriptor "(ILjava/lang/String;)V" = some ⟨[.int, (.object "java/lang/String")], none⟩ := by decide +kernel
theorem od15_33 : decode jdk_68_method_22_code 33 = .ok (.aload_n 0, 1) := by decide +kernel
theorem od15_34 : decode jdk_68_method_22_code 34 = .ok (.dup, 1) := by decide +kernel
theorem od15_35 : decode jdk_68_method_22_code 35 = .ok (.getfield 79, 3) := by decide +kernel
theorem od15_38 : decode jdk_68_method_22_code 38 = .ok (.iload_n 2, 1) := by decide +kernel
theorem od15_39 : decode jdk_68_method_22_code 39 = .ok (.iadd, 1) := by decide +kernel
theorem od15_40 : decode jdk_68_method_22_code 40 = .ok (.putfield 79, 3) := by decide +kernel
theorem od15_43 : decode jdk_68_method_22_code 43 = .ok (.aload_n 0, 1) := by decide +kernel
theorem od15_44 : decode jdk_68_method_22_code 44 = .ok (.areturn, 1) := by decide +kernel
def Q_rm_appr (Z : State) (g_CS : Int32) (p0 : Addr) (p1 : Addr) (pcs : List Int32) (arr : Addr) (ka : ClassId) (za : Int32) (qcs : List Int32) (qv : Addr) (qk : ClassId) (h0 : Heap) (n0 : Nat) (v : Option Value) (h : Heap) (L : List Loc) : Prop := v = some (.ref p0) ∧ Fr n0 L ∧ Keep h0 h [p0, arr] ∧ Exa Z h p0 "java/lang/StringBuilder" ∧ Fld Z h p0 "java/lang/AbstractStringBuilder" "value" "[B" (.ref arr) ∧ Fld Z h p0 "java/lang/AbstractStringBuilder" "coder" "B" (.int 0) ∧ Fld Z h p0 "java/lang/AbstractStringBuilder" "count" "I" (.int (Int32.ofNat (pcs ++ qcs).length)) ∧ Exa Z h arr "[B" ∧ Arv Z h arr ka .byte za (((pcs ++ qcs).map StrChars.lo8).map Value.int) (.int 0)
set_option maxRecDepth 65536 in
set_option maxHeartbeats 40000000 in
theorem rm_appr (l : Launch) (Z : State) (a0 : Array Value) (hw : ∀ d ∈ tables_1, d.before a0 Z = true) (ws : List Jvm.Cond) (g_CS : Int32) (S_CS : Sta Z Z.heap "java/lang/String" "COMPACT_STRINGS" "Z" (.int g_CS)) (nz_CS : ¬ (g_CS = (0 : Int32))) (p0 : Addr) (p1 : Addr) (pcs : List Int32) (arr : Addr) (ka : ClassId) (za : Int32) (qcs : List Int32) (qv : Addr) (qk : ClassId) (h0 : Heap) (n0 : Nat) (X00 : Old Z n0 h0) (hp0 : Exa Z h0 p0 "java/lang/StringBuilder") (hp1 : Fld Z h0 p0 "java/lang/AbstractStringBuilder" "value" "[B" (.ref arr)) (hp2 : Fld Z h0 p0 "java/lang/AbstractStringBuilder" "coder" "B" (.int 0)) (hp3 : Fld Z h0 p0 "java/lang/AbstractStringBuilder" "count" "I" (.int (Int32.ofNat pcs.length))) (hp4 : Exa Z h0 arr "[B") (hp5 : Arv Z h0 arr ka .byte za ((pcs.map StrChars.lo8).map Value.int) (.int 0)) (hp6 : n0 ≤ p0) (hp7 : n0 ≤ arr) (hp8 : Exa Z h0 p1 "java/lang/String") (hp9 : Fld Z h0 p1 "java/lang/String" "coder" "B" (.int 0)) (hp10 : Fld Z h0 p1 "java/lang/String" "value" "[B" (.ref qv)) (hp11 : Arv Z h0 qv qk .byte (Int32.ofNat qcs.length) ((qcs.map StrChars.lo8).map Value.int) (.int 0)) (hpcq : ∀ c ∈ qcs, ¬ c < 0 ∧ ¬ (255 : Int32) < c) (hleq : qcs.length ≤ 4000) (hcap : (pcs ++ qcs).length ≤ za.toNatClampNeg) :
    MetFree l (⟨"java/lang/AbstractStringBuilder", "append", "(Ljava/lang/String;)Ljava/lang/AbstractStringBuilder;"⟩ : MethodName) (head1 (Jvm.Cond.code (⟨"java/lang/AbstractStringBuilder", "append", "(Ljava/lang/String;)Ljava/lang/AbstractStringBuilder;"⟩ : MethodName) jdk_68_method_22_code 3 (some (.object "java/lang/AbstractStringBuilder")) :: ws) ({ frames := 3, cells := 0, slots := 0, locals := 47 } : Room)) (fun a U => a = #[(.ref p0), (.ref p1)] ∧ Z.Warmed39 U.vm ∧ U.heap = h0) (fun _ _ _ _ _ => True) (fun _ U o U' => ∃ v L, o = .returned v ∧ Q_rm_appr Z g_CS p0 p1 pcs arr ka za qcs qv qk h0 n0 v U'.heap L ∧ FrameEnd U o U' L ({ frames := 3, cells := 0, slots := 0, locals := 47 } : Room).cells ({ frames := 3, cells := 0, slots := 0, locals := 47 } : Room).slots) := by
  refine MetFree.of_bodySF (plainFor_of_name own_pn4) hisR ?_
  intro p e s m args below meth c s₁ Bd hml0 hP hK
  obtain ⟨rfl, hZ, hh⟩ := hP
  have hx := Bd.exec
  have hby := Bd.bytes
  have hml : c.maxLocals = 3 := hml0
  have hown : s.vm.findClass "java/lang/AbstractStringBuilder" = some m.cls := findClass_of_methodNamed Bd.named
  have hnm := (name_of_methodNamed Bd.named Bd.method).1
  have X0 : Stand p l e ({ frames := 3, cells := 0, slots := 0, locals := 47 } : Room) s m #[(.ref p0), (.ref p1)] below meth c s₁ [] 0 0 := Stand.of_body Bd
  have e0 : s₁.heap = h0 := by rw [← hh, Bd.state]; rfl
  have N0 := Fr.nil n0
  refine Go.start fun P hPend => ?_
  refine Go.st (fun _ k => castTop (own_ef_rm_appr m p0 p1) k) ?_
  show Go _ _ _ _ (s₁.setTop (mkF m 0 #[lR p0, lR p1, lU] []))
  refine Go.st (fun _ => XS.aloadN X0.here hx rfl (hb hby od15_0) rfl rfl) ?_
  show Go _ _ _ _ (s₁.setTop (mkF m 1 #[lR p0, lR p1, lU] [(.ref p1)]))
  refine Go.st (fun _ => XS.ifnonnullYes X0.here hx rfl (pc0 := 1) (pc' := 9) rfl (hb hby od15_1) rfl (by decide) (by decide)) ?_
  show Go _ _ _ _ (s₁.setTop (mkF m 9 #[lR p0, lR p1, lU] []))
  refine Go.st (fun _ => XS.aloadN X0.here hx rfl (hb hby od15_9) rfl rfl) ?_
  show Go _ _ _ _ (s₁.setTop (mkF m 10 #[lR p0, lR p1, lU] [(.ref p1)]))
  have hcd1 : StrChars.Road.CodA qcs 0 (Int32.ofNat qcs.length) ((qcs.map StrChars.lo8).map Value.int) := StrChars.Road.codOf (n := qcs.length) rfl (fun c hc => (hpcq c hc).2)
  obtain ⟨cq1, kq1, q1a, q1b, q1c⟩ := isOf hZ e0 hp8
  obtain ⟨_, _, ⟨T1, L1, k1, n1⟩, -, X1, ⟨Lc1, hQ1, l1, y1, z1⟩, st1⟩ := X0.virtualBack hx (y := (⟨"java/lang/String", "length", "()I"⟩ : MethodName)) (z := (⟨"java/lang/String", "length", "()I"⟩ : MethodName)) hown (mvT hZ (ow hw 83 rfl)) (mvT hZ (ow hw 84 rfl)) (notFace_of_selects (args := #[]) (mvT hZ (ow hw 86 rfl))) (mvT hZ (ow hw 86 rfl)) (mvT hZ (ow hw 85 rfl)) (by decide) (StrChars.Road.lenW (W := 0) hZ (fun d hd => hw d (own_wLen d hd)) (kI := 4) (ow hw 10 rfl) hp8 hp10 hp9 hp11 hcd1 (own_up _ hpcq) (S_CS.ext X00.2) nz_CS hleq (by decide) (by decide)) q1a q1c (g := (mkF m 10 #[lR p0, lR p1, lU] [(.ref p1)])) rfl (by rw [hml]; rfl) (Steps.refl _) (argsL := []) (rest := []) (lenOf own_pd8 rfl) rfl (by show 2 * 0 + _ ≤ _; exact Nat.le_of_eq rfl) (hb hby od15_10) (fun _ _ => ⟨rfl, e0, (by decide : 0 + 0 ≤ _), (by decide : 0 + 0 ≤ _)⟩)
  dsimp only [Pt.U, Pt.locs, Pt.cells, Pt.slots] at X1 l1 y1 z1 st1 hQ1
  subst y1 z1
  refine Go.tr st1 ?_
  obtain ⟨rfl, rfl, e1⟩ := hQ1
  have N1 : Fr n0 L1 := by rw [l1]; exact Fr.app N0 (Fr.nil n0)
  show Go _ _ _ _ (T1.setTop (mkF m 13 #[lR p0, lR p1, lU] [(.int (Int32.ofNat qcs.length))]))
  refine Go.st (fun _ => XS.istoreN X1.here hx rfl (hb hby od15_13) rfl (l' := #[lR p0, lR p1, lI (Int32.ofNat qcs.length)]) rfl) ?_
  show Go _ _ _ _ (T1.setTop (mkF m 14 #[lR p0, lR p1, lI (Int32.ofNat qcs.length)] []))
  refine Go.st (fun _ => XS.aloadN X1.here hx rfl (hb hby od15_14) rfl rfl) ?_
  refine Go.st (fun _ => XS.aloadN X1.here hx rfl (hb hby od15_15) rfl rfl) ?_
  show Go _ _ _ _ (T1.setTop (mkF m 16 #[lR p0, lR p1, lI (Int32.ofNat qcs.length)] [(.ref p0), (.ref p0)]))
  obtain ⟨T2, X2, e2, st2⟩ := getF X1 hx hZ hown (host := "") (Or.inl (ow hw 93 rfl)) Via.refl e1 hp3 (g := (mkF m 16 #[lR p0, lR p1, lI (Int32.ofNat qcs.length)] [(.ref p0), (.ref p0)])) rfl rfl (hb hby od15_16)
  refine Go.st st2 ?_
  show Go _ _ _ _ (T2.setTop (mkF m 19 #[lR p0, lR p1, lI (Int32.ofNat qcs.length)] [(.int (Int32.ofNat pcs.length)), (.ref p0)]))
  refine Go.st (fun _ => XS.iloadN X2.here hx rfl (hb hby od15_19) rfl) ?_
  show Go _ _ _ _ (T2.setTop (mkF m 20 #[lR p0, lR p1, lI (Int32.ofNat qcs.length)] [(.int (Int32.ofNat qcs.length)), (.int (Int32.ofNat pcs.length)), (.ref p0)]))
  refine Go.st (fun _ => XS.iadd X2.here hx rfl (hb hby od15_20) rfl) ?_
  show Go _ _ _ _ (T2.setTop (mkF m 21 #[lR p0, lR p1, lI (Int32.ofNat qcs.length)] [(.int ((Int32.ofNat pcs.length) + (Int32.ofNat qcs.length))), (.ref p0)]))
  rw [own_lenapp pcs qcs]
  show Go _ _ _ _ (T2.setTop (mkF m 21 #[lR p0, lR p1, lI (Int32.ofNat qcs.length)] [(.int (Int32.ofNat (pcs ++ qcs).length)), (.ref p0)]))
  obtain ⟨cq3, kq3, q3a, q3b, q3c⟩ := isOf hZ e2 hp0
  obtain ⟨_, _, ⟨T3, L3, k3, n3⟩, -, X3, ⟨Lc3, hQ3, l3, y3, z3⟩, st3⟩ := X2.virtualBack hx (y := (⟨"java/lang/AbstractStringBuilder", "ensureCapacityInternal", "(I)V"⟩ : MethodName)) (z := (⟨"java/lang/AbstractStringBuilder", "ensureCapacityInternal", "(I)V"⟩ : MethodName)) hown (mvT hZ (ow hw 95 rfl)) (mvT hZ (own_declares (ow hw 96 rfl) (ow hw 99 rfl))) (notFace_of_selects (args := #[]) (mvT hZ (ow hw 98 rfl))) (mvT hZ (ow hw 98 rfl)) (mvT hZ (ow hw 96 rfl)) (by decide) (backOf (W := 0) (rm_ensr l Z a0 hw [] g_CS S_CS nz_CS p0 (Int32.ofNat (pcs ++ qcs).length) arr ka za ((pcs.map StrChars.lo8).map Value.int) h0 n0 X00 hp1 hp2 hp5 (own_room (own_arvnn hp5) hcap)) hZ (ow hw 99 rfl) (ow hw 64 rfl) (by decide) (by decide)) q3a q3c (g := (mkF m 21 #[lR p0, lR p1, lI (Int32.ofNat qcs.length)] [(.int (Int32.ofNat (pcs ++ qcs).length)), (.ref p0)])) rfl (by rw [hml]; rfl) (Steps.refl _) (argsL := [(.int (Int32.ofNat (pcs ++ qcs).length))]) (rest := []) (lenOf own_pd4 rfl) rfl (by show 2 * 0 + _ ≤ _; exact Nat.le_of_eq rfl) (hb hby od15_21) (fun _ _ => ⟨rfl, e2, (by decide : 0 + 0 ≤ _), (by decide : 0 + 0 ≤ _)⟩)
  dsimp only [Pt.U, Pt.locs, Pt.cells, Pt.slots] at X3 l3 y3 z3 st3 hQ3
  subst y3 z3
  refine Go.tr st3 ?_
  obtain ⟨rfl, N3q, e3⟩ := hQ3
  have N3 : Fr n0 L3 := by rw [l3]; exact Fr.app N1 N3q
  show Go _ _ _ _ (T3.setTop (mkF m 24 #[lR p0, lR p1, lI (Int32.ofNat qcs.length)] []))
  refine Go.st (fun _ => XS.aloadN X3.here hx rfl (hb hby od15_24) rfl rfl) ?_
  refine Go.st (fun _ => XS.aloadN X3.here hx rfl (hb hby od15_25) rfl rfl) ?_
  show Go _ _ _ _ (T3.setTop (mkF m 26 #[lR p0, lR p1, lI (Int32.ofNat qcs.length)] [(.ref p0), (.ref p0)]))
  obtain ⟨T4, X4, e4, st4⟩ := getF X3 hx hZ hown (host := "") (Or.inl (ow hw 93 rfl)) Via.refl e3 hp3 (g := (mkF m 26 #[lR p0, lR p1, lI (Int32.ofNat qcs.length)] [(.ref p0), (.ref p0)])) rfl rfl (hb hby od15_26)
  refine Go.st st4 ?_
  show Go _ _ _ _ (T4.setTop (mkF m 29 #[lR p0, lR p1, lI (Int32.ofNat qcs.length)] [(.int (Int32.ofNat pcs.length)), (.ref p0)]))
  refine Go.st (fun _ => XS.aloadN X4.here hx rfl (hb hby od15_29) rfl rfl) ?_
  show Go _ _ _ _ (T4.setTop (mkF m 30 #[lR p0, lR p1, lI (Int32.ofNat qcs.length)] [(.ref p1), (.int (Int32.ofNat pcs.length)), (.ref p0)]))
  obtain ⟨cq5, kq5, q5a, q5b, q5c⟩ := isOf hZ e4 hp0
  obtain ⟨_, _, ⟨T5, L5, k5, n5⟩, -, X5, ⟨Lc5, hQ5, l5, y5, z5⟩, st5⟩ := X4.virtualBack hx (y := (⟨"java/lang/AbstractStringBuilder", "putStringAt", "(ILjava/lang/String;)V"⟩ : MethodName)) (z := (⟨"java/lang/AbstractStringBuilder", "putStringAt", "(ILjava/lang/String;)V"⟩ : MethodName)) hown (mvT hZ (ow hw 100 rfl)) (mvT hZ (own_declares (ow hw 101 rfl) (ow hw 104 rfl))) (notFace_of_selects (args := #[]) (mvT hZ (ow hw 103 rfl))) (mvT hZ (ow hw 103 rfl)) (mvT hZ (ow hw 101 rfl)) (by decide) (backOf (W := 0) (rm_puts l Z a0 hw [] g_CS S_CS nz_CS p0 (Int32.ofNat pcs.length) p1 pcs arr ka za qcs qv qk h0 n0 X00 hp0 hp1 hp2 hp4 hp5 hp7 hp8 hp9 hp10 hp11 hpcq hleq rfl hcap) hZ (ow hw 104 rfl) (ow hw 64 rfl) (by decide) (by decide)) q5a q5c (g := (mkF m 30 #[lR p0, lR p1, lI (Int32.ofNat qcs.length)] [(.ref p1), (.int (Int32.ofNat pcs.length)), (.ref p0)])) rfl (by rw [hml]; rfl) (Steps.refl _) (argsL := [(.int (Int32.ofNat pcs.length)), (.ref p1)]) (rest := []) (lenOf own_pd9 rfl) rfl (by show 2 * 0 + _ ≤ _; exact Nat.le_of_eq rfl) (hb hby od15_30) (fun _ _ => ⟨rfl, e4, (by decide : 0 + 0 ≤ _), (by decide : 0 + 0 ≤ _)⟩)
  dsimp only [Pt.U, Pt.locs, Pt.cells, Pt.slots] at X5 l5 y5 z5 st5 hQ5
  subst y5 z5
  refine Go.tr st5 ?_
  obtain ⟨rfl, N5q, K5q, q5_0⟩ := hQ5
  have N5 : Fr n0 L5 := by rw [l5]; exact Fr.app N3 N5q
  have O5 := X00.keep K5q (allS hp7 all0)
  have K5 : Keep h0 T5.heap [p0, arr] := (Keep.refl h0 [p0, arr]).trans K5q (allS (Or.inl (List.mem_of_getElem? (i := 1) rfl)) all0)
  show Go _ _ _ _ (T5.setTop (mkF m 33 #[lR p0, lR p1, lI (Int32.ofNat qcs.length)] []))
  refine Go.st (fun _ => XS.aloadN X5.here hx rfl (hb hby od15_33) rfl rfl) ?_
  refine Go.st (fun _ => XS.dup X5.here hx rfl (hb hby od15_34) rfl rfl) ?_
  show Go _ _ _ _ (T5.setTop (mkF m 35 #[lR p0, lR p1, lI (Int32.ofNat qcs.length)] [(.ref p0), (.ref p0)]))
  have c6 := (hp3.keep K5q (ninS (Exa.neArv hp0 hp5 (ow hw 55 rfl)) nin0))
  obtain ⟨T7, X7, e7, st7⟩ := getF X5 hx hZ hown (host := "") (Or.inl (ow hw 93 rfl)) Via.refl rfl c6 (g := (mkF m 35 #[lR p0, lR p1, lI (Int32.ofNat qcs.length)] [(.ref p0), (.ref p0)])) rfl rfl (hb hby od15_35)
  refine Go.st st7 ?_
  show Go _ _ _ _ (T7.setTop (mkF m 38 #[lR p0, lR p1, lI (Int32.ofNat qcs.length)] [(.int (Int32.ofNat pcs.length)), (.ref p0)]))
  refine Go.st (fun _ => XS.iloadN X7.here hx rfl (hb hby od15_38) rfl) ?_
  show Go _ _ _ _ (T7.setTop (mkF m 39 #[lR p0, lR p1, lI (Int32.ofNat qcs.length)] [(.int (Int32.ofNat qcs.length)), (.int (Int32.ofNat pcs.length)), (.ref p0)]))
  refine Go.st (fun _ => XS.iadd X7.here hx rfl (hb hby od15_39) rfl) ?_
  show Go _ _ _ _ (T7.setTop (mkF m 40 #[lR p0, lR p1, lI (Int32.ofNat qcs.length)] [(.int ((Int32.ofNat pcs.length) + (Int32.ofNat qcs.length))), (.ref p0)]))
  rw [own_lenapp pcs qcs]
  show Go _ _ _ _ (T7.setTop (mkF m 40 #[lR p0, lR p1, lI (Int32.ofNat qcs.length)] [(.int (Int32.ofNat (pcs ++ qcs).length)), (.ref p0)]))
  have c8 := (hp0.keep K5q)
  obtain ⟨T9, h9, X9, e9, W9, st9⟩ := putF X7 hx hZ hown (host := "") (Or.inl (ow hw 93 rfl)) Via.refl e7 c6 c8 (Or.inl (ow hw 94 rfl)) (ow hw 55 rfl) (ty := .int) (by decide) rfl rfl (g := (mkF m 40 #[lR p0, lR p1, lI (Int32.ofNat qcs.length)] [(.int (Int32.ofNat (pcs ++ qcs).length)), (.ref p0)])) rfl rfl (hb hby od15_40)
  refine Go.st st9 ?_
  have K9 : Keep h0 h9 [p0, arr] := K5.wr W9 (Or.inl (List.mem_of_getElem? (i := 0) rfl))
  have O9 := O5.wr W9 hp6
  have N9 := Fr.snoc X9 N5 hp6
  have F9 := c6.same W9
  show Go _ _ _ _ (T9.setTop (mkF m 43 #[lR p0, lR p1, lI (Int32.ofNat qcs.length)] []))
  refine Go.st (fun _ => XS.aloadN X9.here hx rfl (hb hby od15_43) rfl rfl) ?_
  show Go _ _ _ _ (T9.setTop (mkF m 44 #[lR p0, lR p1, lI (Int32.ofNat qcs.length)] [(.ref p0)]))
  obtain ⟨fs, hr, hrun, hended, hW, hsame⟩ := X9.leave (v := some (.ref p0)) (fun h => by rw [Bd.returns] at h; cases h)
  refine ⟨_, ?_, hPend _ _ hrun hended ⟨_, _, rfl, ?_, ⟨_, rfl⟩, hW, hsame.mono (by decide) (by decide)⟩⟩
  · exact retOut X9 hx (t := (.object "java/lang/AbstractStringBuilder")) Bd.returns rfl (Or.inr (Or.inr (Or.inr (Or.inr ⟨rfl, rfl, rfl⟩)))) (hb hby od15_44) hr
  · show Q_rm_appr Z _ _ _ _ _ _ _ _ _ _ h0 n0 _ T9.heap _
    rw [e9]
    have c10 := (c8.wr W9)
    have c11 := ((hp1.keep K5q (ninS (Exa.neArv hp0 hp5 (ow hw 55 rfl)) nin0)).other W9 (Or.inr (slot_ne (Or.inl (ow hw 69 rfl)) (Or.inl (ow hw 94 rfl)) (by decide) (t := (.array .byte)) (t' := .int) (by decide) (by decide))))
    have c12 := ((hp2.keep K5q (ninS (Exa.neArv hp0 hp5 (ow hw 55 rfl)) nin0)).other W9 (Or.inr (slot_ne (Or.inl (ow hw 71 rfl)) (Or.inl (ow hw 94 rfl)) (by decide) (t := .byte) (t' := .int) (by decide) (by decide))))
    have c13 := ((hp4.keep K5q).wr W9)
    have c14 := (q5_0.other W9 (Ne.symm (Exa.neArv hp0 hp5 (ow hw 55 rfl))))
    exact ⟨rfl, N9, K9, c10, c11, c12, F9, c13, c14⟩
theorem own_ef_rm_sapr (m : MethodId) (x0 : Addr) (x1 : Addr) : entryFrame m #[(.ref x0), (.ref x1)] 2 = mkF m 0 #[.val (.ref x0), .val (.ref x1)] [] := by first | (simp [entryFrame, mkF, argsToLocals, Value.category]; done) | rfl
theorem od16_0 : decode jdk_67_method_7_code 0 = .ok (.aload_n 0, 1) := by decide +kernel
theorem od16_1 : decode jdk_67_method_7_code 1 = .ok (.aload_n 1, 1) := by decide +kernel
theorem od16_2 : decode jdk_67_method_7_code 2 = .ok (.invokespecial 29, 3) := by decide +kernel
theorem own_pd10 : parseMethodDescriptor "(Ljava/lang/String;)Ljava/lang/AbstractStringBuilder;" = some ⟨[(.object "java/lang/String")], some (.object "java/lang/AbstractStringBuilder")⟩ := by decide +kernel
theorem od16_5 : decode jdk_67_method_7_code 5 = .ok (.pop, 1) := by decide +kernel
theorem od16_6 : decode jdk_67_method_7_code 6 = .ok (.aload_n 0, 1) := by decide +kernel
theorem od16_7 : decode jdk_67_method_7_code 7 = .ok (.areturn, 1) := by decide +kernel
def Q_rm_sapr (Z : State) (g_CS : Int32) (p0 : Addr) (p1 : Addr) (pcs : List Int32) (arr : Addr) (ka : ClassId) (za : Int32) (qcs : List Int32) (qv : Addr) (qk : ClassId) (h0 : Heap) (n0 : Nat) (v : Option Value) (h : Heap) (L : List Loc) : Prop := v = some (.ref p0) ∧ Fr n0 L ∧ Keep h0 h [p0, arr] ∧ Exa Z h p0 "java/lang/StringBuilder" ∧ Fld Z h p0 "java/lang/AbstractStringBuilder" "value" "[B" (.ref arr) ∧ Fld Z h p0 "java/lang/AbstractStringBuilder" "coder" "B" (.int 0) ∧ Fld Z h p0 "java/lang/AbstractStringBuilder" "count" "I" (.int (Int32.ofNat (pcs ++ qcs).length)) ∧ Exa Z h arr "[B" ∧ Arv Z h arr ka .byte za (((pcs ++ qcs).map StrChars.lo8).map Value.int) (.int 0)
set_option maxRecDepth 65536 in
set_option maxHeartbeats 40000000 in
theorem rm_sapr (l : Launch) (Z : State) (a0 : Array Value) (hw : ∀ d ∈ tables_1, d.before a0 Z = true) (ws : List Jvm.Cond) (g_CS : Int32) (S_CS : Sta Z Z.heap "java/lang/String" "COMPACT_STRINGS" "Z" (.int g_CS)) (nz_CS : ¬ (g_CS = (0 : Int32))) (p0 : Addr) (p1 : Addr) (pcs : List Int32) (arr : Addr) (ka : ClassId) (za : Int32) (qcs : List Int32) (qv : Addr) (qk : ClassId) (h0 : Heap) (n0 : Nat) (X00 : Old Z n0 h0) (hp0 : Exa Z h0 p0 "java/lang/StringBuilder") (hp1 : Fld Z h0 p0 "java/lang/AbstractStringBuilder" "value" "[B" (.ref arr)) (hp2 : Fld Z h0 p0 "java/lang/AbstractStringBuilder" "coder" "B" (.int 0)) (hp3 : Fld Z h0 p0 "java/lang/AbstractStringBuilder" "count" "I" (.int (Int32.ofNat pcs.length))) (hp4 : Exa Z h0 arr "[B") (hp5 : Arv Z h0 arr ka .byte za ((pcs.map StrChars.lo8).map Value.int) (.int 0)) (hp6 : n0 ≤ p0) (hp7 : n0 ≤ arr) (hp8 : Exa Z h0 p1 "java/lang/String") (hp9 : Fld Z h0 p1 "java/lang/String" "coder" "B" (.int 0)) (hp10 : Fld Z h0 p1 "java/lang/String" "value" "[B" (.ref qv)) (hp11 : Arv Z h0 qv qk .byte (Int32.ofNat qcs.length) ((qcs.map StrChars.lo8).map Value.int) (.int 0)) (hpcq : ∀ c ∈ qcs, ¬ c < 0 ∧ ¬ (255 : Int32) < c) (hleq : qcs.length ≤ 4000) (hcap : (pcs ++ qcs).length ≤ za.toNatClampNeg) :
    MetFree l (⟨"java/lang/StringBuilder", "append", "(Ljava/lang/String;)Ljava/lang/StringBuilder;"⟩ : MethodName) (head1 (Jvm.Cond.code (⟨"java/lang/StringBuilder", "append", "(Ljava/lang/String;)Ljava/lang/StringBuilder;"⟩ : MethodName) jdk_67_method_7_code 2 (some (.object "java/lang/StringBuilder")) :: ws) ({ frames := 4, cells := 0, slots := 0, locals := 61 } : Room)) (fun a U => a = #[(.ref p0), (.ref p1)] ∧ Z.Warmed39 U.vm ∧ U.heap = h0) (fun _ _ _ _ _ => True) (fun _ U o U' => ∃ v L, o = .returned v ∧ Q_rm_sapr Z g_CS p0 p1 pcs arr ka za qcs qv qk h0 n0 v U'.heap L ∧ FrameEnd U o U' L ({ frames := 4, cells := 0, slots := 0, locals := 61 } : Room).cells ({ frames := 4, cells := 0, slots := 0, locals := 61 } : Room).slots) := by
  refine MetFree.of_bodySF (plainFor_of_name own_pn5) hisR ?_
  intro p e s m args below meth c s₁ Bd hml0 hP hK
  obtain ⟨rfl, hZ, hh⟩ := hP
  have hx := Bd.exec
  have hby := Bd.bytes
  have hml : c.maxLocals = 2 := hml0
  have hown : s.vm.findClass "java/lang/StringBuilder" = some m.cls := findClass_of_methodNamed Bd.named
  have hnm := (name_of_methodNamed Bd.named Bd.method).1
  have X0 : Stand p l e ({ frames := 4, cells := 0, slots := 0, locals := 61 } : Room) s m #[(.ref p0), (.ref p1)] below meth c s₁ [] 0 0 := Stand.of_body Bd
  have e0 : s₁.heap = h0 := by rw [← hh, Bd.state]; rfl
  have N0 := Fr.nil n0
  refine Go.start fun P hPend => ?_
  refine Go.st (fun _ k => castTop (own_ef_rm_sapr m p0 p1) k) ?_
  show Go _ _ _ _ (s₁.setTop (mkF m 0 #[lR p0, lR p1] []))
  refine Go.st (fun _ => XS.aloadN X0.here hx rfl (hb hby od16_0) rfl rfl) ?_
  refine Go.st (fun _ => XS.aloadN X0.here hx rfl (hb hby od16_1) rfl rfl) ?_
  show Go _ _ _ _ (s₁.setTop (mkF m 2 #[lR p0, lR p1] [(.ref p1), (.ref p0)]))
  obtain ⟨_, _, ⟨T1, L1, k1, n1⟩, -, X1, ⟨Lc1, hQ1, l1, y1, z1⟩, st1⟩ := superBack X0 hx hZ (y := (⟨"java/lang/AbstractStringBuilder", "append", "(Ljava/lang/String;)Ljava/lang/AbstractStringBuilder;"⟩ : MethodName)) hown (ow hw 78 rfl) (own_sameself (ow hw 79 rfl) (ow hw 98 rfl) rfl (by decide)) (ow hw 79 rfl) (ow hw 80 rfl) (by decide) (backOf (W := 0) (rm_appr l Z a0 hw [] g_CS S_CS nz_CS p0 p1 pcs arr ka za qcs qv qk h0 n0 X00 hp0 hp1 hp2 hp3 hp4 hp5 hp6 hp7 hp8 hp9 hp10 hp11 hpcq hleq hcap) hZ (ow hw 82 rfl) (ow hw 64 rfl) (by decide) (by decide)) e0 (Ins.self hp0) (g := (mkF m 2 #[lR p0, lR p1] [(.ref p1), (.ref p0)])) rfl (by rw [hml]; rfl) (ow hw 82 rfl) (argsL := [(.ref p1)]) (rest := []) (lenOf own_pd10 rfl) rfl (by show 2 * 0 + _ ≤ _; exact Nat.le_of_eq rfl) (hb hby od16_2) (fun _ _ => ⟨rfl, e0, (by decide : 0 + 0 ≤ _), (by decide : 0 + 0 ≤ _)⟩)
  dsimp only [Pt.U, Pt.locs, Pt.cells, Pt.slots] at X1 l1 y1 z1 st1 hQ1
  subst y1 z1
  refine Go.tr st1 ?_
  obtain ⟨rfl, N1q, K1q, q1_0, q1_1, q1_2, q1_3, q1_4, q1_5⟩ := hQ1
  have N1 : Fr n0 L1 := by rw [l1]; exact Fr.app N0 N1q
  have O1 := X00.keep K1q (allS hp6 (allS hp7 all0))
  have K1 : Keep h0 T1.heap [p0, arr] := (Keep.refl h0 [p0, arr]).trans K1q (allS (Or.inl (List.mem_of_getElem? (i := 0) rfl)) (allS (Or.inl (List.mem_of_getElem? (i := 1) rfl)) all0))
  show Go _ _ _ _ (T1.setTop (mkF m 5 #[lR p0, lR p1] [(.ref p0)]))
  refine Go.st (fun _ => XS.pop X1.here hx rfl (hb hby od16_5) rfl rfl) ?_
  show Go _ _ _ _ (T1.setTop (mkF m 6 #[lR p0, lR p1] []))
  refine Go.st (fun _ => XS.aloadN X1.here hx rfl (hb hby od16_6) rfl rfl) ?_
  show Go _ _ _ _ (T1.setTop (mkF m 7 #[lR p0, lR p1] [(.ref p0)]))
  obtain ⟨fs, hr, hrun, hended, hW, hsame⟩ := X1.leave (v := some (.ref p0)) (fun h => by rw [Bd.returns] at h; cases h)
  refine ⟨_, ?_, hPend _ _ hrun hended ⟨_, _, rfl, ?_, ⟨_, rfl⟩, hW, hsame.mono (by decide) (by decide)⟩⟩
  · exact retOut X1 hx (t := (.object "java/lang/StringBuilder")) Bd.returns rfl (Or.inr (Or.inr (Or.inr (Or.inr ⟨rfl, rfl, rfl⟩)))) (hb hby od16_7) hr
  · show Q_rm_sapr Z _ _ _ _ _ _ _ _ _ _ h0 n0 _ T1.heap _
    exact ⟨rfl, N1, K1, q1_0, q1_1, q1_2, q1_3, q1_4, q1_5⟩
theorem own_ef_rm_max (m : MethodId) (x0 : Int32) (x1 : Int32) : entryFrame m #[(.int x0), (.int x1)] 2 = mkF m 0 #[.val (.int x0), .val (.int x1)] [] := by first | (simp [entryFrame, mkF, argsToLocals, Value.category]; done) | rfl
theorem od17_0 : decode jdk_29_method_65_code 0 = .ok (.iload_n 0, 1) := by decide +kernel
theorem od17_1 : decode jdk_29_method_65_code 1 = .ok (.iload_n 1, 1) := by decide +kernel
theorem od17_2 : decode jdk_29_method_65_code 2 = .ok (.if_icmp .lt 7, 3) := by decide +kernel
theorem od17_9 : decode jdk_29_method_65_code 9 = .ok (.iload_n 1, 1) := by decide +kernel
theorem od17_10 : decode jdk_29_method_65_code 10 = .ok (.ireturn, 1) := by decide +kernel
def Q_rm_max (Z : State) (g_CS : Int32) (p0 : Int32) (p1 : Int32) (h0 : Heap) (n0 : Nat) (v : Option Value) (h : Heap) (L : List Loc) : Prop := v = some (.int p1) ∧ Fr n0 L ∧ h = h0
set_option maxRecDepth 65536 in
set_option maxHeartbeats 40000000 in
theorem rm_max (l : Launch) (Z : State) (a0 : Array Value) (hw : ∀ d ∈ tables_1, d.before a0 Z = true) (ws : List Jvm.Cond) (g_CS : Int32) (S_CS : Sta Z Z.heap "java/lang/String" "COMPACT_STRINGS" "Z" (.int g_CS)) (nz_CS : ¬ (g_CS = (0 : Int32))) (p0 : Int32) (p1 : Int32) (h0 : Heap) (n0 : Nat) (X00 : Old Z n0 h0) (hmx : p0 < p1) :
    MetFree l (⟨"java/lang/Math", "max", "(II)I"⟩ : MethodName) (head1 (Jvm.Cond.code (⟨"java/lang/Math", "max", "(II)I"⟩ : MethodName) jdk_29_method_65_code 2 (some .int) :: ws) ({ frames := 0, cells := 0, slots := 0, locals := 0 } : Room)) (fun a U => a = #[(.int p0), (.int p1)] ∧ Z.Warmed39 U.vm ∧ U.heap = h0) (fun _ _ _ _ _ => True) (fun _ U o U' => ∃ v L, o = .returned v ∧ Q_rm_max Z g_CS p0 p1 h0 n0 v U'.heap L ∧ FrameEnd U o U' L ({ frames := 0, cells := 0, slots := 0, locals := 0 } : Room).cells ({ frames := 0, cells := 0, slots := 0, locals := 0 } : Room).slots) := by
  refine MetFree.of_bodySF (Jvm.Free.JP.mathPlain rfl (by decide +kernel)) hisR ?_
  intro p e s m args below meth c s₁ Bd hml0 hP hK
  obtain ⟨rfl, hZ, hh⟩ := hP
  have hx := Bd.exec
  have hby := Bd.bytes
  have hml : c.maxLocals = 2 := hml0
  have hown : s.vm.findClass "java/lang/Math" = some m.cls := findClass_of_methodNamed Bd.named
  have hnm := (name_of_methodNamed Bd.named Bd.method).1
  have X0 : Stand p l e ({ frames := 0, cells := 0, slots := 0, locals := 0 } : Room) s m #[(.int p0), (.int p1)] below meth c s₁ [] 0 0 := Stand.of_body Bd
  have e0 : s₁.heap = h0 := by rw [← hh, Bd.state]; rfl
  have N0 := Fr.nil n0
  refine Go.start fun P hPend => ?_
  refine Go.st (fun _ k => castTop (own_ef_rm_max m p0 p1) k) ?_
  show Go _ _ _ _ (s₁.setTop (mkF m 0 #[lI p0, lI p1] []))
  refine Go.st (fun _ => XS.iloadN X0.here hx rfl (hb hby od17_0) rfl) ?_
  refine Go.st (fun _ => XS.iloadN X0.here hx rfl (hb hby od17_1) rfl) ?_
  show Go _ _ _ _ (s₁.setTop (mkF m 2 #[lI p0, lI p1] [(.int p1), (.int p0)]))
  have hb1 : p0 < p1 := hmx
  refine Go.st (fun _ => XS.icmpYes X0.here hx rfl (pc0 := 2) (pc' := 9) rfl (hb hby od17_2) rfl (tlt hb1).1 (by decide) (by decide)) ?_
  show Go _ _ _ _ (s₁.setTop (mkF m 9 #[lI p0, lI p1] []))
  refine Go.st (fun _ => XS.iloadN X0.here hx rfl (hb hby od17_9) rfl) ?_
  show Go _ _ _ _ (s₁.setTop (mkF m 10 #[lI p0, lI p1] [(.int p1)]))
  obtain ⟨fs, hr, hrun, hended, hW, hsame⟩ := X0.leave (v := some (.int p1)) (fun h => by rw [Bd.returns] at h; cases h)
  refine ⟨_, ?_, hPend _ _ hrun hended ⟨_, _, rfl, ?_, ⟨_, rfl⟩, hW, hsame.mono (by decide) (by decide)⟩⟩
  · exact retOut X0 hx (t := .int) Bd.returns rfl (Or.inl ⟨rfl, Or.inl rfl, _, rfl⟩) (hb hby od17_10) hr
  · show Q_rm_max Z _ _ _ h0 n0 _ s₁.heap _
    rw [e0]
    exact ⟨rfl, N0, rfl⟩
theorem own_ef_rm_newl (m : MethodId) (x0 : Int32) (x1 : Int32) (x2 : Int32) : entryFrame m #[(.int x0), (.int x1), (.int x2)] 4 = mkF m 0 #[.val (.int x0), .val (.int x1), .val (.int x2), .unset] [] := by first | (simp [entryFrame, mkF, argsToLocals, Value.category]; done) | rfl
theorem own_pn6 : plainName "jdk/internal/util/ArraysSupport" = true := by first | (simp [plainName, overriddenIn]; done) | decide +kernel
theorem od18_0 : decode jdk_48_method_27_code 0 = .ok (.iload_n 0, 1) := by decide +kernel
theorem od18_1 : decode jdk_48_method_27_code 1 = .ok (.iload_n 1, 1) := by decide +kernel
theorem od18_2 : decode jdk_48_method_27_code 2 = .ok (.iload_n 2, 1) := by decide +kernel
theorem od18_3 : decode jdk_48_method_27_code 3 = .ok (.invokestatic 194, 3) := by decide +kernel
theorem own_pd11 : parseMethodDescriptor "(II)I" = some ⟨[.int, .int], some .int⟩ := by decide +kernel
theorem od18_6 : decode jdk_48_method_27_code 6 = .ok (.iadd, 1) := by decide +kernel
theorem od18_7 : decode jdk_48_method_27_code 7 = .ok (.istore_n 3, 1) := by decide +kernel
theorem od18_8 : decode jdk_48_method_27_code 8 = .ok (.iconst 0, 1) := by decide +kernel
theorem od18_9 : decode jdk_48_method_27_code 9 = .ok (.iload_n 3, 1) := by decide +kernel
theorem od18_10 : decode jdk_48_method_27_code 10 = .ok (.if_icmp .ge 11, 3) := by decide +kernel
theorem od18_13 : decode jdk_48_method_27_code 13 = .ok (.iload_n 3, 1) := by decide +kernel
theorem od18_14 : decode jdk_48_method_27_code 14 = .ok (.ldc 200, 2) := by decide +kernel
theorem od18_16 : decode jdk_48_method_27_code 16 = .ok (.if_icmp .gt 5, 3) := by decide +kernel
theorem od18_19 : decode jdk_48_method_27_code 19 = .ok (.iload_n 3, 1) := by decide +kernel
theorem od18_20 : decode jdk_48_method_27_code 20 = .ok (.ireturn, 1) := by decide +kernel
def Q_rm_newl (Z : State) (g_CS : Int32) (p1 : Int32) (h0 : Heap) (n0 : Nat) (v : Option Value) (h : Heap) (L : List Loc) : Prop := v = some (.int 34) ∧ Fr n0 L ∧ h = h0
set_option maxRecDepth 65536 in
set_option maxHeartbeats 40000000 in
theorem rm_newl (l : Launch) (Z : State) (a0 : Array Value) (hw : ∀ d ∈ tables_1, d.before a0 Z = true) (ws : List Jvm.Cond) (g_CS : Int32) (S_CS : Sta Z Z.heap "java/lang/String" "COMPACT_STRINGS" "Z" (.int g_CS)) (nz_CS : ¬ (g_CS = (0 : Int32))) (p1 : Int32) (h0 : Heap) (n0 : Nat) (X00 : Old Z n0 h0) (hmx : p1 < (18 : Int32)) :
    MetFree l (⟨"jdk/internal/util/ArraysSupport", "newLength", "(III)I"⟩ : MethodName) (head1 (Jvm.Cond.code (⟨"jdk/internal/util/ArraysSupport", "newLength", "(III)I"⟩ : MethodName) jdk_48_method_27_code 4 (some .int) :: ws) ({ frames := 1, cells := 0, slots := 0, locals := 14 } : Room)) (fun a U => a = #[(.int 16), (.int p1), (.int 18)] ∧ Z.Warmed39 U.vm ∧ U.heap = h0) (fun _ _ _ _ _ => True) (fun _ U o U' => ∃ v L, o = .returned v ∧ Q_rm_newl Z g_CS p1 h0 n0 v U'.heap L ∧ FrameEnd U o U' L ({ frames := 1, cells := 0, slots := 0, locals := 14 } : Room).cells ({ frames := 1, cells := 0, slots := 0, locals := 14 } : Room).slots) := by
  refine MetFree.of_bodySF (plainFor_of_name own_pn6) hisR ?_
  intro p e s m args below meth c s₁ Bd hml0 hP hK
  obtain ⟨rfl, hZ, hh⟩ := hP
  have hx := Bd.exec
  have hby := Bd.bytes
  have hml : c.maxLocals = 4 := hml0
  have hown : s.vm.findClass "jdk/internal/util/ArraysSupport" = some m.cls := findClass_of_methodNamed Bd.named
  have hnm := (name_of_methodNamed Bd.named Bd.method).1
  have X0 : Stand p l e ({ frames := 1, cells := 0, slots := 0, locals := 14 } : Room) s m #[(.int 16), (.int p1), (.int 18)] below meth c s₁ [] 0 0 := Stand.of_body Bd
  have e0 : s₁.heap = h0 := by rw [← hh, Bd.state]; rfl
  have N0 := Fr.nil n0
  refine Go.start fun P hPend => ?_
  refine Go.st (fun _ k => castTop (own_ef_rm_newl m ((16 : Int32)) p1 ((18 : Int32))) k) ?_
  show Go _ _ _ _ (s₁.setTop (mkF m 0 #[lI (16 : Int32), lI p1, lI (18 : Int32), lU] []))
  refine Go.st (fun _ => XS.iloadN X0.here hx rfl (hb hby od18_0) rfl) ?_
  refine Go.st (fun _ => XS.iloadN X0.here hx rfl (hb hby od18_1) rfl) ?_
  refine Go.st (fun _ => XS.iloadN X0.here hx rfl (hb hby od18_2) rfl) ?_
  show Go _ _ _ _ (s₁.setTop (mkF m 3 #[lI (16 : Int32), lI p1, lI (18 : Int32), lU] [(.int 18), (.int p1), (.int 16)]))
  obtain ⟨_, _, ⟨T1, L1, k1, n1⟩, -, X1, ⟨Lc1, hQ1, l1, y1, z1⟩, st1⟩ := Jvm.LawKit.callS X0 hx (y := (⟨"java/lang/Math", "max", "(II)I"⟩ : MethodName)) hown (mvT hZ (ow hw 145 rfl)) (mvT hZ (ow hw 146 rfl)) (mvT hZ (ow hw 147 rfl)) (mvT hZ (ow hw 148 rfl)) (by decide) (backOf (W := 1) (rm_max l Z a0 hw [] g_CS S_CS nz_CS p1 (18 : Int32) h0 n0 X00 hmx) hZ (ow hw 148 rfl) (ow hw 147 rfl) (by decide) (by decide)) (g := (mkF m 3 #[lI (16 : Int32), lI p1, lI (18 : Int32), lU] [(.int 18), (.int p1), (.int 16)])) rfl (by rw [hml]; rfl) (argsL := [(.int p1), (.int 18)]) (rest := [(.int 16)]) (lenOf own_pd11 rfl) rfl (by show 2 * 0 + _ ≤ _; exact Nat.le_of_eq rfl) (hb hby od18_3) (fun _ _ => ⟨rfl, e0, (by decide : 0 + 0 ≤ _), (by decide : 0 + 0 ≤ _)⟩)
  dsimp only [Pt.U, Pt.locs, Pt.cells, Pt.slots] at X1 l1 y1 z1 st1 hQ1
  subst y1 z1
  refine Go.st st1 ?_
  obtain ⟨rfl, N1q, e1⟩ := hQ1
  have N1 : Fr n0 L1 := by rw [l1]; exact Fr.app N0 N1q
  show Go _ _ _ _ (T1.setTop (mkF m 6 #[lI (16 : Int32), lI p1, lI (18 : Int32), lU] [(.int 18), (.int 16)]))
  refine Go.st (fun _ => XS.iadd X1.here hx rfl (hb hby od18_6) rfl) ?_
  show Go _ _ _ _ (T1.setTop (mkF m 7 #[lI (16 : Int32), lI p1, lI (18 : Int32), lU] [(.int 34)]))
  refine Go.st (fun _ => XS.istoreN X1.here hx rfl (hb hby od18_7) rfl (l' := #[lI (16 : Int32), lI p1, lI (18 : Int32), lI (34 : Int32)]) rfl) ?_
  show Go _ _ _ _ (T1.setTop (mkF m 8 #[lI (16 : Int32), lI p1, lI (18 : Int32), lI (34 : Int32)] []))
  refine Go.st (fun _ => XS.iconst X1.here hx rfl (hb hby od18_8)) ?_
  refine Go.st (fun _ => XS.iloadN X1.here hx rfl (hb hby od18_9) rfl) ?_
  show Go _ _ _ _ (T1.setTop (mkF m 10 #[lI (16 : Int32), lI p1, lI (18 : Int32), lI (34 : Int32)] [(.int 34), (.int 0)]))
  refine Go.st (fun _ => XS.icmpNo X1.here hx rfl (hb hby od18_10) rfl (tlt (by decide)).2.1) ?_
  show Go _ _ _ _ (T1.setTop (mkF m 13 #[lI (16 : Int32), lI p1, lI (18 : Int32), lI (34 : Int32)] []))
  refine Go.st (fun _ => XS.iloadN X1.here hx rfl (hb hby od18_13) rfl) ?_
  show Go _ _ _ _ (T1.setTop (mkF m 14 #[lI (16 : Int32), lI p1, lI (18 : Int32), lI (34 : Int32)] [(.int 34)]))
  refine Go.st (fun _ => X1.ldcInt hx hown (mvT hZ (ow hw 149 rfl)) (g := (mkF m 14 #[lI (16 : Int32), lI p1, lI (18 : Int32), lI (34 : Int32)] [(.int 34)])) rfl (hb hby od18_14) _) ?_
  show Go _ _ _ _ (T1.setTop (mkF m 16 #[lI (16 : Int32), lI p1, lI (18 : Int32), lI (34 : Int32)] [(.int 2147483639), (.int 34)]))
  refine Go.st (fun _ => XS.icmpNo X1.here hx rfl (hb hby od18_16) rfl (flt (by decide)).2.2.1) ?_
  show Go _ _ _ _ (T1.setTop (mkF m 19 #[lI (16 : Int32), lI p1, lI (18 : Int32), lI (34 : Int32)] []))
  refine Go.st (fun _ => XS.iloadN X1.here hx rfl (hb hby od18_19) rfl) ?_
  show Go _ _ _ _ (T1.setTop (mkF m 20 #[lI (16 : Int32), lI p1, lI (18 : Int32), lI (34 : Int32)] [(.int 34)]))
  obtain ⟨fs, hr, hrun, hended, hW, hsame⟩ := X1.leave (v := some (.int 34)) (fun h => by rw [Bd.returns] at h; cases h)
  refine ⟨_, ?_, hPend _ _ hrun hended ⟨_, _, rfl, ?_, ⟨_, rfl⟩, hW, hsame.mono (by decide) (by decide)⟩⟩
  · exact retOut X1 hx (t := .int) Bd.returns rfl (Or.inl ⟨rfl, Or.inl rfl, _, rfl⟩) (hb hby od18_20) hr
  · show Q_rm_newl Z _ _ h0 n0 _ T1.heap _
    rw [e1]
    exact ⟨rfl, N1, rfl⟩
theorem own_ef_rm_newc (m : MethodId) (x0 : Addr) (x1 : Int32) : entryFrame m #[(.ref x0), (.int x1)] 6 = mkF m 0 #[.val (.ref x0), .val (.int x1), .unset, .unset, .unset, .unset] [] := by first | (simp [entryFrame, mkF, argsToLocals, Value.category]; done) | rfl
theorem od19_0 : decode jdk_68_method_10_code 0 = .ok (.aload_n 0, 1) := by decide +kernel
theorem od19_1 : decode jdk_68_method_10_code 1 = .ok (.getfield 15, 3) := by decide +kernel
theorem od19_4 : decode jdk_68_method_10_code 4 = .ok (.arraylength, 1) := by decide +kernel
theorem od19_5 : decode jdk_68_method_10_code 5 = .ok (.istore_n 2, 1) := by decide +kernel
theorem od19_6 : decode jdk_68_method_10_code 6 = .ok (.iload_n 1, 1) := by decide +kernel
theorem od19_7 : decode jdk_68_method_10_code 7 = .ok (.aload_n 0, 1) := by decide +kernel
theorem od19_8 : decode jdk_68_method_10_code 8 = .ok (.getfield 22, 3) := by decide +kernel
theorem od19_11 : decode jdk_68_method_10_code 11 = .ok (.ishl, 1) := by decide +kernel
theorem od19_12 : decode jdk_68_method_10_code 12 = .ok (.istore_n 3, 1) := by decide +kernel
theorem od19_13 : decode jdk_68_method_10_code 13 = .ok (.iload_n 3, 1) := by decide +kernel
theorem od19_14 : decode jdk_68_method_10_code 14 = .ok (.iload_n 2, 1) := by decide +kernel
theorem od19_15 : decode jdk_68_method_10_code 15 = .ok (.isub, 1) := by decide +kernel
theorem od19_16 : decode jdk_68_method_10_code 16 = .ok (.istore 4, 2) := by decide +kernel
theorem od19_18 : decode jdk_68_method_10_code 18 = .ok (.iload_n 2, 1) := by decide +kernel
theorem od19_19 : decode jdk_68_method_10_code 19 = .ok (.iload 4, 2) := by decide +kernel
theorem od19_21 : decode jdk_68_method_10_code 21 = .ok (.iload_n 2, 1) := by decide +kernel
theorem od19_22 : decode jdk_68_method_10_code 22 = .ok (.iconst 2, 1) := by decide +kernel
theorem od19_23 : decode jdk_68_method_10_code 23 = .ok (.aload_n 0, 1) := by decide +kernel
theorem od19_24 : decode jdk_68_method_10_code 24 = .ok (.getfield 22, 3) := by decide +kernel
theorem od19_27 : decode jdk_68_method_10_code 27 = .ok (.ishl, 1) := by decide +kernel
theorem od19_28 : decode jdk_68_method_10_code 28 = .ok (.iadd, 1) := by decide +kernel
theorem od19_29 : decode jdk_68_method_10_code 29 = .ok (.invokestatic 114, 3) := by decide +kernel
theorem own_pd12 : parseMethodDescriptor "(III)I" = some ⟨[.int, .int, .int], some .int⟩ := by decide +kernel
theorem od19_32 : decode jdk_68_method_10_code 32 = .ok (.istore 5, 2) := by decide +kernel
theorem od19_34 : decode jdk_68_method_10_code 34 = .ok (.iload 5, 2) := by decide +kernel
theorem od19_36 : decode jdk_68_method_10_code 36 = .ok (.ldc 39, 2) := by decide +kernel
theorem od19_38 : decode jdk_68_method_10_code 38 = .ok (.if_icmp .ne 13, 3) := by decide +kernel
theorem od19_51 : decode jdk_68_method_10_code 51 = .ok (.iload 5, 2) := by decide +kernel
theorem od19_53 : decode jdk_68_method_10_code 53 = .ok (.aload_n 0, 1) := by decide +kernel
theorem od19_54 : decode jdk_68_method_10_code 54 = .ok (.getfield 22, 3) := by decide +kernel
theorem od19_57 : decode jdk_68_method_10_code 57 = .ok (.ishr, 1) := by decide +kernel
theorem od19_58 : decode jdk_68_method_10_code 58 = .ok (.ireturn, 1) := by decide +kernel
def Q_rm_newc (Z : State) (g_CS : Int32) (p0 : Addr) (p1 : Int32) (arr : Addr) (ka : ClassId) (va : List Value) (h0 : Heap) (n0 : Nat) (v : Option Value) (h : Heap) (L : List Loc) : Prop := v = some (.int 34) ∧ Fr n0 L ∧ h = h0
set_option maxRecDepth 65536 in
set_option maxHeartbeats 40000000 in
theorem rm_newc (l : Launch) (Z : State) (a0 : Array Value) (hw : ∀ d ∈ tables_1, d.before a0 Z = true) (ws : List Jvm.Cond) (g_CS : Int32) (S_CS : Sta Z Z.heap "java/lang/String" "COMPACT_STRINGS" "Z" (.int g_CS)) (nz_CS : ¬ (g_CS = (0 : Int32))) (p0 : Addr) (p1 : Int32) (arr : Addr) (ka : ClassId) (va : List Value) (h0 : Heap) (n0 : Nat) (X00 : Old Z n0 h0) (hp0 : Fld Z h0 p0 "java/lang/AbstractStringBuilder" "value" "[B" (.ref arr)) (hp1 : Fld Z h0 p0 "java/lang/AbstractStringBuilder" "coder" "B" (.int 0)) (hp2 : Arv Z h0 arr ka .byte (16 : Int32) va (.int 0)) (hgr : (0 : Int32) < (p1 - (16 : Int32)) ∧ (p1 - (16 : Int32)) < (18 : Int32)) :
    MetFree l (⟨"java/lang/AbstractStringBuilder", "newCapacity", "(I)I"⟩ : MethodName) (head1 (Jvm.Cond.code (⟨"java/lang/AbstractStringBuilder", "newCapacity", "(I)I"⟩ : MethodName) jdk_68_method_10_code 6 (some .int) :: ws) ({ frames := 2, cells := 0, slots := 0, locals := 29 } : Room)) (fun a U => a = #[(.ref p0), (.int p1)] ∧ Z.Warmed39 U.vm ∧ U.heap = h0) (fun _ _ _ _ _ => True) (fun _ U o U' => ∃ v L, o = .returned v ∧ Q_rm_newc Z g_CS p0 p1 arr ka va h0 n0 v U'.heap L ∧ FrameEnd U o U' L ({ frames := 2, cells := 0, slots := 0, locals := 29 } : Room).cells ({ frames := 2, cells := 0, slots := 0, locals := 29 } : Room).slots) := by
  refine MetFree.of_bodySF (plainFor_of_name own_pn4) hisR ?_
  intro p e s m args below meth c s₁ Bd hml0 hP hK
  obtain ⟨rfl, hZ, hh⟩ := hP
  have hx := Bd.exec
  have hby := Bd.bytes
  have hml : c.maxLocals = 6 := hml0
  have hown : s.vm.findClass "java/lang/AbstractStringBuilder" = some m.cls := findClass_of_methodNamed Bd.named
  have hnm := (name_of_methodNamed Bd.named Bd.method).1
  have X0 : Stand p l e ({ frames := 2, cells := 0, slots := 0, locals := 29 } : Room) s m #[(.ref p0), (.int p1)] below meth c s₁ [] 0 0 := Stand.of_body Bd
  have e0 : s₁.heap = h0 := by rw [← hh, Bd.state]; rfl
  have N0 := Fr.nil n0
  refine Go.start fun P hPend => ?_
  refine Go.st (fun _ k => castTop (own_ef_rm_newc m p0 p1) k) ?_
  show Go _ _ _ _ (s₁.setTop (mkF m 0 #[lR p0, lI p1, lU, lU, lU, lU] []))
  refine Go.st (fun _ => XS.aloadN X0.here hx rfl (hb hby od19_0) rfl rfl) ?_
  show Go _ _ _ _ (s₁.setTop (mkF m 1 #[lR p0, lI p1, lU, lU, lU, lU] [(.ref p0)]))
  obtain ⟨T1, X1, e1, st1⟩ := getF X0 hx hZ hown (host := "") (Or.inl (ow hw 68 rfl)) Via.refl e0 hp0 (g := (mkF m 1 #[lR p0, lI p1, lU, lU, lU, lU] [(.ref p0)])) rfl rfl (hb hby od19_1)
  refine Go.st st1 ?_
  show Go _ _ _ _ (T1.setTop (mkF m 4 #[lR p0, lI p1, lU, lU, lU, lU] [(.ref arr)]))
  refine Go.st (fun _ => own_len X1 hx hZ e1 hp2 (g := (mkF m 4 #[lR p0, lI p1, lU, lU, lU, lU] [(.ref arr)])) rfl rfl (hb hby od19_4) _) ?_
  show Go _ _ _ _ (T1.setTop (mkF m 5 #[lR p0, lI p1, lU, lU, lU, lU] [(.int 16)]))
  refine Go.st (fun _ => XS.istoreN X1.here hx rfl (hb hby od19_5) rfl (l' := #[lR p0, lI p1, lI (16 : Int32), lU, lU, lU]) rfl) ?_
  show Go _ _ _ _ (T1.setTop (mkF m 6 #[lR p0, lI p1, lI (16 : Int32), lU, lU, lU] []))
  refine Go.st (fun _ => XS.iloadN X1.here hx rfl (hb hby od19_6) rfl) ?_
  refine Go.st (fun _ => XS.aloadN X1.here hx rfl (hb hby od19_7) rfl rfl) ?_
  show Go _ _ _ _ (T1.setTop (mkF m 8 #[lR p0, lI p1, lI (16 : Int32), lU, lU, lU] [(.ref p0), (.int p1)]))
  obtain ⟨T2, X2, e2, st2⟩ := getF X1 hx hZ hown (host := "") (Or.inl (ow hw 70 rfl)) Via.refl e1 hp1 (g := (mkF m 8 #[lR p0, lI p1, lI (16 : Int32), lU, lU, lU] [(.ref p0), (.int p1)])) rfl rfl (hb hby od19_8)
  refine Go.st st2 ?_
  show Go _ _ _ _ (T2.setTop (mkF m 11 #[lR p0, lI p1, lI (16 : Int32), lU, lU, lU] [(.int 0), (.int p1)]))
  refine Go.st (fun _ => XS.ishl X2.here hx rfl (hb hby od19_11) rfl) ?_
  show Go _ _ _ _ (T2.setTop (mkF m 12 #[lR p0, lI p1, lI (16 : Int32), lU, lU, lU] [(.int (p1 <<< ((0 : Int32) &&& 31)))]))
  rw [show (p1 <<< ((0 : Int32) &&& 31)) = p1 from own_ishl0 _]
  show Go _ _ _ _ (T2.setTop (mkF m 12 #[lR p0, lI p1, lI (16 : Int32), lU, lU, lU] [(.int p1)]))
  refine Go.st (fun _ => XS.istoreN X2.here hx rfl (hb hby od19_12) rfl (l' := #[lR p0, lI p1, lI (16 : Int32), lI p1, lU, lU]) rfl) ?_
  show Go _ _ _ _ (T2.setTop (mkF m 13 #[lR p0, lI p1, lI (16 : Int32), lI p1, lU, lU] []))
  refine Go.st (fun _ => XS.iloadN X2.here hx rfl (hb hby od19_13) rfl) ?_
  refine Go.st (fun _ => XS.iloadN X2.here hx rfl (hb hby od19_14) rfl) ?_
  show Go _ _ _ _ (T2.setTop (mkF m 15 #[lR p0, lI p1, lI (16 : Int32), lI p1, lU, lU] [(.int 16), (.int p1)]))
  refine Go.st (fun _ => XS.isub X2.here hx rfl (hb hby od19_15) rfl) ?_
  show Go _ _ _ _ (T2.setTop (mkF m 16 #[lR p0, lI p1, lI (16 : Int32), lI p1, lU, lU] [(.int (p1 - (16 : Int32)))]))
  refine Go.st (fun _ => XS.istore X2.here hx rfl (hb hby od19_16) rfl (l' := #[lR p0, lI p1, lI (16 : Int32), lI p1, lI (p1 - (16 : Int32)), lU]) rfl) ?_
  show Go _ _ _ _ (T2.setTop (mkF m 18 #[lR p0, lI p1, lI (16 : Int32), lI p1, lI (p1 - (16 : Int32)), lU] []))
  refine Go.st (fun _ => XS.iloadN X2.here hx rfl (hb hby od19_18) rfl) ?_
  refine Go.st (fun _ => XS.iload X2.here hx rfl (hb hby od19_19) rfl) ?_
  refine Go.st (fun _ => XS.iloadN X2.here hx rfl (hb hby od19_21) rfl) ?_
  refine Go.st (fun _ => XS.iconst X2.here hx rfl (hb hby od19_22)) ?_
  refine Go.st (fun _ => XS.aloadN X2.here hx rfl (hb hby od19_23) rfl rfl) ?_
  show Go _ _ _ _ (T2.setTop (mkF m 24 #[lR p0, lI p1, lI (16 : Int32), lI p1, lI (p1 - (16 : Int32)), lU] [(.ref p0), (.int 2), (.int 16), (.int (p1 - (16 : Int32))), (.int 16)]))
  obtain ⟨T3, X3, e3, st3⟩ := getF X2 hx hZ hown (host := "") (Or.inl (ow hw 70 rfl)) Via.refl e2 hp1 (g := (mkF m 24 #[lR p0, lI p1, lI (16 : Int32), lI p1, lI (p1 - (16 : Int32)), lU] [(.ref p0), (.int 2), (.int 16), (.int (p1 - (16 : Int32))), (.int 16)])) rfl rfl (hb hby od19_24)
  refine Go.st st3 ?_
  show Go _ _ _ _ (T3.setTop (mkF m 27 #[lR p0, lI p1, lI (16 : Int32), lI p1, lI (p1 - (16 : Int32)), lU] [(.int 0), (.int 2), (.int 16), (.int (p1 - (16 : Int32))), (.int 16)]))
  refine Go.st (fun _ => XS.ishl X3.here hx rfl (hb hby od19_27) rfl) ?_
  show Go _ _ _ _ (T3.setTop (mkF m 28 #[lR p0, lI p1, lI (16 : Int32), lI p1, lI (p1 - (16 : Int32)), lU] [(.int ((2 : Int32) <<< ((0 : Int32) &&& 31))), (.int 16), (.int (p1 - (16 : Int32))), (.int 16)]))
  rw [show ((2 : Int32) <<< ((0 : Int32) &&& 31)) = (2 : Int32) from own_ishl0 _]
  show Go _ _ _ _ (T3.setTop (mkF m 28 #[lR p0, lI p1, lI (16 : Int32), lI p1, lI (p1 - (16 : Int32)), lU] [(.int 2), (.int 16), (.int (p1 - (16 : Int32))), (.int 16)]))
  refine Go.st (fun _ => XS.iadd X3.here hx rfl (hb hby od19_28) rfl) ?_
  show Go _ _ _ _ (T3.setTop (mkF m 29 #[lR p0, lI p1, lI (16 : Int32), lI p1, lI (p1 - (16 : Int32)), lU] [(.int 18), (.int (p1 - (16 : Int32))), (.int 16)]))
  obtain ⟨_, _, ⟨T4, L4, k4, n4⟩, -, X4, ⟨Lc4, hQ4, l4, y4, z4⟩, st4⟩ := Jvm.LawKit.callS X3 hx (y := (⟨"jdk/internal/util/ArraysSupport", "newLength", "(III)I"⟩ : MethodName)) hown (mvT hZ (ow hw 141 rfl)) (mvT hZ (ow hw 142 rfl)) (mvT hZ (ow hw 143 rfl)) (mvT hZ (ow hw 144 rfl)) (by decide) (backOf (W := 0) (rm_newl l Z a0 hw [] g_CS S_CS nz_CS (p1 - (16 : Int32)) h0 n0 X00 hgr.2) hZ (ow hw 144 rfl) (ow hw 143 rfl) (by decide) (by decide)) (g := (mkF m 29 #[lR p0, lI p1, lI (16 : Int32), lI p1, lI (p1 - (16 : Int32)), lU] [(.int 18), (.int (p1 - (16 : Int32))), (.int 16)])) rfl (by rw [hml]; rfl) (argsL := [(.int 16), (.int (p1 - (16 : Int32))), (.int 18)]) (rest := []) (lenOf own_pd12 rfl) rfl (by show 2 * 0 + _ ≤ _; exact Nat.le_of_eq rfl) (hb hby od19_29) (fun _ _ => ⟨rfl, e3, (by decide : 0 + 0 ≤ _), (by decide : 0 + 0 ≤ _)⟩)
  dsimp only [Pt.U, Pt.locs, Pt.cells, Pt.slots] at X4 l4 y4 z4 st4 hQ4
  subst y4 z4
  refine Go.st st4 ?_
  obtain ⟨rfl, N4q, e4⟩ := hQ4
  have N4 : Fr n0 L4 := by rw [l4]; exact Fr.app N0 N4q
  show Go _ _ _ _ (T4.setTop (mkF m 32 #[lR p0, lI p1, lI (16 : Int32), lI p1, lI (p1 - (16 : Int32)), lU] [(.int 34)]))
  refine Go.st (fun _ => XS.istore X4.here hx rfl (hb hby od19_32) rfl (l' := #[lR p0, lI p1, lI (16 : Int32), lI p1, lI (p1 - (16 : Int32)), lI (34 : Int32)]) rfl) ?_
  show Go _ _ _ _ (T4.setTop (mkF m 34 #[lR p0, lI p1, lI (16 : Int32), lI p1, lI (p1 - (16 : Int32)), lI (34 : Int32)] []))
  refine Go.st (fun _ => XS.iload X4.here hx rfl (hb hby od19_34) rfl) ?_
  show Go _ _ _ _ (T4.setTop (mkF m 36 #[lR p0, lI p1, lI (16 : Int32), lI p1, lI (p1 - (16 : Int32)), lI (34 : Int32)] [(.int 34)]))
  refine Go.st (fun _ => X4.ldcInt hx hown (mvT hZ (ow hw 150 rfl)) (g := (mkF m 36 #[lR p0, lI p1, lI (16 : Int32), lI p1, lI (p1 - (16 : Int32)), lI (34 : Int32)] [(.int 34)])) rfl (hb hby od19_36) _) ?_
  show Go _ _ _ _ (T4.setTop (mkF m 38 #[lR p0, lI p1, lI (16 : Int32), lI p1, lI (p1 - (16 : Int32)), lI (34 : Int32)] [(.int 2147483647), (.int 34)]))
  refine Go.st (fun _ => XS.icmpYes X4.here hx rfl (pc0 := 38) (pc' := 51) rfl (hb hby od19_38) rfl (feq (by decide)).2 (by decide) (by decide)) ?_
  show Go _ _ _ _ (T4.setTop (mkF m 51 #[lR p0, lI p1, lI (16 : Int32), lI p1, lI (p1 - (16 : Int32)), lI (34 : Int32)] []))
  refine Go.st (fun _ => XS.iload X4.here hx rfl (hb hby od19_51) rfl) ?_
  refine Go.st (fun _ => XS.aloadN X4.here hx rfl (hb hby od19_53) rfl rfl) ?_
  show Go _ _ _ _ (T4.setTop (mkF m 54 #[lR p0, lI p1, lI (16 : Int32), lI p1, lI (p1 - (16 : Int32)), lI (34 : Int32)] [(.ref p0), (.int 34)]))
  obtain ⟨T5, X5, e5, st5⟩ := getF X4 hx hZ hown (host := "") (Or.inl (ow hw 70 rfl)) Via.refl e4 hp1 (g := (mkF m 54 #[lR p0, lI p1, lI (16 : Int32), lI p1, lI (p1 - (16 : Int32)), lI (34 : Int32)] [(.ref p0), (.int 34)])) rfl rfl (hb hby od19_54)
  refine Go.st st5 ?_
  show Go _ _ _ _ (T5.setTop (mkF m 57 #[lR p0, lI p1, lI (16 : Int32), lI p1, lI (p1 - (16 : Int32)), lI (34 : Int32)] [(.int 0), (.int 34)]))
  refine Go.st (fun _ => XS.ishr X5.here hx rfl (hb hby od19_57) rfl) ?_
  show Go _ _ _ _ (T5.setTop (mkF m 58 #[lR p0, lI p1, lI (16 : Int32), lI p1, lI (p1 - (16 : Int32)), lI (34 : Int32)] [(.int ((34 : Int32) >>> ((0 : Int32) &&& 31)))]))
  rw [show ((34 : Int32) >>> ((0 : Int32) &&& 31)) = (34 : Int32) from own_ishr0 _]
  show Go _ _ _ _ (T5.setTop (mkF m 58 #[lR p0, lI p1, lI (16 : Int32), lI p1, lI (p1 - (16 : Int32)), lI (34 : Int32)] [(.int 34)]))
  obtain ⟨fs, hr, hrun, hended, hW, hsame⟩ := X5.leave (v := some (.int 34)) (fun h => by rw [Bd.returns] at h; cases h)
  refine ⟨_, ?_, hPend _ _ hrun hended ⟨_, _, rfl, ?_, ⟨_, rfl⟩, hW, hsame.mono (by decide) (by decide)⟩⟩
  · exact retOut X5 hx (t := .int) Bd.returns rfl (Or.inl ⟨rfl, Or.inl rfl, _, rfl⟩) (hb hby od19_58) hr
  · show Q_rm_newc Z _ _ _ _ _ _ h0 n0 _ T5.heap _
    rw [e5]
    exact ⟨rfl, N4, rfl⟩
theorem own_ef_rm_min (m : MethodId) (x0 : Int32) (x1 : Int32) : entryFrame m #[(.int x0), (.int x1)] 2 = mkF m 0 #[.val (.int x0), .val (.int x1)] [] := by first | (simp [entryFrame, mkF, argsToLocals, Value.category]; done) | rfl
theorem od20_0 : decode jdk_29_method_69_code 0 = .ok (.iload_n 0, 1) := by decide +kernel
theorem od20_1 : decode jdk_29_method_69_code 1 = .ok (.iload_n 1, 1) := by decide +kernel
theorem od20_2 : decode jdk_29_method_69_code 2 = .ok (.if_icmp .gt 7, 3) := by decide +kernel
theorem od20_5 : decode jdk_29_method_69_code 5 = .ok (.iload_n 0, 1) := by decide +kernel
theorem od20_6 : decode jdk_29_method_69_code 6 = .ok (.goto 4, 3) := by decide +kernel
theorem od20_10 : decode jdk_29_method_69_code 10 = .ok (.ireturn, 1) := by decide +kernel
def Q_rm_min (Z : State) (g_CS : Int32) (p0 : Int32) (p1 : Int32) (h0 : Heap) (n0 : Nat) (v : Option Value) (h : Heap) (L : List Loc) : Prop := v = some (.int p0) ∧ Fr n0 L ∧ h = h0
set_option maxRecDepth 65536 in
set_option maxHeartbeats 40000000 in
theorem rm_min (l : Launch) (Z : State) (a0 : Array Value) (hw : ∀ d ∈ tables_1, d.before a0 Z = true) (ws : List Jvm.Cond) (g_CS : Int32) (S_CS : Sta Z Z.heap "java/lang/String" "COMPACT_STRINGS" "Z" (.int g_CS)) (nz_CS : ¬ (g_CS = (0 : Int32))) (p0 : Int32) (p1 : Int32) (h0 : Heap) (n0 : Nat) (X00 : Old Z n0 h0) (hmn : ¬ (p1 < p0)) :
    MetFree l (⟨"java/lang/Math", "min", "(II)I"⟩ : MethodName) (head1 (Jvm.Cond.code (⟨"java/lang/Math", "min", "(II)I"⟩ : MethodName) jdk_29_method_69_code 2 (some .int) :: ws) ({ frames := 0, cells := 0, slots := 0, locals := 0 } : Room)) (fun a U => a = #[(.int p0), (.int p1)] ∧ Z.Warmed39 U.vm ∧ U.heap = h0) (fun _ _ _ _ _ => True) (fun _ U o U' => ∃ v L, o = .returned v ∧ Q_rm_min Z g_CS p0 p1 h0 n0 v U'.heap L ∧ FrameEnd U o U' L ({ frames := 0, cells := 0, slots := 0, locals := 0 } : Room).cells ({ frames := 0, cells := 0, slots := 0, locals := 0 } : Room).slots) := by
  refine MetFree.of_bodySF (Jvm.Free.JP.mathPlain rfl (by decide +kernel)) hisR ?_
  intro p e s m args below meth c s₁ Bd hml0 hP hK
  obtain ⟨rfl, hZ, hh⟩ := hP
  have hx := Bd.exec
  have hby := Bd.bytes
  have hml : c.maxLocals = 2 := hml0
  have hown : s.vm.findClass "java/lang/Math" = some m.cls := findClass_of_methodNamed Bd.named
  have hnm := (name_of_methodNamed Bd.named Bd.method).1
  have X0 : Stand p l e ({ frames := 0, cells := 0, slots := 0, locals := 0 } : Room) s m #[(.int p0), (.int p1)] below meth c s₁ [] 0 0 := Stand.of_body Bd
  have e0 : s₁.heap = h0 := by rw [← hh, Bd.state]; rfl
  have N0 := Fr.nil n0
  refine Go.start fun P hPend => ?_
  refine Go.st (fun _ k => castTop (own_ef_rm_min m p0 p1) k) ?_
  show Go _ _ _ _ (s₁.setTop (mkF m 0 #[lI p0, lI p1] []))
  refine Go.st (fun _ => XS.iloadN X0.here hx rfl (hb hby od20_0) rfl) ?_
  refine Go.st (fun _ => XS.iloadN X0.here hx rfl (hb hby od20_1) rfl) ?_
  show Go _ _ _ _ (s₁.setTop (mkF m 2 #[lI p0, lI p1] [(.int p1), (.int p0)]))
  have hb1 : ¬ (p1 < p0) := hmn
  refine Go.st (fun _ => XS.icmpNo X0.here hx rfl (hb hby od20_2) rfl (flt hb1).2.2.1) ?_
  show Go _ _ _ _ (s₁.setTop (mkF m 5 #[lI p0, lI p1] []))
  refine Go.st (fun _ => XS.iloadN X0.here hx rfl (hb hby od20_5) rfl) ?_
  show Go _ _ _ _ (s₁.setTop (mkF m 6 #[lI p0, lI p1] [(.int p0)]))
  refine Go.st (fun _ => XS.goto X0.here hx rfl (pc0 := 6) (pc' := 10) rfl (hb hby od20_6) (by decide) (by decide)) ?_
  show Go _ _ _ _ (s₁.setTop (mkF m 10 #[lI p0, lI p1] [(.int p0)]))
  obtain ⟨fs, hr, hrun, hended, hW, hsame⟩ := X0.leave (v := some (.int p0)) (fun h => by rw [Bd.returns] at h; cases h)
  refine ⟨_, ?_, hPend _ _ hrun hended ⟨_, _, rfl, ?_, ⟨_, rfl⟩, hW, hsame.mono (by decide) (by decide)⟩⟩
  · exact retOut X0 hx (t := .int) Bd.returns rfl (Or.inl ⟨rfl, Or.inl rfl, _, rfl⟩) (hb hby od20_10) hr
  · show Q_rm_min Z _ _ _ h0 n0 _ s₁.heap _
    rw [e0]
    exact ⟨rfl, N0, rfl⟩
theorem own_ef_rm_cpof (m : MethodId) (x0 : Addr) (x1 : Int32) : entryFrame m #[(.ref x0), (.int x1)] 3 = mkF m 0 #[.val (.ref x0), .val (.int x1), .unset] [] := by first | (simp [entryFrame, mkF, argsToLocals, Value.category]; done) | rfl
theorem own_pn7 : plainName "java/util/Arrays" = true := by first | (simp [plainName, overriddenIn]; done) | decide +kernel
theorem od21_0 : decode jdk_65_method_121_code 0 = .ok (.iload_n 1, 1) := by decide +kernel
theorem od21_1 : decode jdk_65_method_121_code 1 = .ok (.aload_n 0, 1) := by decide +kernel
theorem od21_2 : decode jdk_65_method_121_code 2 = .ok (.arraylength, 1) := by decide +kernel
theorem od21_3 : decode jdk_65_method_121_code 3 = .ok (.if_icmp .ne 11, 3) := by decide +kernel
theorem od21_14 : decode jdk_65_method_121_code 14 = .ok (.iload_n 1, 1) := by decide +kernel
theorem od21_15 : decode jdk_65_method_121_code 15 = .ok (.newarray .byte, 2) := by decide +kernel
theorem od21_17 : decode jdk_65_method_121_code 17 = .ok (.astore_n 2, 1) := by decide +kernel
theorem od21_18 : decode jdk_65_method_121_code 18 = .ok (.aload_n 0, 1) := by decide +kernel
theorem od21_19 : decode jdk_65_method_121_code 19 = .ok (.iconst 0, 1) := by decide +kernel
theorem od21_20 : decode jdk_65_method_121_code 20 = .ok (.aload_n 2, 1) := by decide +kernel
theorem od21_21 : decode jdk_65_method_121_code 21 = .ok (.iconst 0, 1) := by decide +kernel
theorem od21_22 : decode jdk_65_method_121_code 22 = .ok (.aload_n 0, 1) := by decide +kernel
theorem od21_23 : decode jdk_65_method_121_code 23 = .ok (.arraylength, 1) := by decide +kernel
theorem od21_24 : decode jdk_65_method_121_code 24 = .ok (.iload_n 1, 1) := by decide +kernel
theorem od21_25 : decode jdk_65_method_121_code 25 = .ok (.invokestatic 304, 3) := by decide +kernel
theorem od21_28 : decode jdk_65_method_121_code 28 = .ok (.invokestatic 150, 3) := by decide +kernel
theorem od21_31 : decode jdk_65_method_121_code 31 = .ok (.aload_n 2, 1) := by decide +kernel
theorem od21_32 : decode jdk_65_method_121_code 32 = .ok (.areturn, 1) := by decide +kernel
def Q_rm_cpof (Z : State) (g_CS : Int32) (p0 : Addr) (ka : ClassId) (va : List Value) (h0 : Heap) (n0 : Nat) (v : Option Value) (h : Heap) (L : List Loc) : Prop := ∃ (ob : Addr) (kb : ClassId), v = some (.ref ob) ∧ Fr n0 L ∧ Keep h0 h [] ∧ h0.size ≤ ob ∧ Exa Z h ob "[B" ∧ Arv Z h ob kb .byte (34 : Int32) va (.int 0)
set_option maxRecDepth 65536 in
set_option maxHeartbeats 40000000 in
theorem rm_cpof (l : Launch) (Z : State) (a0 : Array Value) (hw : ∀ d ∈ tables_1, d.before a0 Z = true) (ws : List Jvm.Cond) (g_CS : Int32) (S_CS : Sta Z Z.heap "java/lang/String" "COMPACT_STRINGS" "Z" (.int g_CS)) (nz_CS : ¬ (g_CS = (0 : Int32))) (p0 : Addr) (ka : ClassId) (va : List Value) (h0 : Heap) (n0 : Nat) (X00 : Old Z n0 h0) (hp0 : Arv Z h0 p0 ka .byte (16 : Int32) va (.int 0)) (hvl : va.length ≤ 16) :
    MetFree l (⟨"java/util/Arrays", "copyOf", "([BI)[B"⟩ : MethodName) (head1 (Jvm.Cond.code (⟨"java/util/Arrays", "copyOf", "([BI)[B"⟩ : MethodName) jdk_65_method_121_code 3 (some (.array .byte)) :: ws) ({ frames := 1, cells := 1, slots := 34, locals := 18 } : Room)) (fun a U => a = #[(.ref p0), (.int 34)] ∧ Z.Warmed39 U.vm ∧ U.heap = h0) (fun _ _ _ _ _ => True) (fun _ U o U' => ∃ v L, o = .returned v ∧ Q_rm_cpof Z g_CS p0 ka va h0 n0 v U'.heap L ∧ FrameEnd U o U' L ({ frames := 1, cells := 1, slots := 34, locals := 18 } : Room).cells ({ frames := 1, cells := 1, slots := 34, locals := 18 } : Room).slots) := by
  refine MetFree.of_bodySF (plainFor_of_name own_pn7) hisR ?_
  intro p e s m args below meth c s₁ Bd hml0 hP hK
  obtain ⟨rfl, hZ, hh⟩ := hP
  have hx := Bd.exec
  have hby := Bd.bytes
  have hml : c.maxLocals = 3 := hml0
  have hown : s.vm.findClass "java/util/Arrays" = some m.cls := findClass_of_methodNamed Bd.named
  have hnm := (name_of_methodNamed Bd.named Bd.method).1
  have X0 : Stand p l e ({ frames := 1, cells := 1, slots := 34, locals := 18 } : Room) s m #[(.ref p0), (.int 34)] below meth c s₁ [] 0 0 := Stand.of_body Bd
  have e0 : s₁.heap = h0 := by rw [← hh, Bd.state]; rfl
  have N0 := Fr.nil n0
  refine Go.start fun P hPend => ?_
  refine Go.st (fun _ k => castTop (own_ef_rm_cpof m p0 ((34 : Int32))) k) ?_
  show Go _ _ _ _ (s₁.setTop (mkF m 0 #[lR p0, lI (34 : Int32), lU] []))
  refine Go.st (fun _ => XS.iloadN X0.here hx rfl (hb hby od21_0) rfl) ?_
  refine Go.st (fun _ => XS.aloadN X0.here hx rfl (hb hby od21_1) rfl rfl) ?_
  show Go _ _ _ _ (s₁.setTop (mkF m 2 #[lR p0, lI (34 : Int32), lU] [(.ref p0), (.int 34)]))
  refine Go.st (fun _ => own_len X0 hx hZ e0 hp0 (g := (mkF m 2 #[lR p0, lI (34 : Int32), lU] [(.ref p0), (.int 34)])) rfl rfl (hb hby od21_2) _) ?_
  show Go _ _ _ _ (s₁.setTop (mkF m 3 #[lR p0, lI (34 : Int32), lU] [(.int 16), (.int 34)]))
  refine Go.st (fun _ => XS.icmpYes X0.here hx rfl (pc0 := 3) (pc' := 14) rfl (hb hby od21_3) rfl (feq (by decide)).2 (by decide) (by decide)) ?_
  show Go _ _ _ _ (s₁.setTop (mkF m 14 #[lR p0, lI (34 : Int32), lU] []))
  refine Go.st (fun _ => XS.iloadN X0.here hx rfl (hb hby od21_14) rfl) ?_
  show Go _ _ _ _ (s₁.setTop (mkF m 15 #[lR p0, lI (34 : Int32), lU] [(.int 34)]))
  obtain ⟨T1, h1, k1, X1, e1, E1, A1, B1, st1⟩ := newPE X0 hx hZ (ow hw 14 rfl) e0 (g := (mkF m 15 #[lR p0, lI (34 : Int32), lU] [(.int 34)])) rfl (hb hby od21_15) rfl (by decide) (cap := 34) (by decide) (by decide) (by decide) (by decide) (ad := "[B") (by decide +kernel)
  obtain ⟨b1, g1⟩ : ∃ z, z = h0.size := ⟨_, rfl⟩
  rw [← g1] at A1 B1 st1
  refine Go.st st1 ?_
  have g_b1 : n0 ≤ b1 := Nat.le_trans (own_oldsz X00) (Nat.le_of_eq g1.symm)
  have sz_b1 : h0.size ≤ b1 := Nat.le_trans (Keep.refl h0 []).1 (Nat.le_of_eq g1.symm)
  have K1 : Keep h0 h1 [] := (Keep.refl h0 []).ext E1
  have O1 := X00.ext E1
  have V1 : Arv Z h1 b1 k1 .byte (34 : Int32) [] (.int 0) := Arv.new A1 (by decide)
  show Go _ _ _ _ (T1.setTop (mkF m 17 #[lR p0, lI (34 : Int32), lU] [(.ref b1)]))
  refine Go.st (fun _ => XS.astoreN X1.here hx rfl (hb hby od21_17) rfl rfl (l' := #[lR p0, lI (34 : Int32), lR b1]) rfl) ?_
  show Go _ _ _ _ (T1.setTop (mkF m 18 #[lR p0, lI (34 : Int32), lR b1] []))
  refine Go.st (fun _ => XS.aloadN X1.here hx rfl (hb hby od21_18) rfl rfl) ?_
  refine Go.st (fun _ => XS.iconst X1.here hx rfl (hb hby od21_19)) ?_
  refine Go.st (fun _ => XS.aloadN X1.here hx rfl (hb hby od21_20) rfl rfl) ?_
  refine Go.st (fun _ => XS.iconst X1.here hx rfl (hb hby od21_21)) ?_
  refine Go.st (fun _ => XS.aloadN X1.here hx rfl (hb hby od21_22) rfl rfl) ?_
  show Go _ _ _ _ (T1.setTop (mkF m 23 #[lR p0, lI (34 : Int32), lR b1] [(.ref p0), (.int 0), (.ref b1), (.int 0), (.ref p0)]))
  have c2 := (hp0.ext E1)
  refine Go.st (fun _ => own_len X1 hx hZ e1 c2 (g := (mkF m 23 #[lR p0, lI (34 : Int32), lR b1] [(.ref p0), (.int 0), (.ref b1), (.int 0), (.ref p0)])) rfl rfl (hb hby od21_23) _) ?_
  show Go _ _ _ _ (T1.setTop (mkF m 24 #[lR p0, lI (34 : Int32), lR b1] [(.int 16), (.int 0), (.ref b1), (.int 0), (.ref p0)]))
  refine Go.st (fun _ => XS.iloadN X1.here hx rfl (hb hby od21_24) rfl) ?_
  show Go _ _ _ _ (T1.setTop (mkF m 25 #[lR p0, lI (34 : Int32), lR b1] [(.int 34), (.int 16), (.int 0), (.ref b1), (.int 0), (.ref p0)]))
  obtain ⟨_, _, ⟨T3, L3, k3, n3⟩, -, X3, ⟨Lc3, hQ3, l3, y3, z3⟩, st3⟩ := Jvm.LawKit.callS X1 hx (y := (⟨"java/lang/Math", "min", "(II)I"⟩ : MethodName)) hown (mvT hZ (ow hw 155 rfl)) (mvT hZ (ow hw 156 rfl)) (mvT hZ (ow hw 147 rfl)) (mvT hZ (ow hw 157 rfl)) (by decide) (backOf (W := 4) (rm_min l Z a0 hw [] g_CS S_CS nz_CS (16 : Int32) (34 : Int32) h1 n0 O1 (by decide)) hZ (ow hw 157 rfl) (ow hw 147 rfl) (by decide) (by decide)) (g := (mkF m 25 #[lR p0, lI (34 : Int32), lR b1] [(.int 34), (.int 16), (.int 0), (.ref b1), (.int 0), (.ref p0)])) rfl (by rw [hml]; rfl) (argsL := [(.int 16), (.int 34)]) (rest := [(.int 0), (.ref b1), (.int 0), (.ref p0)]) (lenOf own_pd11 rfl) rfl (by show 2 * 0 + _ ≤ _; exact Nat.le_of_eq rfl) (hb hby od21_25) (fun _ _ => ⟨rfl, e1, (by decide : 1 + 0 ≤ _), (by decide : 34 + 0 ≤ _)⟩)
  dsimp only [Pt.U, Pt.locs, Pt.cells, Pt.slots] at X3 l3 y3 z3 st3 hQ3
  subst y3 z3
  refine Go.st st3 ?_
  obtain ⟨rfl, N3q, e3⟩ := hQ3
  have N3 : Fr n0 L3 := by rw [l3]; exact Fr.app N0 N3q
  show Go _ _ _ _ (T3.setTop (mkF m 28 #[lR p0, lI (34 : Int32), lR b1] [(.int 16), (.int 0), (.ref b1), (.int 0), (.ref p0)]))
  obtain ⟨T4, L4, X4, N4d, K4q, A4, st4⟩ := own_acopy X3 hx hZ e3 hown (mvT hZ (ow hw 158 rfl)) (mvT hZ (ow hw 119 rfl)) (mvT hZ (ow hw 117 rfl)) (mvT hZ (ow hw 118 rfl)) c2 V1 (o := 0) (q := 0) (n := 16) (ws := va) (by decide) (by decide) (fun i _ => own_cpws hvl i) (g := (mkF m 28 #[lR p0, lI (34 : Int32), lR b1] [(.int 16), (.int 0), (.ref b1), (.int 0), (.ref p0)])) rfl (by rw [hml]; rfl) rfl rfl rfl rfl (hb hby od21_28) (by decide) (by show 2 * 0 + 0 + (nativeFrameWords "java/lang/System" "arraycopy" 5 + 11) ≤ _; decide)
  refine Go.st st4 ?_
  have N4 := Fr.app N3 (N4d _ g_b1)
  have O4 := O1.keep K4q (allS g_b1 all0)
  have K4 : Keep h0 T4.heap [] := K1.trans K4q (allS (Or.inr sz_b1) all0)
  show Go _ _ _ _ (T4.setTop (mkF m 31 #[lR p0, lI (34 : Int32), lR b1] []))
  refine Go.st (fun _ => XS.aloadN X4.here hx rfl (hb hby od21_31) rfl rfl) ?_
  show Go _ _ _ _ (T4.setTop (mkF m 32 #[lR p0, lI (34 : Int32), lR b1] [(.ref b1)]))
  obtain ⟨fs, hr, hrun, hended, hW, hsame⟩ := X4.leave (v := some (.ref b1)) (fun h => by rw [Bd.returns] at h; cases h)
  refine ⟨_, ?_, hPend _ _ hrun hended ⟨_, _, rfl, ?_, ⟨_, rfl⟩, hW, hsame.mono (by decide) (by decide)⟩⟩
  · exact retOut X4 hx (t := (.array .byte)) Bd.returns rfl (Or.inr (Or.inr (Or.inr (Or.inr ⟨rfl, rfl, rfl⟩)))) (hb hby od21_32) hr
  · show Q_rm_cpof Z _ _ _ _ h0 n0 _ T4.heap _
    have c5 := (B1.keep K4q)
    exact ⟨b1, k1, rfl, N4, K4, sz_b1, c5, A4⟩
theorem own_ef_rm_ensg (m : MethodId) (x0 : Addr) (x1 : Int32) : entryFrame m #[(.ref x0), (.int x1)] 3 = mkF m 0 #[.val (.ref x0), .val (.int x1), .unset] [] := by first | (simp [entryFrame, mkF, argsToLocals, Value.category]; done) | rfl
theorem od11_17 : decode jdk_68_method_9_code 17 = .ok (.aload_n 0, 1) := by decide +kernel
theorem od11_18 : decode jdk_68_method_9_code 18 = .ok (.aload_n 0, 1) := by decide +kernel
theorem od11_19 : decode jdk_68_method_9_code 19 = .ok (.getfield 15, 3) := by decide +kernel
theorem od11_22 : decode jdk_68_method_9_code 22 = .ok (.aload_n 0, 1) := by decide +kernel
theorem od11_23 : decode jdk_68_method_9_code 23 = .ok (.iload_n 1, 1) := by decide +kernel
theorem od11_24 : decode jdk_68_method_9_code 24 = .ok (.invokevirtual 104, 3) := by decide +kernel
theorem own_pd13 : parseMethodDescriptor "(I)I" = some ⟨[.int], some .int⟩ := by decide +kernel
theorem od11_27 : decode jdk_68_method_9_code 27 = .ok (.aload_n 0, 1) := by decide +kernel
theorem od11_28 : decode jdk_68_method_9_code 28 = .ok (.getfield 22, 3) := by decide +kernel
theorem od11_31 : decode jdk_68_method_9_code 31 = .ok (.ishl, 1) := by decide +kernel
theorem od11_32 : decode jdk_68_method_9_code 32 = .ok (.invokestatic 108, 3) := by decide +kernel
theorem own_pd14 : parseMethodDescriptor "([BI)[B" = some ⟨[(.array .byte), .int], some (.array .byte)⟩ := by decide +kernel
theorem od11_35 : decode jdk_68_method_9_code 35 = .ok (.putfield 15, 3) := by decide +kernel
def Q_rm_ensg (Z : State) (g_CS : Int32) (p0 : Addr) (p1 : Int32) (arr : Addr) (ka : ClassId) (va : List Value) (nn : Int32) (h0 : Heap) (n0 : Nat) (v : Option Value) (h : Heap) (L : List Loc) : Prop := ∃ (ob : Addr) (kb : ClassId), v = none ∧ Fr n0 L ∧ Keep h0 h [p0] ∧ h0.size ≤ ob ∧ Exa Z h p0 "java/lang/StringBuilder" ∧ Fld Z h p0 "java/lang/AbstractStringBuilder" "value" "[B" (.ref ob) ∧ Fld Z h p0 "java/lang/AbstractStringBuilder" "coder" "B" (.int 0) ∧ Fld Z h p0 "java/lang/AbstractStringBuilder" "count" "I" (.int nn) ∧ Exa Z h ob "[B" ∧ Arv Z h ob kb .byte (34 : Int32) va (.int 0)
set_option maxRecDepth 65536 in
set_option maxHeartbeats 40000000 in
theorem rm_ensg (l : Launch) (Z : State) (a0 : Array Value) (hw : ∀ d ∈ tables_1, d.before a0 Z = true) (ws : List Jvm.Cond) (g_CS : Int32) (S_CS : Sta Z Z.heap "java/lang/String" "COMPACT_STRINGS" "Z" (.int g_CS)) (nz_CS : ¬ (g_CS = (0 : Int32))) (p0 : Addr) (p1 : Int32) (arr : Addr) (ka : ClassId) (va : List Value) (nn : Int32) (h0 : Heap) (n0 : Nat) (X00 : Old Z n0 h0) (hp0 : Exa Z h0 p0 "java/lang/StringBuilder") (hp1 : Fld Z h0 p0 "java/lang/AbstractStringBuilder" "value" "[B" (.ref arr)) (hp2 : Fld Z h0 p0 "java/lang/AbstractStringBuilder" "coder" "B" (.int 0)) (hp3 : Fld Z h0 p0 "java/lang/AbstractStringBuilder" "count" "I" (.int nn)) (hp4 : Arv Z h0 arr ka .byte (16 : Int32) va (.int 0)) (hp5 : n0 ≤ p0) (hgr : (0 : Int32) < (p1 - (16 : Int32)) ∧ (p1 - (16 : Int32)) < (18 : Int32)) (hvl : va.length ≤ 16) :
    MetFree l (⟨"java/lang/AbstractStringBuilder", "ensureCapacityInternal", "(I)V"⟩ : MethodName) (head1 (Jvm.Cond.code (⟨"java/lang/AbstractStringBuilder", "ensureCapacityInternal", "(I)V"⟩ : MethodName) jdk_68_method_9_code 3 none :: ws) ({ frames := 3, cells := 1, slots := 34, locals := 48 } : Room)) (fun a U => a = #[(.ref p0), (.int p1)] ∧ Z.Warmed39 U.vm ∧ U.heap = h0) (fun _ _ _ _ _ => True) (fun _ U o U' => ∃ v L, o = .returned v ∧ Q_rm_ensg Z g_CS p0 p1 arr ka va nn h0 n0 v U'.heap L ∧ FrameEnd U o U' L ({ frames := 3, cells := 1, slots := 34, locals := 48 } : Room).cells ({ frames := 3, cells := 1, slots := 34, locals := 48 } : Room).slots) := by
  refine MetFree.of_bodySF (plainFor_of_name own_pn4) hisR ?_
  intro p e s m args below meth c s₁ Bd hml0 hP hK
  obtain ⟨rfl, hZ, hh⟩ := hP
  have hx := Bd.exec
  have hby := Bd.bytes
  have hml : c.maxLocals = 3 := hml0
  have hown : s.vm.findClass "java/lang/AbstractStringBuilder" = some m.cls := findClass_of_methodNamed Bd.named
  have hnm := (name_of_methodNamed Bd.named Bd.method).1
  have X0 : Stand p l e ({ frames := 3, cells := 1, slots := 34, locals := 48 } : Room) s m #[(.ref p0), (.int p1)] below meth c s₁ [] 0 0 := Stand.of_body Bd
  have e0 : s₁.heap = h0 := by rw [← hh, Bd.state]; rfl
  have N0 := Fr.nil n0
  refine Go.start fun P hPend => ?_
  refine Go.st (fun _ k => castTop (own_ef_rm_ensg m p0 p1) k) ?_
  show Go _ _ _ _ (s₁.setTop (mkF m 0 #[lR p0, lI p1, lU] []))
  refine Go.st (fun _ => XS.aloadN X0.here hx rfl (hb hby od11_0) rfl rfl) ?_
  show Go _ _ _ _ (s₁.setTop (mkF m 1 #[lR p0, lI p1, lU] [(.ref p0)]))
  obtain ⟨T1, X1, e1, st1⟩ := getF X0 hx hZ hown (host := "") (Or.inl (ow hw 68 rfl)) Via.refl e0 hp1 (g := (mkF m 1 #[lR p0, lI p1, lU] [(.ref p0)])) rfl rfl (hb hby od11_1)
  refine Go.st st1 ?_
  show Go _ _ _ _ (T1.setTop (mkF m 4 #[lR p0, lI p1, lU] [(.ref arr)]))
  refine Go.st (fun _ => own_len X1 hx hZ e1 hp4 (g := (mkF m 4 #[lR p0, lI p1, lU] [(.ref arr)])) rfl rfl (hb hby od11_4) _) ?_
  show Go _ _ _ _ (T1.setTop (mkF m 5 #[lR p0, lI p1, lU] [(.int 16)]))
  refine Go.st (fun _ => XS.aloadN X1.here hx rfl (hb hby od11_5) rfl rfl) ?_
  show Go _ _ _ _ (T1.setTop (mkF m 6 #[lR p0, lI p1, lU] [(.ref p0), (.int 16)]))
  obtain ⟨T2, X2, e2, st2⟩ := getF X1 hx hZ hown (host := "") (Or.inl (ow hw 70 rfl)) Via.refl e1 hp2 (g := (mkF m 6 #[lR p0, lI p1, lU] [(.ref p0), (.int 16)])) rfl rfl (hb hby od11_6)
  refine Go.st st2 ?_
  show Go _ _ _ _ (T2.setTop (mkF m 9 #[lR p0, lI p1, lU] [(.int 0), (.int 16)]))
  refine Go.st (fun _ => XS.ishr X2.here hx rfl (hb hby od11_9) rfl) ?_
  show Go _ _ _ _ (T2.setTop (mkF m 10 #[lR p0, lI p1, lU] [(.int ((16 : Int32) >>> ((0 : Int32) &&& 31)))]))
  rw [show ((16 : Int32) >>> ((0 : Int32) &&& 31)) = (16 : Int32) from own_ishr0 _]
  show Go _ _ _ _ (T2.setTop (mkF m 10 #[lR p0, lI p1, lU] [(.int 16)]))
  refine Go.st (fun _ => XS.istoreN X2.here hx rfl (hb hby od11_10) rfl (l' := #[lR p0, lI p1, lI (16 : Int32)]) rfl) ?_
  show Go _ _ _ _ (T2.setTop (mkF m 11 #[lR p0, lI p1, lI (16 : Int32)] []))
  refine Go.st (fun _ => XS.iloadN X2.here hx rfl (hb hby od11_11) rfl) ?_
  refine Go.st (fun _ => XS.iloadN X2.here hx rfl (hb hby od11_12) rfl) ?_
  show Go _ _ _ _ (T2.setTop (mkF m 13 #[lR p0, lI p1, lI (16 : Int32)] [(.int 16), (.int p1)]))
  refine Go.st (fun _ => XS.isub X2.here hx rfl (hb hby od11_13) rfl) ?_
  show Go _ _ _ _ (T2.setTop (mkF m 14 #[lR p0, lI p1, lI (16 : Int32)] [(.int (p1 - (16 : Int32)))]))
  have hb3 : (0 : Int32) < (p1 - (16 : Int32)) := hgr.1
  refine Go.st (fun _ => XS.ifNo X2.here hx rfl (hb hby od11_14) rfl ((if0 _ _).trans (tlt hb3).2.2.2)) ?_
  show Go _ _ _ _ (T2.setTop (mkF m 17 #[lR p0, lI p1, lI (16 : Int32)] []))
  refine Go.st (fun _ => XS.aloadN X2.here hx rfl (hb hby od11_17) rfl rfl) ?_
  refine Go.st (fun _ => XS.aloadN X2.here hx rfl (hb hby od11_18) rfl rfl) ?_
  show Go _ _ _ _ (T2.setTop (mkF m 19 #[lR p0, lI p1, lI (16 : Int32)] [(.ref p0), (.ref p0)]))
  obtain ⟨T4, X4, e4, st4⟩ := getF X2 hx hZ hown (host := "") (Or.inl (ow hw 68 rfl)) Via.refl e2 hp1 (g := (mkF m 19 #[lR p0, lI p1, lI (16 : Int32)] [(.ref p0), (.ref p0)])) rfl rfl (hb hby od11_19)
  refine Go.st st4 ?_
  show Go _ _ _ _ (T4.setTop (mkF m 22 #[lR p0, lI p1, lI (16 : Int32)] [(.ref arr), (.ref p0)]))
  refine Go.st (fun _ => XS.aloadN X4.here hx rfl (hb hby od11_22) rfl rfl) ?_
  refine Go.st (fun _ => XS.iloadN X4.here hx rfl (hb hby od11_23) rfl) ?_
  show Go _ _ _ _ (T4.setTop (mkF m 24 #[lR p0, lI p1, lI (16 : Int32)] [(.int p1), (.ref p0), (.ref arr), (.ref p0)]))
  obtain ⟨cq5, kq5, q5a, q5b, q5c⟩ := isOf hZ e4 hp0
  obtain ⟨_, _, ⟨T5, L5, k5, n5⟩, -, X5, ⟨Lc5, hQ5, l5, y5, z5⟩, st5⟩ := X4.virtualBack hx (y := (⟨"java/lang/AbstractStringBuilder", "newCapacity", "(I)I"⟩ : MethodName)) (z := (⟨"java/lang/AbstractStringBuilder", "newCapacity", "(I)I"⟩ : MethodName)) hown (mvT hZ (ow hw 136 rfl)) (mvT hZ (own_declares (ow hw 137 rfl) (ow hw 140 rfl))) (notFace_of_selects (args := #[]) (mvT hZ (ow hw 139 rfl))) (mvT hZ (ow hw 139 rfl)) (mvT hZ (ow hw 137 rfl)) (by decide) (backOf (W := 2) (rm_newc l Z a0 hw [] g_CS S_CS nz_CS p0 p1 arr ka va h0 n0 X00 hp1 hp2 hp4 hgr) hZ (ow hw 140 rfl) (ow hw 64 rfl) (by decide) (by decide)) q5a q5c (g := (mkF m 24 #[lR p0, lI p1, lI (16 : Int32)] [(.int p1), (.ref p0), (.ref arr), (.ref p0)])) rfl (by rw [hml]; rfl) (Steps.refl _) (argsL := [(.int p1)]) (rest := [(.ref arr), (.ref p0)]) (lenOf own_pd13 rfl) rfl (by show 2 * 0 + _ ≤ _; exact Nat.le_of_eq rfl) (hb hby od11_24) (fun _ _ => ⟨rfl, e4, (by decide : 0 + 0 ≤ _), (by decide : 0 + 0 ≤ _)⟩)
  dsimp only [Pt.U, Pt.locs, Pt.cells, Pt.slots] at X5 l5 y5 z5 st5 hQ5
  subst y5 z5
  refine Go.tr st5 ?_
  obtain ⟨rfl, N5q, e5⟩ := hQ5
  have N5 : Fr n0 L5 := by rw [l5]; exact Fr.app N0 N5q
  show Go _ _ _ _ (T5.setTop (mkF m 27 #[lR p0, lI p1, lI (16 : Int32)] [(.int 34), (.ref arr), (.ref p0)]))
  refine Go.st (fun _ => XS.aloadN X5.here hx rfl (hb hby od11_27) rfl rfl) ?_
  show Go _ _ _ _ (T5.setTop (mkF m 28 #[lR p0, lI p1, lI (16 : Int32)] [(.ref p0), (.int 34), (.ref arr), (.ref p0)]))
  obtain ⟨T6, X6, e6, st6⟩ := getF X5 hx hZ hown (host := "") (Or.inl (ow hw 70 rfl)) Via.refl e5 hp2 (g := (mkF m 28 #[lR p0, lI p1, lI (16 : Int32)] [(.ref p0), (.int 34), (.ref arr), (.ref p0)])) rfl rfl (hb hby od11_28)
  refine Go.st st6 ?_
  show Go _ _ _ _ (T6.setTop (mkF m 31 #[lR p0, lI p1, lI (16 : Int32)] [(.int 0), (.int 34), (.ref arr), (.ref p0)]))
  refine Go.st (fun _ => XS.ishl X6.here hx rfl (hb hby od11_31) rfl) ?_
  show Go _ _ _ _ (T6.setTop (mkF m 32 #[lR p0, lI p1, lI (16 : Int32)] [(.int ((34 : Int32) <<< ((0 : Int32) &&& 31))), (.ref arr), (.ref p0)]))
  rw [show ((34 : Int32) <<< ((0 : Int32) &&& 31)) = (34 : Int32) from own_ishl0 _]
  show Go _ _ _ _ (T6.setTop (mkF m 32 #[lR p0, lI p1, lI (16 : Int32)] [(.int 34), (.ref arr), (.ref p0)]))
  obtain ⟨_, _, ⟨T7, L7, k7, n7⟩, -, X7, ⟨Lc7, hQ7, l7, y7, z7⟩, st7⟩ := Jvm.LawKit.callS X6 hx (y := (⟨"java/util/Arrays", "copyOf", "([BI)[B"⟩ : MethodName)) hown (mvT hZ (ow hw 151 rfl)) (mvT hZ (ow hw 152 rfl)) (mvT hZ (ow hw 153 rfl)) (mvT hZ (ow hw 154 rfl)) (by decide) (backOf (W := 1) (rm_cpof l Z a0 hw [] g_CS S_CS nz_CS arr ka va h0 n0 X00 hp4 hvl) hZ (ow hw 154 rfl) (ow hw 153 rfl) (by decide) (by decide)) (g := (mkF m 32 #[lR p0, lI p1, lI (16 : Int32)] [(.int 34), (.ref arr), (.ref p0)])) rfl (by rw [hml]; rfl) (argsL := [(.ref arr), (.int 34)]) (rest := [(.ref p0)]) (lenOf own_pd14 rfl) rfl (by show 2 * 0 + _ ≤ _; exact Nat.le_of_eq rfl) (hb hby od11_32) (fun _ _ => ⟨rfl, e6, (by decide : 0 + 1 ≤ _), (by decide : 0 + 34 ≤ _)⟩)
  dsimp only [Pt.U, Pt.locs, Pt.cells, Pt.slots] at X7 l7 y7 z7 st7 hQ7
  subst y7 z7
  refine Go.st st7 ?_
  obtain ⟨ob_8, kb_9, rfl, N7q, K7q, q7_0, q7_1, q7_2⟩ := hQ7
  have N7 : Fr n0 L7 := by rw [l7]; exact Fr.app N5 N7q
  have O7 := X00.keep K7q all0
  have K7 : Keep h0 T7.heap [p0] := (Keep.refl h0 [p0]).trans K7q all0
  have sz_ob_8 : h0.size ≤ ob_8 := Nat.le_trans (Keep.refl h0 [p0]).1 q7_0
  have g_ob_8 : n0 ≤ ob_8 := Nat.le_trans (own_oldsz X00) sz_ob_8
  show Go _ _ _ _ (T7.setTop (mkF m 35 #[lR p0, lI p1, lI (16 : Int32)] [(.ref ob_8), (.ref p0)]))
  have c10 := (hp1.keep K7q nin0)
  have c11 := (hp0.keep K7q)
  obtain ⟨T12, h12, X12, e12, W12, st12⟩ := putF X7 hx hZ hown (host := "") (Or.inl (ow hw 68 rfl)) Via.refl rfl c10 c11 (Or.inl (ow hw 69 rfl)) (ow hw 55 rfl) (ty := (.array .byte)) (by decide) rfl rfl (g := (mkF m 35 #[lR p0, lI p1, lI (16 : Int32)] [(.ref ob_8), (.ref p0)])) rfl rfl (hb hby od11_35)
  refine Go.st st12 ?_
  have K12 : Keep h0 h12 [p0] := K7.wr W12 (Or.inl (List.mem_of_getElem? (i := 0) rfl))
  have O12 := O7.wr W12 hp5
  have N12 := Fr.snoc X12 N7 hp5
  have F12 := c10.same W12
  show Go _ _ _ _ (T12.setTop (mkF m 38 #[lR p0, lI p1, lI (16 : Int32)] []))
  obtain ⟨fs, hr, hrun, hended, hW, hsame⟩ := X12.leave (v := none) (fun _ => rfl)
  refine ⟨_, ?_, hPend _ _ hrun hended ⟨_, _, rfl, ?_, ⟨_, rfl⟩, hW, hsame.mono (by decide) (by decide)⟩⟩
  · exact X12.returnOut hx Bd.returns (hb hby od11_38) hr
  · show Q_rm_ensg Z _ _ _ _ _ _ _ h0 n0 _ T12.heap _
    rw [e12]
    have c13 := (c11.wr W12)
    have c14 := ((hp2.keep K7q nin0).other W12 (Or.inr (slot_ne (Or.inl (ow hw 71 rfl)) (Or.inl (ow hw 69 rfl)) (by decide) (t := .byte) (t' := (.array .byte)) (by decide) (by decide))))
    have c15 := ((hp3.keep K7q nin0).other W12 (Or.inr (slot_ne (Or.inl (ow hw 94 rfl)) (Or.inl (ow hw 69 rfl)) (by decide) (t := .int) (t' := (.array .byte)) (by decide) (by decide))))
    have c16 := (q7_1.wr W12)
    have c17 := (q7_2.other W12 (Ne.symm (Nat.ne_of_lt (Nat.lt_of_lt_of_le hp0.lt q7_0))))
    exact ⟨ob_8, kb_9, rfl, N12, K12, sz_ob_8, c13, F12, c14, c15, c16, c17⟩
theorem own_ef_rm_appg (m : MethodId) (x0 : Addr) (x1 : Addr) : entryFrame m #[(.ref x0), (.ref x1)] 3 = mkF m 0 #[.val (.ref x0), .val (.ref x1), .unset] [] := by first | (simp [entryFrame, mkF, argsToLocals, Value.category]; done) | rfl
def Q_rm_appg (Z : State) (g_CS : Int32) (p0 : Addr) (p1 : Addr) (pcs : List Int32) (arr : Addr) (ka : ClassId) (qcs : List Int32) (qv : Addr) (qk : ClassId) (h0 : Heap) (n0 : Nat) (v : Option Value) (h : Heap) (L : List Loc) : Prop := ∃ (ob : Addr) (kb : ClassId), v = some (.ref p0) ∧ Fr n0 L ∧ Keep h0 h [p0] ∧ h0.size ≤ ob ∧ Exa Z h p0 "java/lang/StringBuilder" ∧ Fld Z h p0 "java/lang/AbstractStringBuilder" "value" "[B" (.ref ob) ∧ Fld Z h p0 "java/lang/AbstractStringBuilder" "coder" "B" (.int 0) ∧ Fld Z h p0 "java/lang/AbstractStringBuilder" "count" "I" (.int (Int32.ofNat (pcs ++ qcs).length)) ∧ Exa Z h ob "[B" ∧ Arv Z h ob kb .byte (34 : Int32) (((pcs ++ qcs).map StrChars.lo8).map Value.int) (.int 0)
set_option maxRecDepth 65536 in
set_option maxHeartbeats 40000000 in
theorem rm_appg (l : Launch) (Z : State) (a0 : Array Value) (hw : ∀ d ∈ tables_1, d.before a0 Z = true) (ws : List Jvm.Cond) (g_CS : Int32) (S_CS : Sta Z Z.heap "java/lang/String" "COMPACT_STRINGS" "Z" (.int g_CS)) (nz_CS : ¬ (g_CS = (0 : Int32))) (p0 : Addr) (p1 : Addr) (pcs : List Int32) (arr : Addr) (ka : ClassId) (qcs : List Int32) (qv : Addr) (qk : ClassId) (h0 : Heap) (n0 : Nat) (X00 : Old Z n0 h0) (hp0 : Exa Z h0 p0 "java/lang/StringBuilder") (hp1 : Fld Z h0 p0 "java/lang/AbstractStringBuilder" "value" "[B" (.ref arr)) (hp2 : Fld Z h0 p0 "java/lang/AbstractStringBuilder" "coder" "B" (.int 0)) (hp3 : Fld Z h0 p0 "java/lang/AbstractStringBuilder" "count" "I" (.int (Int32.ofNat pcs.length))) (hp4 : Exa Z h0 arr "[B") (hp5 : Arv Z h0 arr ka .byte (16 : Int32) ((pcs.map StrChars.lo8).map Value.int) (.int 0)) (hp6 : n0 ≤ p0) (hp7 : n0 ≤ arr) (hp8 : Exa Z h0 p1 "java/lang/String") (hp9 : Fld Z h0 p1 "java/lang/String" "coder" "B" (.int 0)) (hp10 : Fld Z h0 p1 "java/lang/String" "value" "[B" (.ref qv)) (hp11 : Arv Z h0 qv qk .byte (Int32.ofNat qcs.length) ((qcs.map StrChars.lo8).map Value.int) (.int 0)) (hpcq : ∀ c ∈ qcs, ¬ c < 0 ∧ ¬ (255 : Int32) < c) (hleq : qcs.length ≤ 4000) (hpl : pcs.length ≤ 16) (hg1 : 16 < (pcs ++ qcs).length) (hg2 : (pcs ++ qcs).length < 34) :
    MetFree l (⟨"java/lang/AbstractStringBuilder", "append", "(Ljava/lang/String;)Ljava/lang/AbstractStringBuilder;"⟩ : MethodName) (head1 (Jvm.Cond.code (⟨"java/lang/AbstractStringBuilder", "append", "(Ljava/lang/String;)Ljava/lang/AbstractStringBuilder;"⟩ : MethodName) jdk_68_method_22_code 3 (some (.object "java/lang/AbstractStringBuilder")) :: ws) ({ frames := 4, cells := 1, slots := 34, locals := 62 } : Room)) (fun a U => a = #[(.ref p0), (.ref p1)] ∧ Z.Warmed39 U.vm ∧ U.heap = h0) (fun _ _ _ _ _ => True) (fun _ U o U' => ∃ v L, o = .returned v ∧ Q_rm_appg Z g_CS p0 p1 pcs arr ka qcs qv qk h0 n0 v U'.heap L ∧ FrameEnd U o U' L ({ frames := 4, cells := 1, slots := 34, locals := 62 } : Room).cells ({ frames := 4, cells := 1, slots := 34, locals := 62 } : Room).slots) := by
  refine MetFree.of_bodySF (plainFor_of_name own_pn4) hisR ?_
  intro p e s m args below meth c s₁ Bd hml0 hP hK
  obtain ⟨rfl, hZ, hh⟩ := hP
  have hx := Bd.exec
  have hby := Bd.bytes
  have hml : c.maxLocals = 3 := hml0
  have hown : s.vm.findClass "java/lang/AbstractStringBuilder" = some m.cls := findClass_of_methodNamed Bd.named
  have hnm := (name_of_methodNamed Bd.named Bd.method).1
  have X0 : Stand p l e ({ frames := 4, cells := 1, slots := 34, locals := 62 } : Room) s m #[(.ref p0), (.ref p1)] below meth c s₁ [] 0 0 := Stand.of_body Bd
  have e0 : s₁.heap = h0 := by rw [← hh, Bd.state]; rfl
  have N0 := Fr.nil n0
  refine Go.start fun P hPend => ?_
  refine Go.st (fun _ k => castTop (own_ef_rm_appg m p0 p1) k) ?_
  show Go _ _ _ _ (s₁.setTop (mkF m 0 #[lR p0, lR p1, lU] []))
  refine Go.st (fun _ => XS.aloadN X0.here hx rfl (hb hby od15_0) rfl rfl) ?_
  show Go _ _ _ _ (s₁.setTop (mkF m 1 #[lR p0, lR p1, lU] [(.ref p1)]))
  refine Go.st (fun _ => XS.ifnonnullYes X0.here hx rfl (pc0 := 1) (pc' := 9) rfl (hb hby od15_1) rfl (by decide) (by decide)) ?_
  show Go _ _ _ _ (s₁.setTop (mkF m 9 #[lR p0, lR p1, lU] []))
  refine Go.st (fun _ => XS.aloadN X0.here hx rfl (hb hby od15_9) rfl rfl) ?_
  show Go _ _ _ _ (s₁.setTop (mkF m 10 #[lR p0, lR p1, lU] [(.ref p1)]))
  have hcd1 : StrChars.Road.CodA qcs 0 (Int32.ofNat qcs.length) ((qcs.map StrChars.lo8).map Value.int) := StrChars.Road.codOf (n := qcs.length) rfl (fun c hc => (hpcq c hc).2)
  obtain ⟨cq1, kq1, q1a, q1b, q1c⟩ := isOf hZ e0 hp8
  obtain ⟨_, _, ⟨T1, L1, k1, n1⟩, -, X1, ⟨Lc1, hQ1, l1, y1, z1⟩, st1⟩ := X0.virtualBack hx (y := (⟨"java/lang/String", "length", "()I"⟩ : MethodName)) (z := (⟨"java/lang/String", "length", "()I"⟩ : MethodName)) hown (mvT hZ (ow hw 83 rfl)) (mvT hZ (ow hw 84 rfl)) (notFace_of_selects (args := #[]) (mvT hZ (ow hw 86 rfl))) (mvT hZ (ow hw 86 rfl)) (mvT hZ (ow hw 85 rfl)) (by decide) (StrChars.Road.lenW (W := 0) hZ (fun d hd => hw d (own_wLen d hd)) (kI := 4) (ow hw 10 rfl) hp8 hp10 hp9 hp11 hcd1 (own_up _ hpcq) (S_CS.ext X00.2) nz_CS hleq (by decide) (by decide)) q1a q1c (g := (mkF m 10 #[lR p0, lR p1, lU] [(.ref p1)])) rfl (by rw [hml]; rfl) (Steps.refl _) (argsL := []) (rest := []) (lenOf own_pd8 rfl) rfl (by show 2 * 0 + _ ≤ _; exact Nat.le_of_eq rfl) (hb hby od15_10) (fun _ _ => ⟨rfl, e0, (by decide : 0 + 0 ≤ _), (by decide : 0 + 0 ≤ _)⟩)
  dsimp only [Pt.U, Pt.locs, Pt.cells, Pt.slots] at X1 l1 y1 z1 st1 hQ1
  subst y1 z1
  refine Go.tr st1 ?_
  obtain ⟨rfl, rfl, e1⟩ := hQ1
  have N1 : Fr n0 L1 := by rw [l1]; exact Fr.app N0 (Fr.nil n0)
  show Go _ _ _ _ (T1.setTop (mkF m 13 #[lR p0, lR p1, lU] [(.int (Int32.ofNat qcs.length))]))
  refine Go.st (fun _ => XS.istoreN X1.here hx rfl (hb hby od15_13) rfl (l' := #[lR p0, lR p1, lI (Int32.ofNat qcs.length)]) rfl) ?_
  show Go _ _ _ _ (T1.setTop (mkF m 14 #[lR p0, lR p1, lI (Int32.ofNat qcs.length)] []))
  refine Go.st (fun _ => XS.aloadN X1.here hx rfl (hb hby od15_14) rfl rfl) ?_
  refine Go.st (fun _ => XS.aloadN X1.here hx rfl (hb hby od15_15) rfl rfl) ?_
  show Go _ _ _ _ (T1.setTop (mkF m 16 #[lR p0, lR p1, lI (Int32.ofNat qcs.length)] [(.ref p0), (.ref p0)]))
  obtain ⟨T2, X2, e2, st2⟩ := getF X1 hx hZ hown (host := "") (Or.inl (ow hw 93 rfl)) Via.refl e1 hp3 (g := (mkF m 16 #[lR p0, lR p1, lI (Int32.ofNat qcs.length)] [(.ref p0), (.ref p0)])) rfl rfl (hb hby od15_16)
  refine Go.st st2 ?_
  show Go _ _ _ _ (T2.setTop (mkF m 19 #[lR p0, lR p1, lI (Int32.ofNat qcs.length)] [(.int (Int32.ofNat pcs.length)), (.ref p0)]))
  refine Go.st (fun _ => XS.iloadN X2.here hx rfl (hb hby od15_19) rfl) ?_
  show Go _ _ _ _ (T2.setTop (mkF m 20 #[lR p0, lR p1, lI (Int32.ofNat qcs.length)] [(.int (Int32.ofNat qcs.length)), (.int (Int32.ofNat pcs.length)), (.ref p0)]))
  refine Go.st (fun _ => XS.iadd X2.here hx rfl (hb hby od15_20) rfl) ?_
  show Go _ _ _ _ (T2.setTop (mkF m 21 #[lR p0, lR p1, lI (Int32.ofNat qcs.length)] [(.int ((Int32.ofNat pcs.length) + (Int32.ofNat qcs.length))), (.ref p0)]))
  rw [own_lenapp pcs qcs]
  show Go _ _ _ _ (T2.setTop (mkF m 21 #[lR p0, lR p1, lI (Int32.ofNat qcs.length)] [(.int (Int32.ofNat (pcs ++ qcs).length)), (.ref p0)]))
  obtain ⟨cq3, kq3, q3a, q3b, q3c⟩ := isOf hZ e2 hp0
  obtain ⟨_, _, ⟨T3, L3, k3, n3⟩, -, X3, ⟨Lc3, hQ3, l3, y3, z3⟩, st3⟩ := X2.virtualBack hx (y := (⟨"java/lang/AbstractStringBuilder", "ensureCapacityInternal", "(I)V"⟩ : MethodName)) (z := (⟨"java/lang/AbstractStringBuilder", "ensureCapacityInternal", "(I)V"⟩ : MethodName)) hown (mvT hZ (ow hw 95 rfl)) (mvT hZ (own_declares (ow hw 96 rfl) (ow hw 99 rfl))) (notFace_of_selects (args := #[]) (mvT hZ (ow hw 98 rfl))) (mvT hZ (ow hw 98 rfl)) (mvT hZ (ow hw 96 rfl)) (by decide) (backOf (W := 0) (rm_ensg l Z a0 hw [] g_CS S_CS nz_CS p0 (Int32.ofNat (pcs ++ qcs).length) arr ka ((pcs.map StrChars.lo8).map Value.int) (Int32.ofNat pcs.length) h0 n0 X00 hp0 hp1 hp2 hp3 hp5 hp6 (own_grow hg1 hg2) (by rw [List.length_map, List.length_map]; exact hpl)) hZ (ow hw 99 rfl) (ow hw 64 rfl) (by decide) (by decide)) q3a q3c (g := (mkF m 21 #[lR p0, lR p1, lI (Int32.ofNat qcs.length)] [(.int (Int32.ofNat (pcs ++ qcs).length)), (.ref p0)])) rfl (by rw [hml]; rfl) (Steps.refl _) (argsL := [(.int (Int32.ofNat (pcs ++ qcs).length))]) (rest := []) (lenOf own_pd4 rfl) rfl (by show 2 * 0 + _ ≤ _; exact Nat.le_of_eq rfl) (hb hby od15_21) (fun _ _ => ⟨rfl, e2, (by decide : 0 + 1 ≤ _), (by decide : 0 + 34 ≤ _)⟩)
  dsimp only [Pt.U, Pt.locs, Pt.cells, Pt.slots] at X3 l3 y3 z3 st3 hQ3
  subst y3 z3
  refine Go.tr st3 ?_
  obtain ⟨ob_4, kb_5, rfl, N3q, K3q, q3_0, q3_1, q3_2, q3_3, q3_4, q3_5, q3_6⟩ := hQ3
  have N3 : Fr n0 L3 := by rw [l3]; exact Fr.app N1 N3q
  have O3 := X00.keep K3q (allS hp6 all0)
  have K3 : Keep h0 T3.heap [p0] := (Keep.refl h0 [p0]).trans K3q (allS (Or.inl (List.mem_of_getElem? (i := 0) rfl)) all0)
  have sz_ob_4 : h0.size ≤ ob_4 := Nat.le_trans (Keep.refl h0 [p0]).1 q3_0
  have g_ob_4 : n0 ≤ ob_4 := Nat.le_trans (own_oldsz X00) sz_ob_4
  show Go _ _ _ _ (T3.setTop (mkF m 24 #[lR p0, lR p1, lI (Int32.ofNat qcs.length)] []))
  refine Go.st (fun _ => XS.aloadN X3.here hx rfl (hb hby od15_24) rfl rfl) ?_
  refine Go.st (fun _ => XS.aloadN X3.here hx rfl (hb hby od15_25) rfl rfl) ?_
  show Go _ _ _ _ (T3.setTop (mkF m 26 #[lR p0, lR p1, lI (Int32.ofNat qcs.length)] [(.ref p0), (.ref p0)]))
  obtain ⟨T6, X6, e6, st6⟩ := getF X3 hx hZ hown (host := "") (Or.inl (ow hw 93 rfl)) Via.refl rfl q3_4 (g := (mkF m 26 #[lR p0, lR p1, lI (Int32.ofNat qcs.length)] [(.ref p0), (.ref p0)])) rfl rfl (hb hby od15_26)
  refine Go.st st6 ?_
  show Go _ _ _ _ (T6.setTop (mkF m 29 #[lR p0, lR p1, lI (Int32.ofNat qcs.length)] [(.int (Int32.ofNat pcs.length)), (.ref p0)]))
  refine Go.st (fun _ => XS.aloadN X6.here hx rfl (hb hby od15_29) rfl rfl) ?_
  show Go _ _ _ _ (T6.setTop (mkF m 30 #[lR p0, lR p1, lI (Int32.ofNat qcs.length)] [(.ref p1), (.int (Int32.ofNat pcs.length)), (.ref p0)]))
  have c8 := (hp8.keep K3q)
  have c9 := (hp9.keep K3q (ninS (Exa.ne hp8 hp0 (by decide)) nin0))
  have c10 := (hp10.keep K3q (ninS (Exa.ne hp8 hp0 (by decide)) nin0))
  have c11 := (hp11.keep K3q (ninS (Ne.symm (Exa.neArv hp0 hp11 (ow hw 55 rfl))) nin0))
  have c12 := (hp4.keep K3q)
  obtain ⟨cq7, kq7, q7a, q7b, q7c⟩ := isOf hZ e6 q3_1
  obtain ⟨_, _, ⟨T7, L7, k7, n7⟩, -, X7, ⟨Lc7, hQ7, l7, y7, z7⟩, st7⟩ := X6.virtualBack hx (y := (⟨"java/lang/AbstractStringBuilder", "putStringAt", "(ILjava/lang/String;)V"⟩ : MethodName)) (z := (⟨"java/lang/AbstractStringBuilder", "putStringAt", "(ILjava/lang/String;)V"⟩ : MethodName)) hown (mvT hZ (ow hw 100 rfl)) (mvT hZ (own_declares (ow hw 101 rfl) (ow hw 104 rfl))) (notFace_of_selects (args := #[]) (mvT hZ (ow hw 103 rfl))) (mvT hZ (ow hw 103 rfl)) (mvT hZ (ow hw 101 rfl)) (by decide) (backOf (W := 0) (rm_puts l Z a0 hw [] g_CS S_CS nz_CS p0 (Int32.ofNat pcs.length) p1 pcs ob_4 kb_5 (34 : Int32) qcs qv qk T3.heap n0 O3 q3_1 q3_2 q3_3 q3_5 q3_6 g_ob_4 c8 c9 c10 c11 hpcq hleq rfl (Nat.le_of_lt hg2)) hZ (ow hw 104 rfl) (ow hw 64 rfl) (by decide) (by decide)) q7a q7c (g := (mkF m 30 #[lR p0, lR p1, lI (Int32.ofNat qcs.length)] [(.ref p1), (.int (Int32.ofNat pcs.length)), (.ref p0)])) rfl (by rw [hml]; rfl) (Steps.refl _) (argsL := [(.int (Int32.ofNat pcs.length)), (.ref p1)]) (rest := []) (lenOf own_pd9 rfl) rfl (by show 2 * 0 + _ ≤ _; exact Nat.le_of_eq rfl) (hb hby od15_30) (fun _ _ => ⟨rfl, e6, (by decide : 1 + 0 ≤ _), (by decide : 34 + 0 ≤ _)⟩)
  dsimp only [Pt.U, Pt.locs, Pt.cells, Pt.slots] at X7 l7 y7 z7 st7 hQ7
  subst y7 z7
  refine Go.tr st7 ?_
  obtain ⟨rfl, N7q, K7q, q7_0⟩ := hQ7
  have N7 : Fr n0 L7 := by rw [l7]; exact Fr.app N3 N7q
  have O7 := O3.keep K7q (allS g_ob_4 all0)
  have K7 : Keep h0 T7.heap [p0] := K3.trans K7q (allS (Or.inr sz_ob_4) all0)
  show Go _ _ _ _ (T7.setTop (mkF m 33 #[lR p0, lR p1, lI (Int32.ofNat qcs.length)] []))
  refine Go.st (fun _ => XS.aloadN X7.here hx rfl (hb hby od15_33) rfl rfl) ?_
  refine Go.st (fun _ => XS.dup X7.here hx rfl (hb hby od15_34) rfl rfl) ?_
  show Go _ _ _ _ (T7.setTop (mkF m 35 #[lR p0, lR p1, lI (Int32.ofNat qcs.length)] [(.ref p0), (.ref p0)]))
  have c13 := (q3_4.keep K7q (ninS (Nat.ne_of_lt (Nat.lt_of_lt_of_le hp0.lt q3_0)) nin0))
  obtain ⟨T14, X14, e14, st14⟩ := getF X7 hx hZ hown (host := "") (Or.inl (ow hw 93 rfl)) Via.refl rfl c13 (g := (mkF m 35 #[lR p0, lR p1, lI (Int32.ofNat qcs.length)] [(.ref p0), (.ref p0)])) rfl rfl (hb hby od15_35)
  refine Go.st st14 ?_
  show Go _ _ _ _ (T14.setTop (mkF m 38 #[lR p0, lR p1, lI (Int32.ofNat qcs.length)] [(.int (Int32.ofNat pcs.length)), (.ref p0)]))
  refine Go.st (fun _ => XS.iloadN X14.here hx rfl (hb hby od15_38) rfl) ?_
  show Go _ _ _ _ (T14.setTop (mkF m 39 #[lR p0, lR p1, lI (Int32.ofNat qcs.length)] [(.int (Int32.ofNat qcs.length)), (.int (Int32.ofNat pcs.length)), (.ref p0)]))
  refine Go.st (fun _ => XS.iadd X14.here hx rfl (hb hby od15_39) rfl) ?_
  show Go _ _ _ _ (T14.setTop (mkF m 40 #[lR p0, lR p1, lI (Int32.ofNat qcs.length)] [(.int ((Int32.ofNat pcs.length) + (Int32.ofNat qcs.length))), (.ref p0)]))
  rw [own_lenapp pcs qcs]
  show Go _ _ _ _ (T14.setTop (mkF m 40 #[lR p0, lR p1, lI (Int32.ofNat qcs.length)] [(.int (Int32.ofNat (pcs ++ qcs).length)), (.ref p0)]))
  have c15 := (q3_1.keep K7q)
  obtain ⟨T16, h16, X16, e16, W16, st16⟩ := putF X14 hx hZ hown (host := "") (Or.inl (ow hw 93 rfl)) Via.refl e14 c13 c15 (Or.inl (ow hw 94 rfl)) (ow hw 55 rfl) (ty := .int) (by decide) rfl rfl (g := (mkF m 40 #[lR p0, lR p1, lI (Int32.ofNat qcs.length)] [(.int (Int32.ofNat (pcs ++ qcs).length)), (.ref p0)])) rfl rfl (hb hby od15_40)
  refine Go.st st16 ?_
  have K16 : Keep h0 h16 [p0] := K7.wr W16 (Or.inl (List.mem_of_getElem? (i := 0) rfl))
  have O16 := O7.wr W16 hp6
  have N16 := Fr.snoc X16 N7 hp6
  have F16 := c13.same W16
  show Go _ _ _ _ (T16.setTop (mkF m 43 #[lR p0, lR p1, lI (Int32.ofNat qcs.length)] []))
  refine Go.st (fun _ => XS.aloadN X16.here hx rfl (hb hby od15_43) rfl rfl) ?_
  show Go _ _ _ _ (T16.setTop (mkF m 44 #[lR p0, lR p1, lI (Int32.ofNat qcs.length)] [(.ref p0)]))
  obtain ⟨fs, hr, hrun, hended, hW, hsame⟩ := X16.leave (v := some (.ref p0)) (fun h => by rw [Bd.returns] at h; cases h)
  refine ⟨_, ?_, hPend _ _ hrun hended ⟨_, _, rfl, ?_, ⟨_, rfl⟩, hW, hsame.mono (by decide) (by decide)⟩⟩
  · exact retOut X16 hx (t := (.object "java/lang/AbstractStringBuilder")) Bd.returns rfl (Or.inr (Or.inr (Or.inr (Or.inr ⟨rfl, rfl, rfl⟩)))) (hb hby od15_44) hr
  · show Q_rm_appg Z _ _ _ _ _ _ _ _ _ h0 n0 _ T16.heap _
    rw [e16]
    have c17 := (c15.wr W16)
    have c18 := ((q3_2.keep K7q (ninS (Nat.ne_of_lt (Nat.lt_of_lt_of_le hp0.lt q3_0)) nin0)).other W16 (Or.inr (slot_ne (Or.inl (ow hw 69 rfl)) (Or.inl (ow hw 94 rfl)) (by decide) (t := (.array .byte)) (t' := .int) (by decide) (by decide))))
    have c19 := ((q3_3.keep K7q (ninS (Nat.ne_of_lt (Nat.lt_of_lt_of_le hp0.lt q3_0)) nin0)).other W16 (Or.inr (slot_ne (Or.inl (ow hw 71 rfl)) (Or.inl (ow hw 94 rfl)) (by decide) (t := .byte) (t' := .int) (by decide) (by decide))))
    have c20 := ((q3_5.keep K7q).wr W16)
    have c21 := (q7_0.other W16 (Ne.symm (Nat.ne_of_lt (Nat.lt_of_lt_of_le hp0.lt q3_0))))
    exact ⟨ob_4, kb_5, rfl, N16, K16, sz_ob_4, c17, c18, c19, F16, c20, c21⟩
theorem own_ef_rm_sapg (m : MethodId) (x0 : Addr) (x1 : Addr) : entryFrame m #[(.ref x0), (.ref x1)] 2 = mkF m 0 #[.val (.ref x0), .val (.ref x1)] [] := by first | (simp [entryFrame, mkF, argsToLocals, Value.category]; done) | rfl
def Q_rm_sapg (Z : State) (g_CS : Int32) (p0 : Addr) (p1 : Addr) (pcs : List Int32) (arr : Addr) (ka : ClassId) (qcs : List Int32) (qv : Addr) (qk : ClassId) (h0 : Heap) (n0 : Nat) (v : Option Value) (h : Heap) (L : List Loc) : Prop := ∃ (ob : Addr) (kb : ClassId), v = some (.ref p0) ∧ Fr n0 L ∧ Keep h0 h [p0] ∧ h0.size ≤ ob ∧ Exa Z h p0 "java/lang/StringBuilder" ∧ Fld Z h p0 "java/lang/AbstractStringBuilder" "value" "[B" (.ref ob) ∧ Fld Z h p0 "java/lang/AbstractStringBuilder" "coder" "B" (.int 0) ∧ Fld Z h p0 "java/lang/AbstractStringBuilder" "count" "I" (.int (Int32.ofNat (pcs ++ qcs).length)) ∧ Exa Z h ob "[B" ∧ Arv Z h ob kb .byte (34 : Int32) (((pcs ++ qcs).map StrChars.lo8).map Value.int) (.int 0)
set_option maxRecDepth 65536 in
set_option maxHeartbeats 40000000 in
theorem rm_sapg (l : Launch) (Z : State) (a0 : Array Value) (hw : ∀ d ∈ tables_1, d.before a0 Z = true) (ws : List Jvm.Cond) (g_CS : Int32) (S_CS : Sta Z Z.heap "java/lang/String" "COMPACT_STRINGS" "Z" (.int g_CS)) (nz_CS : ¬ (g_CS = (0 : Int32))) (p0 : Addr) (p1 : Addr) (pcs : List Int32) (arr : Addr) (ka : ClassId) (qcs : List Int32) (qv : Addr) (qk : ClassId) (h0 : Heap) (n0 : Nat) (X00 : Old Z n0 h0) (hp0 : Exa Z h0 p0 "java/lang/StringBuilder") (hp1 : Fld Z h0 p0 "java/lang/AbstractStringBuilder" "value" "[B" (.ref arr)) (hp2 : Fld Z h0 p0 "java/lang/AbstractStringBuilder" "coder" "B" (.int 0)) (hp3 : Fld Z h0 p0 "java/lang/AbstractStringBuilder" "count" "I" (.int (Int32.ofNat pcs.length))) (hp4 : Exa Z h0 arr "[B") (hp5 : Arv Z h0 arr ka .byte (16 : Int32) ((pcs.map StrChars.lo8).map Value.int) (.int 0)) (hp6 : n0 ≤ p0) (hp7 : n0 ≤ arr) (hp8 : Exa Z h0 p1 "java/lang/String") (hp9 : Fld Z h0 p1 "java/lang/String" "coder" "B" (.int 0)) (hp10 : Fld Z h0 p1 "java/lang/String" "value" "[B" (.ref qv)) (hp11 : Arv Z h0 qv qk .byte (Int32.ofNat qcs.length) ((qcs.map StrChars.lo8).map Value.int) (.int 0)) (hpcq : ∀ c ∈ qcs, ¬ c < 0 ∧ ¬ (255 : Int32) < c) (hleq : qcs.length ≤ 4000) (hpl : pcs.length ≤ 16) (hg1 : 16 < (pcs ++ qcs).length) (hg2 : (pcs ++ qcs).length < 34) :
    MetFree l (⟨"java/lang/StringBuilder", "append", "(Ljava/lang/String;)Ljava/lang/StringBuilder;"⟩ : MethodName) (head1 (Jvm.Cond.code (⟨"java/lang/StringBuilder", "append", "(Ljava/lang/String;)Ljava/lang/StringBuilder;"⟩ : MethodName) jdk_67_method_7_code 2 (some (.object "java/lang/StringBuilder")) :: ws) ({ frames := 5, cells := 1, slots := 34, locals := 76 } : Room)) (fun a U => a = #[(.ref p0), (.ref p1)] ∧ Z.Warmed39 U.vm ∧ U.heap = h0) (fun _ _ _ _ _ => True) (fun _ U o U' => ∃ v L, o = .returned v ∧ Q_rm_sapg Z g_CS p0 p1 pcs arr ka qcs qv qk h0 n0 v U'.heap L ∧ FrameEnd U o U' L ({ frames := 5, cells := 1, slots := 34, locals := 76 } : Room).cells ({ frames := 5, cells := 1, slots := 34, locals := 76 } : Room).slots) := by
  refine MetFree.of_bodySF (plainFor_of_name own_pn5) hisR ?_
  intro p e s m args below meth c s₁ Bd hml0 hP hK
  obtain ⟨rfl, hZ, hh⟩ := hP
  have hx := Bd.exec
  have hby := Bd.bytes
  have hml : c.maxLocals = 2 := hml0
  have hown : s.vm.findClass "java/lang/StringBuilder" = some m.cls := findClass_of_methodNamed Bd.named
  have hnm := (name_of_methodNamed Bd.named Bd.method).1
  have X0 : Stand p l e ({ frames := 5, cells := 1, slots := 34, locals := 76 } : Room) s m #[(.ref p0), (.ref p1)] below meth c s₁ [] 0 0 := Stand.of_body Bd
  have e0 : s₁.heap = h0 := by rw [← hh, Bd.state]; rfl
  have N0 := Fr.nil n0
  refine Go.start fun P hPend => ?_
  refine Go.st (fun _ k => castTop (own_ef_rm_sapg m p0 p1) k) ?_
  show Go _ _ _ _ (s₁.setTop (mkF m 0 #[lR p0, lR p1] []))
  refine Go.st (fun _ => XS.aloadN X0.here hx rfl (hb hby od16_0) rfl rfl) ?_
  refine Go.st (fun _ => XS.aloadN X0.here hx rfl (hb hby od16_1) rfl rfl) ?_
  show Go _ _ _ _ (s₁.setTop (mkF m 2 #[lR p0, lR p1] [(.ref p1), (.ref p0)]))
  obtain ⟨_, _, ⟨T1, L1, k1, n1⟩, -, X1, ⟨Lc1, hQ1, l1, y1, z1⟩, st1⟩ := superBack X0 hx hZ (y := (⟨"java/lang/AbstractStringBuilder", "append", "(Ljava/lang/String;)Ljava/lang/AbstractStringBuilder;"⟩ : MethodName)) hown (ow hw 78 rfl) (own_sameself (ow hw 79 rfl) (ow hw 98 rfl) rfl (by decide)) (ow hw 79 rfl) (ow hw 80 rfl) (by decide) (backOf (W := 0) (rm_appg l Z a0 hw [] g_CS S_CS nz_CS p0 p1 pcs arr ka qcs qv qk h0 n0 X00 hp0 hp1 hp2 hp3 hp4 hp5 hp6 hp7 hp8 hp9 hp10 hp11 hpcq hleq hpl hg1 hg2) hZ (ow hw 82 rfl) (ow hw 64 rfl) (by decide) (by decide)) e0 (Ins.self hp0) (g := (mkF m 2 #[lR p0, lR p1] [(.ref p1), (.ref p0)])) rfl (by rw [hml]; rfl) (ow hw 82 rfl) (argsL := [(.ref p1)]) (rest := []) (lenOf own_pd10 rfl) rfl (by show 2 * 0 + _ ≤ _; exact Nat.le_of_eq rfl) (hb hby od16_2) (fun _ _ => ⟨rfl, e0, (by decide : 0 + 1 ≤ _), (by decide : 0 + 34 ≤ _)⟩)
  dsimp only [Pt.U, Pt.locs, Pt.cells, Pt.slots] at X1 l1 y1 z1 st1 hQ1
  subst y1 z1
  refine Go.tr st1 ?_
  obtain ⟨ob_2, kb_3, rfl, N1q, K1q, q1_0, q1_1, q1_2, q1_3, q1_4, q1_5, q1_6⟩ := hQ1
  have N1 : Fr n0 L1 := by rw [l1]; exact Fr.app N0 N1q
  have O1 := X00.keep K1q (allS hp6 all0)
  have K1 : Keep h0 T1.heap [p0] := (Keep.refl h0 [p0]).trans K1q (allS (Or.inl (List.mem_of_getElem? (i := 0) rfl)) all0)
  have sz_ob_2 : h0.size ≤ ob_2 := Nat.le_trans (Keep.refl h0 [p0]).1 q1_0
  have g_ob_2 : n0 ≤ ob_2 := Nat.le_trans (own_oldsz X00) sz_ob_2
  show Go _ _ _ _ (T1.setTop (mkF m 5 #[lR p0, lR p1] [(.ref p0)]))
  refine Go.st (fun _ => XS.pop X1.here hx rfl (hb hby od16_5) rfl rfl) ?_
  show Go _ _ _ _ (T1.setTop (mkF m 6 #[lR p0, lR p1] []))
  refine Go.st (fun _ => XS.aloadN X1.here hx rfl (hb hby od16_6) rfl rfl) ?_
  show Go _ _ _ _ (T1.setTop (mkF m 7 #[lR p0, lR p1] [(.ref p0)]))
  obtain ⟨fs, hr, hrun, hended, hW, hsame⟩ := X1.leave (v := some (.ref p0)) (fun h => by rw [Bd.returns] at h; cases h)
  refine ⟨_, ?_, hPend _ _ hrun hended ⟨_, _, rfl, ?_, ⟨_, rfl⟩, hW, hsame.mono (by decide) (by decide)⟩⟩
  · exact retOut X1 hx (t := (.object "java/lang/StringBuilder")) Bd.returns rfl (Or.inr (Or.inr (Or.inr (Or.inr ⟨rfl, rfl, rfl⟩)))) (hb hby od16_7) hr
  · show Q_rm_sapg Z _ _ _ _ _ _ _ _ _ h0 n0 _ T1.heap _
    exact ⟨ob_2, kb_3, rfl, N1, K1, sz_ob_2, q1_1, q1_2, q1_3, q1_4, q1_5, q1_6⟩
theorem own_ef_rm_getv (m : MethodId) (x0 : Addr) : entryFrame m #[(.ref x0)] 1 = mkF m 0 #[.val (.ref x0)] [] := by first | (simp [entryFrame, mkF, argsToLocals, Value.category]; done) | rfl
theorem od22_0 : decode jdk_68_method_64_code 0 = .ok (.aload_n 0, 1) := by decide +kernel
theorem od22_1 : decode jdk_68_method_64_code 1 = .ok (.getfield 15, 3) := by decide +kernel
theorem od22_4 : decode jdk_68_method_64_code 4 = .ok (.areturn, 1) := by decide +kernel
def Q_rm_getv (Z : State) (g_CS : Int32) (p0 : Addr) (arr : Addr) (h0 : Heap) (n0 : Nat) (v : Option Value) (h : Heap) (L : List Loc) : Prop := v = some (.ref arr) ∧ Fr n0 L ∧ h = h0
set_option maxRecDepth 65536 in
set_option maxHeartbeats 40000000 in
theorem rm_getv (l : Launch) (Z : State) (a0 : Array Value) (hw : ∀ d ∈ tables_1, d.before a0 Z = true) (ws : List Jvm.Cond) (g_CS : Int32) (S_CS : Sta Z Z.heap "java/lang/String" "COMPACT_STRINGS" "Z" (.int g_CS)) (nz_CS : ¬ (g_CS = (0 : Int32))) (p0 : Addr) (arr : Addr) (h0 : Heap) (n0 : Nat) (X00 : Old Z n0 h0) (hp0 : Fld Z h0 p0 "java/lang/AbstractStringBuilder" "value" "[B" (.ref arr)) :
    MetFree l (⟨"java/lang/AbstractStringBuilder", "getValue", "()[B"⟩ : MethodName) (head1 (Jvm.Cond.code (⟨"java/lang/AbstractStringBuilder", "getValue", "()[B"⟩ : MethodName) jdk_68_method_64_code 1 (some (.array .byte)) :: ws) ({ frames := 0, cells := 0, slots := 0, locals := 0 } : Room)) (fun a U => a = #[(.ref p0)] ∧ Z.Warmed39 U.vm ∧ U.heap = h0) (fun _ _ _ _ _ => True) (fun _ U o U' => ∃ v L, o = .returned v ∧ Q_rm_getv Z g_CS p0 arr h0 n0 v U'.heap L ∧ FrameEnd U o U' L ({ frames := 0, cells := 0, slots := 0, locals := 0 } : Room).cells ({ frames := 0, cells := 0, slots := 0, locals := 0 } : Room).slots) := by
  refine MetFree.of_bodySF (plainFor_of_name own_pn4) hisR ?_
  intro p e s m args below meth c s₁ Bd hml0 hP hK
  obtain ⟨rfl, hZ, hh⟩ := hP
  have hx := Bd.exec
  have hby := Bd.bytes
  have hml : c.maxLocals = 1 := hml0
  have hown : s.vm.findClass "java/lang/AbstractStringBuilder" = some m.cls := findClass_of_methodNamed Bd.named
  have hnm := (name_of_methodNamed Bd.named Bd.method).1
  have X0 : Stand p l e ({ frames := 0, cells := 0, slots := 0, locals := 0 } : Room) s m #[(.ref p0)] below meth c s₁ [] 0 0 := Stand.of_body Bd
  have e0 : s₁.heap = h0 := by rw [← hh, Bd.state]; rfl
  have N0 := Fr.nil n0
  refine Go.start fun P hPend => ?_
  refine Go.st (fun _ k => castTop (own_ef_rm_getv m p0) k) ?_
  show Go _ _ _ _ (s₁.setTop (mkF m 0 #[lR p0] []))
  refine Go.st (fun _ => XS.aloadN X0.here hx rfl (hb hby od22_0) rfl rfl) ?_
  show Go _ _ _ _ (s₁.setTop (mkF m 1 #[lR p0] [(.ref p0)]))
  obtain ⟨T1, X1, e1, st1⟩ := getF X0 hx hZ hown (host := "") (Or.inl (ow hw 68 rfl)) Via.refl e0 hp0 (g := (mkF m 1 #[lR p0] [(.ref p0)])) rfl rfl (hb hby od22_1)
  refine Go.st st1 ?_
  show Go _ _ _ _ (T1.setTop (mkF m 4 #[lR p0] [(.ref arr)]))
  obtain ⟨fs, hr, hrun, hended, hW, hsame⟩ := X1.leave (v := some (.ref arr)) (fun h => by rw [Bd.returns] at h; cases h)
  refine ⟨_, ?_, hPend _ _ hrun hended ⟨_, _, rfl, ?_, ⟨_, rfl⟩, hW, hsame.mono (by decide) (by decide)⟩⟩
  · exact retOut X1 hx (t := (.array .byte)) Bd.returns rfl (Or.inr (Or.inr (Or.inr (Or.inr ⟨rfl, rfl, rfl⟩)))) (hb hby od22_4) hr
  · show Q_rm_getv Z _ _ _ h0 n0 _ T1.heap _
    rw [e1]
    exact ⟨rfl, N0, rfl⟩
theorem own_ef_rm_alen (m : MethodId) (x0 : Addr) : entryFrame m #[(.ref x0)] 1 = mkF m 0 #[.val (.ref x0)] [] := by first | (simp [entryFrame, mkF, argsToLocals, Value.category]; done) | rfl
theorem od23_0 : decode jdk_68_method_6_code 0 = .ok (.aload_n 0, 1) := by decide +kernel
theorem od23_1 : decode jdk_68_method_6_code 1 = .ok (.getfield 79, 3) := by decide +kernel
theorem od23_4 : decode jdk_68_method_6_code 4 = .ok (.ireturn, 1) := by decide +kernel
def Q_rm_alen (Z : State) (g_CS : Int32) (p0 : Addr) (nn : Int32) (h0 : Heap) (n0 : Nat) (v : Option Value) (h : Heap) (L : List Loc) : Prop := v = some (.int nn) ∧ Fr n0 L ∧ h = h0
set_option maxRecDepth 65536 in
set_option maxHeartbeats 40000000 in
theorem rm_alen (l : Launch) (Z : State) (a0 : Array Value) (hw : ∀ d ∈ tables_1, d.before a0 Z = true) (ws : List Jvm.Cond) (g_CS : Int32) (S_CS : Sta Z Z.heap "java/lang/String" "COMPACT_STRINGS" "Z" (.int g_CS)) (nz_CS : ¬ (g_CS = (0 : Int32))) (p0 : Addr) (nn : Int32) (h0 : Heap) (n0 : Nat) (X00 : Old Z n0 h0) (hp0 : Exa Z h0 p0 "java/lang/StringBuilder") (hp1 : Fld Z h0 p0 "java/lang/AbstractStringBuilder" "count" "I" (.int nn)) :
    MetFree l (⟨"java/lang/AbstractStringBuilder", "length", "()I"⟩ : MethodName) (head1 (Jvm.Cond.code (⟨"java/lang/AbstractStringBuilder", "length", "()I"⟩ : MethodName) jdk_68_method_6_code 1 (some .int) :: ws) ({ frames := 0, cells := 0, slots := 0, locals := 0 } : Room)) (fun a U => a = #[(.ref p0)] ∧ Z.Warmed39 U.vm ∧ U.heap = h0) (fun _ _ _ _ _ => True) (fun _ U o U' => ∃ v L, o = .returned v ∧ Q_rm_alen Z g_CS p0 nn h0 n0 v U'.heap L ∧ FrameEnd U o U' L ({ frames := 0, cells := 0, slots := 0, locals := 0 } : Room).cells ({ frames := 0, cells := 0, slots := 0, locals := 0 } : Room).slots) := by
  refine MetFree.of_bodySF (plainFor_of_name own_pn4) hisR ?_
  intro p e s m args below meth c s₁ Bd hml0 hP hK
  obtain ⟨rfl, hZ, hh⟩ := hP
  have hx := Bd.exec
  have hby := Bd.bytes
  have hml : c.maxLocals = 1 := hml0
  have hown : s.vm.findClass "java/lang/AbstractStringBuilder" = some m.cls := findClass_of_methodNamed Bd.named
  have hnm := (name_of_methodNamed Bd.named Bd.method).1
  have X0 : Stand p l e ({ frames := 0, cells := 0, slots := 0, locals := 0 } : Room) s m #[(.ref p0)] below meth c s₁ [] 0 0 := Stand.of_body Bd
  have e0 : s₁.heap = h0 := by rw [← hh, Bd.state]; rfl
  have N0 := Fr.nil n0
  refine Go.start fun P hPend => ?_
  refine Go.st (fun _ k => castTop (own_ef_rm_alen m p0) k) ?_
  show Go _ _ _ _ (s₁.setTop (mkF m 0 #[lR p0] []))
  refine Go.st (fun _ => XS.aloadN X0.here hx rfl (hb hby od23_0) rfl rfl) ?_
  show Go _ _ _ _ (s₁.setTop (mkF m 1 #[lR p0] [(.ref p0)]))
  obtain ⟨T1, X1, e1, st1⟩ := getF X0 hx hZ hown (host := "") (Or.inl (ow hw 93 rfl)) Via.refl e0 hp1 (g := (mkF m 1 #[lR p0] [(.ref p0)])) rfl rfl (hb hby od23_1)
  refine Go.st st1 ?_
  show Go _ _ _ _ (T1.setTop (mkF m 4 #[lR p0] [(.int nn)]))
  obtain ⟨fs, hr, hrun, hended, hW, hsame⟩ := X1.leave (v := some (.int nn)) (fun h => by rw [Bd.returns] at h; cases h)
  refine ⟨_, ?_, hPend _ _ hrun hended ⟨_, _, rfl, ?_, ⟨_, rfl⟩, hW, hsame.mono (by decide) (by decide)⟩⟩
  · exact retOut X1 hx (t := .int) Bd.returns rfl (Or.inl ⟨rfl, Or.inl rfl, _, rfl⟩) (hb hby od23_4) hr
  · show Q_rm_alen Z _ _ _ h0 n0 _ T1.heap _
    rw [e1]
    exact ⟨rfl, N0, rfl⟩
theorem own_ef_rm_slen (m : MethodId) (x0 : Addr) : entryFrame m #[(.ref x0)] 1 = mkF m 0 #[.val (.ref x0)] [] := by first | (simp [entryFrame, mkF, argsToLocals, Value.category]; done) | rfl
theorem od24_0 : decode jdk_67_method_93_code 0 = .ok (.aload_n 0, 1) := by decide +kernel
theorem od24_1 : decode jdk_67_method_93_code 1 = .ok (.invokespecial 343, 3) := by decide +kernel
theorem od24_4 : decode jdk_67_method_93_code 4 = .ok (.ireturn, 1) := by decide +kernel
def Q_rm_slen (Z : State) (g_CS : Int32) (p0 : Addr) (nn : Int32) (h0 : Heap) (n0 : Nat) (v : Option Value) (h : Heap) (L : List Loc) : Prop := v = some (.int nn) ∧ Fr n0 L ∧ h = h0
set_option maxRecDepth 65536 in
set_option maxHeartbeats 40000000 in
theorem rm_slen (l : Launch) (Z : State) (a0 : Array Value) (hw : ∀ d ∈ tables_1, d.before a0 Z = true) (ws : List Jvm.Cond) (g_CS : Int32) (S_CS : Sta Z Z.heap "java/lang/String" "COMPACT_STRINGS" "Z" (.int g_CS)) (nz_CS : ¬ (g_CS = (0 : Int32))) (p0 : Addr) (nn : Int32) (h0 : Heap) (n0 : Nat) (X00 : Old Z n0 h0) (hp0 : Exa Z h0 p0 "java/lang/StringBuilder") (hp1 : Fld Z h0 p0 "java/lang/AbstractStringBuilder" "count" "I" (.int nn)) :
    MetFree l (⟨"java/lang/StringBuilder", "length", "()I"⟩ : MethodName) (head1 (Jvm.Cond.code (⟨"java/lang/StringBuilder", "length", "()I"⟩ : MethodName) jdk_67_method_93_code 1 (some .int) :: ws) ({ frames := 1, cells := 0, slots := 0, locals := 12 } : Room)) (fun a U => a = #[(.ref p0)] ∧ Z.Warmed39 U.vm ∧ U.heap = h0) (fun _ _ _ _ _ => True) (fun _ U o U' => ∃ v L, o = .returned v ∧ Q_rm_slen Z g_CS p0 nn h0 n0 v U'.heap L ∧ FrameEnd U o U' L ({ frames := 1, cells := 0, slots := 0, locals := 12 } : Room).cells ({ frames := 1, cells := 0, slots := 0, locals := 12 } : Room).slots) := by
  refine MetFree.of_bodySF (plainFor_of_name own_pn5) hisR ?_
  intro p e s m args below meth c s₁ Bd hml0 hP hK
  obtain ⟨rfl, hZ, hh⟩ := hP
  have hx := Bd.exec
  have hby := Bd.bytes
  have hml : c.maxLocals = 1 := hml0
  have hown : s.vm.findClass "java/lang/StringBuilder" = some m.cls := findClass_of_methodNamed Bd.named
  have hnm := (name_of_methodNamed Bd.named Bd.method).1
  have X0 : Stand p l e ({ frames := 1, cells := 0, slots := 0, locals := 12 } : Room) s m #[(.ref p0)] below meth c s₁ [] 0 0 := Stand.of_body Bd
  have e0 : s₁.heap = h0 := by rw [← hh, Bd.state]; rfl
  have N0 := Fr.nil n0
  refine Go.start fun P hPend => ?_
  refine Go.st (fun _ k => castTop (own_ef_rm_slen m p0) k) ?_
  show Go _ _ _ _ (s₁.setTop (mkF m 0 #[lR p0] []))
  refine Go.st (fun _ => XS.aloadN X0.here hx rfl (hb hby od24_0) rfl rfl) ?_
  show Go _ _ _ _ (s₁.setTop (mkF m 1 #[lR p0] [(.ref p0)]))
  obtain ⟨_, _, ⟨T1, L1, k1, n1⟩, -, X1, ⟨Lc1, hQ1, l1, y1, z1⟩, st1⟩ := superBack X0 hx hZ (y := (⟨"java/lang/AbstractStringBuilder", "length", "()I"⟩ : MethodName)) hown (ow hw 195 rfl) (own_sameself (ow hw 191 rfl) (ow hw 98 rfl) rfl (by decide)) (ow hw 191 rfl) (ow hw 80 rfl) (by decide) (backOf (W := 0) (rm_alen l Z a0 hw [] g_CS S_CS nz_CS p0 nn h0 n0 X00 hp0 hp1) hZ (ow hw 196 rfl) (ow hw 64 rfl) (by decide) (by decide)) e0 (Ins.self hp0) (g := (mkF m 1 #[lR p0] [(.ref p0)])) rfl (by rw [hml]; rfl) (ow hw 196 rfl) (argsL := []) (rest := []) (lenOf own_pd8 rfl) rfl (by show 2 * 0 + _ ≤ _; exact Nat.le_of_eq rfl) (hb hby od24_1) (fun _ _ => ⟨rfl, e0, (by decide : 0 + 0 ≤ _), (by decide : 0 + 0 ≤ _)⟩)
  dsimp only [Pt.U, Pt.locs, Pt.cells, Pt.slots] at X1 l1 y1 z1 st1 hQ1
  subst y1 z1
  refine Go.tr st1 ?_
  obtain ⟨rfl, N1q, e1⟩ := hQ1
  have N1 : Fr n0 L1 := by rw [l1]; exact Fr.app N0 N1q
  show Go _ _ _ _ (T1.setTop (mkF m 4 #[lR p0] [(.int nn)]))
  obtain ⟨fs, hr, hrun, hended, hW, hsame⟩ := X1.leave (v := some (.int nn)) (fun h => by rw [Bd.returns] at h; cases h)
  refine ⟨_, ?_, hPend _ _ hrun hended ⟨_, _, rfl, ?_, ⟨_, rfl⟩, hW, hsame.mono (by decide) (by decide)⟩⟩
  · exact retOut X1 hx (t := .int) Bd.returns rfl (Or.inl ⟨rfl, Or.inl rfl, _, rfl⟩) (hb hby od24_4) hr
  · show Q_rm_slen Z _ _ _ h0 n0 _ T1.heap _
    rw [e1]
    exact ⟨rfl, N1, rfl⟩
theorem own_ef_rm_isl1 (m : MethodId) (x0 : Addr) : entryFrame m #[(.ref x0)] 1 = mkF m 0 #[.val (.ref x0)] [] := by first | (simp [entryFrame, mkF, argsToLocals, Value.category]; done) | rfl
theorem od25_0 : decode jdk_68_method_68_code 0 = .ok (.getstatic 18, 3) := by decide +kernel
theorem od25_3 : decode jdk_68_method_68_code 3 = .ok (.ifCond .eq 14, 3) := by decide +kernel
theorem od25_6 : decode jdk_68_method_68_code 6 = .ok (.aload_n 0, 1) := by decide +kernel
theorem od25_7 : decode jdk_68_method_68_code 7 = .ok (.getfield 22, 3) := by decide +kernel
theorem od25_10 : decode jdk_68_method_68_code 10 = .ok (.ifCond .ne 7, 3) := by decide +kernel
theorem od25_13 : decode jdk_68_method_68_code 13 = .ok (.iconst 1, 1) := by decide +kernel
theorem od25_14 : decode jdk_68_method_68_code 14 = .ok (.goto 4, 3) := by decide +kernel
theorem od25_18 : decode jdk_68_method_68_code 18 = .ok (.ireturn, 1) := by decide +kernel
def Q_rm_isl1 (Z : State) (g_CS : Int32) (p0 : Addr) (h0 : Heap) (n0 : Nat) (v : Option Value) (h : Heap) (L : List Loc) : Prop := v = some (.int 1) ∧ Fr n0 L ∧ h = h0
set_option maxRecDepth 65536 in
set_option maxHeartbeats 40000000 in
theorem rm_isl1 (l : Launch) (Z : State) (a0 : Array Value) (hw : ∀ d ∈ tables_1, d.before a0 Z = true) (ws : List Jvm.Cond) (g_CS : Int32) (S_CS : Sta Z Z.heap "java/lang/String" "COMPACT_STRINGS" "Z" (.int g_CS)) (nz_CS : ¬ (g_CS = (0 : Int32))) (p0 : Addr) (h0 : Heap) (n0 : Nat) (X00 : Old Z n0 h0) (hp0 : Fld Z h0 p0 "java/lang/AbstractStringBuilder" "coder" "B" (.int 0)) :
    MetFree l (⟨"java/lang/AbstractStringBuilder", "isLatin1", "()Z"⟩ : MethodName) (head1 (Jvm.Cond.code (⟨"java/lang/AbstractStringBuilder", "isLatin1", "()Z"⟩ : MethodName) jdk_68_method_68_code 1 (some .boolean) :: ws) ({ frames := 0, cells := 0, slots := 0, locals := 0 } : Room)) (fun a U => a = #[(.ref p0)] ∧ Z.Warmed39 U.vm ∧ U.heap = h0) (fun _ _ _ _ _ => True) (fun _ U o U' => ∃ v L, o = .returned v ∧ Q_rm_isl1 Z g_CS p0 h0 n0 v U'.heap L ∧ FrameEnd U o U' L ({ frames := 0, cells := 0, slots := 0, locals := 0 } : Room).cells ({ frames := 0, cells := 0, slots := 0, locals := 0 } : Room).slots) := by
  refine MetFree.of_bodySF (plainFor_of_name own_pn4) hisR ?_
  intro p e s m args below meth c s₁ Bd hml0 hP hK
  obtain ⟨rfl, hZ, hh⟩ := hP
  have hx := Bd.exec
  have hby := Bd.bytes
  have hml : c.maxLocals = 1 := hml0
  have hown : s.vm.findClass "java/lang/AbstractStringBuilder" = some m.cls := findClass_of_methodNamed Bd.named
  have hnm := (name_of_methodNamed Bd.named Bd.method).1
  have X0 : Stand p l e ({ frames := 0, cells := 0, slots := 0, locals := 0 } : Room) s m #[(.ref p0)] below meth c s₁ [] 0 0 := Stand.of_body Bd
  have e0 : s₁.heap = h0 := by rw [← hh, Bd.state]; rfl
  have N0 := Fr.nil n0
  refine Go.start fun P hPend => ?_
  refine Go.st (fun _ k => castTop (own_ef_rm_isl1 m p0) k) ?_
  show Go _ _ _ _ (s₁.setTop (mkF m 0 #[lR p0] []))
  obtain ⟨T1, X1, e1, st1⟩ := getS2 X0 hx hZ hown (host := "") (Or.inl (ow hw 67 rfl)) Via.refl e0 (S_CS.ext X00.2) (g := (mkF m 0 #[lR p0] [])) rfl (hb hby od25_0)
  refine Go.st st1 ?_
  show Go _ _ _ _ (T1.setTop (mkF m 3 #[lR p0] [(.int g_CS)]))
  have hb2 : ¬ (g_CS = (0 : Int32)) := nz_CS
  refine Go.st (fun _ => XS.ifNo X1.here hx rfl (hb hby od25_3) rfl ((if0 _ _).trans (feq hb2).1)) ?_
  show Go _ _ _ _ (T1.setTop (mkF m 6 #[lR p0] []))
  refine Go.st (fun _ => XS.aloadN X1.here hx rfl (hb hby od25_6) rfl rfl) ?_
  show Go _ _ _ _ (T1.setTop (mkF m 7 #[lR p0] [(.ref p0)]))
  obtain ⟨T3, X3, e3, st3⟩ := getF X1 hx hZ hown (host := "") (Or.inl (ow hw 70 rfl)) Via.refl e1 hp0 (g := (mkF m 7 #[lR p0] [(.ref p0)])) rfl rfl (hb hby od25_7)
  refine Go.st st3 ?_
  show Go _ _ _ _ (T3.setTop (mkF m 10 #[lR p0] [(.int 0)]))
  refine Go.st (fun _ => XS.ifNo X3.here hx rfl (hb hby od25_10) rfl ((if0 _ _).trans (teq (by decide)).2)) ?_
  show Go _ _ _ _ (T3.setTop (mkF m 13 #[lR p0] []))
  refine Go.st (fun _ => XS.iconst X3.here hx rfl (hb hby od25_13)) ?_
  show Go _ _ _ _ (T3.setTop (mkF m 14 #[lR p0] [(.int 1)]))
  refine Go.st (fun _ => XS.goto X3.here hx rfl (pc0 := 14) (pc' := 18) rfl (hb hby od25_14) (by decide) (by decide)) ?_
  show Go _ _ _ _ (T3.setTop (mkF m 18 #[lR p0] [(.int 1)]))
  obtain ⟨fs, hr, hrun, hended, hW, hsame⟩ := X3.leave (v := some (.int 1)) (fun h => by rw [Bd.returns] at h; cases h)
  refine ⟨_, ?_, hPend _ _ hrun hended ⟨_, _, rfl, ?_, ⟨_, rfl⟩, hW, hsame.mono (by decide) (by decide)⟩⟩
  · exact retN X3 hx (t := .boolean) Bd.returns (by simp) (hb hby od25_18) hr
  · show Q_rm_isl1 Z _ _ h0 n0 _ T3.heap _
    rw [e3]
    exact ⟨rfl, N0, rfl⟩
theorem own_ef_rm_ckl (m : MethodId) (x0 : Int32) (x1 : Int32) : entryFrame m #[(.int x0), (.int x1)] 2 = mkF m 0 #[.val (.int x0), .val (.int x1)] [] := by first | (simp [entryFrame, mkF, argsToLocals, Value.category]; done) | rfl
theorem od26_0 : decode jdk_65_method_131_code 0 = .ok (.iload_n 1, 1) := by decide +kernel
theorem od26_1 : decode jdk_65_method_131_code 1 = .ok (.iload_n 0, 1) := by decide +kernel
theorem od26_2 : decode jdk_65_method_131_code 2 = .ok (.if_icmp .ge 35, 3) := by decide +kernel
theorem od26_37 : decode jdk_65_method_131_code 37 = .ok (.return_, 1) := by decide +kernel
def Q_rm_ckl (Z : State) (g_CS : Int32) (p0 : Int32) (p1 : Int32) (h0 : Heap) (n0 : Nat) (v : Option Value) (h : Heap) (L : List Loc) : Prop := v = none ∧ Fr n0 L ∧ h = h0
set_option maxRecDepth 65536 in
set_option maxHeartbeats 40000000 in
theorem rm_ckl (l : Launch) (Z : State) (a0 : Array Value) (hw : ∀ d ∈ tables_1, d.before a0 Z = true) (ws : List Jvm.Cond) (g_CS : Int32) (S_CS : Sta Z Z.heap "java/lang/String" "COMPACT_STRINGS" "Z" (.int g_CS)) (nz_CS : ¬ (g_CS = (0 : Int32))) (p0 : Int32) (p1 : Int32) (h0 : Heap) (n0 : Nat) (X00 : Old Z n0 h0) (hck : ¬ (p1 < p0)) :
    MetFree l (⟨"java/util/Arrays", "checkLength", "(II)V"⟩ : MethodName) (head1 (Jvm.Cond.code (⟨"java/util/Arrays", "checkLength", "(II)V"⟩ : MethodName) jdk_65_method_131_code 2 none :: ws) ({ frames := 0, cells := 0, slots := 0, locals := 0 } : Room)) (fun a U => a = #[(.int p0), (.int p1)] ∧ Z.Warmed39 U.vm ∧ U.heap = h0) (fun _ _ _ _ _ => True) (fun _ U o U' => ∃ v L, o = .returned v ∧ Q_rm_ckl Z g_CS p0 p1 h0 n0 v U'.heap L ∧ FrameEnd U o U' L ({ frames := 0, cells := 0, slots := 0, locals := 0 } : Room).cells ({ frames := 0, cells := 0, slots := 0, locals := 0 } : Room).slots) := by
  refine MetFree.of_bodySF (plainFor_of_name own_pn7) hisR ?_
  intro p e s m args below meth c s₁ Bd hml0 hP hK
  obtain ⟨rfl, hZ, hh⟩ := hP
  have hx := Bd.exec
  have hby := Bd.bytes
  have hml : c.maxLocals = 2 := hml0
  have hown : s.vm.findClass "java/util/Arrays" = some m.cls := findClass_of_methodNamed Bd.named
  have hnm := (name_of_methodNamed Bd.named Bd.method).1
  have X0 : Stand p l e ({ frames := 0, cells := 0, slots := 0, locals := 0 } : Room) s m #[(.int p0), (.int p1)] below meth c s₁ [] 0 0 := Stand.of_body Bd
  have e0 : s₁.heap = h0 := by rw [← hh, Bd.state]; rfl
  have N0 := Fr.nil n0
  refine Go.start fun P hPend => ?_
  refine Go.st (fun _ k => castTop (own_ef_rm_ckl m p0 p1) k) ?_
  show Go _ _ _ _ (s₁.setTop (mkF m 0 #[lI p0, lI p1] []))
  refine Go.st (fun _ => XS.iloadN X0.here hx rfl (hb hby od26_0) rfl) ?_
  refine Go.st (fun _ => XS.iloadN X0.here hx rfl (hb hby od26_1) rfl) ?_
  show Go _ _ _ _ (s₁.setTop (mkF m 2 #[lI p0, lI p1] [(.int p0), (.int p1)]))
  have hb1 : ¬ (p1 < p0) := hck
  refine Go.st (fun _ => XS.icmpYes X0.here hx rfl (pc0 := 2) (pc' := 37) rfl (hb hby od26_2) rfl (flt hb1).2.1 (by decide) (by decide)) ?_
  show Go _ _ _ _ (s₁.setTop (mkF m 37 #[lI p0, lI p1] []))
  obtain ⟨fs, hr, hrun, hended, hW, hsame⟩ := X0.leave (v := none) (fun _ => rfl)
  refine ⟨_, ?_, hPend _ _ hrun hended ⟨_, _, rfl, ?_, ⟨_, rfl⟩, hW, hsame.mono (by decide) (by decide)⟩⟩
  · exact X0.returnOut hx Bd.returns (hb hby od26_37) hr
  · show Q_rm_ckl Z _ _ _ h0 n0 _ s₁.heap _
    rw [e0]
    exact ⟨rfl, N0, rfl⟩
theorem own_ef_rm_minb (m : MethodId) (x0 : Int32) (x1 : Int32) : entryFrame m #[(.int x0), (.int x1)] 2 = mkF m 0 #[.val (.int x0), .val (.int x1)] [] := by first | (simp [entryFrame, mkF, argsToLocals, Value.category]; done) | rfl
theorem od20_9 : decode jdk_29_method_69_code 9 = .ok (.iload_n 1, 1) := by decide +kernel
def Q_rm_minb (Z : State) (g_CS : Int32) (p0 : Int32) (p1 : Int32) (h0 : Heap) (n0 : Nat) (v : Option Value) (h : Heap) (L : List Loc) : Prop := v = some (.int p1) ∧ Fr n0 L ∧ h = h0
set_option maxRecDepth 65536 in
set_option maxHeartbeats 40000000 in
theorem rm_minb (l : Launch) (Z : State) (a0 : Array Value) (hw : ∀ d ∈ tables_1, d.before a0 Z = true) (ws : List Jvm.Cond) (g_CS : Int32) (S_CS : Sta Z Z.heap "java/lang/String" "COMPACT_STRINGS" "Z" (.int g_CS)) (nz_CS : ¬ (g_CS = (0 : Int32))) (p0 : Int32) (p1 : Int32) (h0 : Heap) (n0 : Nat) (X00 : Old Z n0 h0) (hmn : p1 < p0) :
    MetFree l (⟨"java/lang/Math", "min", "(II)I"⟩ : MethodName) (head1 (Jvm.Cond.code (⟨"java/lang/Math", "min", "(II)I"⟩ : MethodName) jdk_29_method_69_code 2 (some .int) :: ws) ({ frames := 0, cells := 0, slots := 0, locals := 0 } : Room)) (fun a U => a = #[(.int p0), (.int p1)] ∧ Z.Warmed39 U.vm ∧ U.heap = h0) (fun _ _ _ _ _ => True) (fun _ U o U' => ∃ v L, o = .returned v ∧ Q_rm_minb Z g_CS p0 p1 h0 n0 v U'.heap L ∧ FrameEnd U o U' L ({ frames := 0, cells := 0, slots := 0, locals := 0 } : Room).cells ({ frames := 0, cells := 0, slots := 0, locals := 0 } : Room).slots) := by
  refine MetFree.of_bodySF (Jvm.Free.JP.mathPlain rfl (by decide +kernel)) hisR ?_
  intro p e s m args below meth c s₁ Bd hml0 hP hK
  obtain ⟨rfl, hZ, hh⟩ := hP
  have hx := Bd.exec
  have hby := Bd.bytes
  have hml : c.maxLocals = 2 := hml0
  have hown : s.vm.findClass "java/lang/Math" = some m.cls := findClass_of_methodNamed Bd.named
  have hnm := (name_of_methodNamed Bd.named Bd.method).1
  have X0 : Stand p l e ({ frames := 0, cells := 0, slots := 0, locals := 0 } : Room) s m #[(.int p0), (.int p1)] below meth c s₁ [] 0 0 := Stand.of_body Bd
  have e0 : s₁.heap = h0 := by rw [← hh, Bd.state]; rfl
  have N0 := Fr.nil n0
  refine Go.start fun P hPend => ?_
  refine Go.st (fun _ k => castTop (own_ef_rm_minb m p0 p1) k) ?_
  show Go _ _ _ _ (s₁.setTop (mkF m 0 #[lI p0, lI p1] []))
  refine Go.st (fun _ => XS.iloadN X0.here hx rfl (hb hby od20_0) rfl) ?_
  refine Go.st (fun _ => XS.iloadN X0.here hx rfl (hb hby od20_1) rfl) ?_
  show Go _ _ _ _ (s₁.setTop (mkF m 2 #[lI p0, lI p1] [(.int p1), (.int p0)]))
  have hb1 : p1 < p0 := hmn
  refine Go.st (fun _ => XS.icmpYes X0.here hx rfl (pc0 := 2) (pc' := 9) rfl (hb hby od20_2) rfl (tlt hb1).2.2.1 (by decide) (by decide)) ?_
  show Go _ _ _ _ (s₁.setTop (mkF m 9 #[lI p0, lI p1] []))
  refine Go.st (fun _ => XS.iloadN X0.here hx rfl (hb hby od20_9) rfl) ?_
  show Go _ _ _ _ (s₁.setTop (mkF m 10 #[lI p0, lI p1] [(.int p1)]))
  obtain ⟨fs, hr, hrun, hended, hW, hsame⟩ := X0.leave (v := some (.int p1)) (fun h => by rw [Bd.returns] at h; cases h)
  refine ⟨_, ?_, hPend _ _ hrun hended ⟨_, _, rfl, ?_, ⟨_, rfl⟩, hW, hsame.mono (by decide) (by decide)⟩⟩
  · exact retOut X0 hx (t := .int) Bd.returns rfl (Or.inl ⟨rfl, Or.inl rfl, _, rfl⟩) (hb hby od20_10) hr
  · show Q_rm_minb Z _ _ _ h0 n0 _ s₁.heap _
    rw [e0]
    exact ⟨rfl, N0, rfl⟩
theorem own_ef_rm_cprb (m : MethodId) (x0 : Addr) (x1 : Int32) (x2 : Int32) : entryFrame m #[(.ref x0), (.int x1), (.int x2)] 5 = mkF m 0 #[.val (.ref x0), .val (.int x1), .val (.int x2), .unset, .unset] [] := by first | (simp [entryFrame, mkF, argsToLocals, Value.category]; done) | rfl
theorem od27_0 : decode jdk_65_method_133_code 0 = .ok (.iload_n 1, 1) := by decide +kernel
theorem od27_1 : decode jdk_65_method_133_code 1 = .ok (.iload_n 2, 1) := by decide +kernel
theorem od27_2 : decode jdk_65_method_133_code 2 = .ok (.invokestatic 343, 3) := by decide +kernel
theorem own_pd15 : parseMethodDescriptor "(II)V" = some ⟨[.int, .int], none⟩ := by decide +kernel
theorem od27_5 : decode jdk_65_method_133_code 5 = .ok (.iload_n 2, 1) := by decide +kernel
theorem od27_6 : decode jdk_65_method_133_code 6 = .ok (.iload_n 1, 1) := by decide +kernel
theorem od27_7 : decode jdk_65_method_133_code 7 = .ok (.isub, 1) := by decide +kernel
theorem od27_8 : decode jdk_65_method_133_code 8 = .ok (.istore_n 3, 1) := by decide +kernel
theorem od27_9 : decode jdk_65_method_133_code 9 = .ok (.iload_n 3, 1) := by decide +kernel
theorem od27_10 : decode jdk_65_method_133_code 10 = .ok (.newarray .byte, 2) := by decide +kernel
theorem od27_12 : decode jdk_65_method_133_code 12 = .ok (.astore 4, 2) := by decide +kernel
theorem od27_14 : decode jdk_65_method_133_code 14 = .ok (.aload_n 0, 1) := by decide +kernel
theorem od27_15 : decode jdk_65_method_133_code 15 = .ok (.iload_n 1, 1) := by decide +kernel
theorem od27_16 : decode jdk_65_method_133_code 16 = .ok (.aload 4, 2) := by decide +kernel
theorem od27_18 : decode jdk_65_method_133_code 18 = .ok (.iconst 0, 1) := by decide +kernel
theorem od27_19 : decode jdk_65_method_133_code 19 = .ok (.aload_n 0, 1) := by decide +kernel
theorem od27_20 : decode jdk_65_method_133_code 20 = .ok (.arraylength, 1) := by decide +kernel
theorem od27_21 : decode jdk_65_method_133_code 21 = .ok (.iload_n 1, 1) := by decide +kernel
theorem od27_22 : decode jdk_65_method_133_code 22 = .ok (.isub, 1) := by decide +kernel
theorem od27_23 : decode jdk_65_method_133_code 23 = .ok (.iload_n 3, 1) := by decide +kernel
theorem od27_24 : decode jdk_65_method_133_code 24 = .ok (.invokestatic 304, 3) := by decide +kernel
theorem od27_27 : decode jdk_65_method_133_code 27 = .ok (.invokestatic 150, 3) := by decide +kernel
theorem od27_30 : decode jdk_65_method_133_code 30 = .ok (.aload 4, 2) := by decide +kernel
theorem od27_32 : decode jdk_65_method_133_code 32 = .ok (.areturn, 1) := by decide +kernel
def Q_rm_cprb (Z : State) (g_CS : Int32) (p0 : Addr) (p2 : Int32) (ka : ClassId) (za : Int32) (va : List Value) (nv : Nat) (h0 : Heap) (n0 : Nat) (v : Option Value) (h : Heap) (L : List Loc) : Prop := ∃ (ob : Addr) (kb : ClassId), v = some (.ref ob) ∧ Fr n0 L ∧ Keep h0 h [] ∧ h0.size ≤ ob ∧ Arv Z h ob kb .byte p2 va (.int 0)
set_option maxRecDepth 65536 in
set_option maxHeartbeats 40000000 in
theorem rm_cprb (l : Launch) (Z : State) (a0 : Array Value) (hw : ∀ d ∈ tables_1, d.before a0 Z = true) (ws : List Jvm.Cond) (g_CS : Int32) (S_CS : Sta Z Z.heap "java/lang/String" "COMPACT_STRINGS" "Z" (.int g_CS)) (nz_CS : ¬ (g_CS = (0 : Int32))) (p0 : Addr) (p2 : Int32) (ka : ClassId) (za : Int32) (va : List Value) (nv : Nat) (h0 : Heap) (n0 : Nat) (X00 : Old Z n0 h0) (hp0 : Arv Z h0 p0 ka .byte za va (.int 0)) (hnv : p2 = Int32.ofNat nv) (hvl : va.length ≤ nv) (hn64 : nv ≤ 64) (hlt : p2 < za) (hp2 : ¬ (p2 < 0)) (hc2 : p2.toNatClampNeg = nv) (hzc : nv ≤ za.toNatClampNeg) :
    MetFree l (⟨"java/util/Arrays", "copyOfRangeByte", "([BII)[B"⟩ : MethodName) (head1 (Jvm.Cond.code (⟨"java/util/Arrays", "copyOfRangeByte", "([BII)[B"⟩ : MethodName) jdk_65_method_133_code 5 (some (.array .byte)) :: ws) ({ frames := 1, cells := 1, slots := 64, locals := 18 } : Room)) (fun a U => a = #[(.ref p0), (.int 0), (.int p2)] ∧ Z.Warmed39 U.vm ∧ U.heap = h0) (fun _ _ _ _ _ => True) (fun _ U o U' => ∃ v L, o = .returned v ∧ Q_rm_cprb Z g_CS p0 p2 ka za va nv h0 n0 v U'.heap L ∧ FrameEnd U o U' L ({ frames := 1, cells := 1, slots := 64, locals := 18 } : Room).cells ({ frames := 1, cells := 1, slots := 64, locals := 18 } : Room).slots) := by
  refine MetFree.of_bodySF (plainFor_of_name own_pn7) hisR ?_
  intro p e s m args below meth c s₁ Bd hml0 hP hK
  obtain ⟨rfl, hZ, hh⟩ := hP
  have hx := Bd.exec
  have hby := Bd.bytes
  have hml : c.maxLocals = 5 := hml0
  have hown : s.vm.findClass "java/util/Arrays" = some m.cls := findClass_of_methodNamed Bd.named
  have hnm := (name_of_methodNamed Bd.named Bd.method).1
  have X0 : Stand p l e ({ frames := 1, cells := 1, slots := 64, locals := 18 } : Room) s m #[(.ref p0), (.int 0), (.int p2)] below meth c s₁ [] 0 0 := Stand.of_body Bd
  have e0 : s₁.heap = h0 := by rw [← hh, Bd.state]; rfl
  have N0 := Fr.nil n0
  refine Go.start fun P hPend => ?_
  refine Go.st (fun _ k => castTop (own_ef_rm_cprb m p0 ((0 : Int32)) p2) k) ?_
  show Go _ _ _ _ (s₁.setTop (mkF m 0 #[lR p0, lI (0 : Int32), lI p2, lU, lU] []))
  refine Go.st (fun _ => XS.iloadN X0.here hx rfl (hb hby od27_0) rfl) ?_
  refine Go.st (fun _ => XS.iloadN X0.here hx rfl (hb hby od27_1) rfl) ?_
  show Go _ _ _ _ (s₁.setTop (mkF m 2 #[lR p0, lI (0 : Int32), lI p2, lU, lU] [(.int p2), (.int 0)]))
  obtain ⟨_, _, ⟨T1, L1, k1, n1⟩, -, X1, ⟨Lc1, hQ1, l1, y1, z1⟩, st1⟩ := Jvm.LawKit.callS X0 hx (y := (⟨"java/util/Arrays", "checkLength", "(II)V"⟩ : MethodName)) hown (mvT hZ (ow hw 204 rfl)) (mvT hZ (ow hw 205 rfl)) (mvT hZ (ow hw 153 rfl)) (mvT hZ (ow hw 206 rfl)) (by decide) (backOf (W := 0) (rm_ckl l Z a0 hw [] g_CS S_CS nz_CS (0 : Int32) p2 h0 n0 X00 hp2) hZ (ow hw 206 rfl) (ow hw 153 rfl) (by decide) (by decide)) (g := (mkF m 2 #[lR p0, lI (0 : Int32), lI p2, lU, lU] [(.int p2), (.int 0)])) rfl (by rw [hml]; rfl) (argsL := [(.int 0), (.int p2)]) (rest := []) (lenOf own_pd15 rfl) rfl (by show 2 * 0 + _ ≤ _; exact Nat.le_of_eq rfl) (hb hby od27_2) (fun _ _ => ⟨rfl, e0, (by decide : 0 + 0 ≤ _), (by decide : 0 + 0 ≤ _)⟩)
  dsimp only [Pt.U, Pt.locs, Pt.cells, Pt.slots] at X1 l1 y1 z1 st1 hQ1
  subst y1 z1
  refine Go.st st1 ?_
  obtain ⟨rfl, N1q, e1⟩ := hQ1
  have N1 : Fr n0 L1 := by rw [l1]; exact Fr.app N0 N1q
  show Go _ _ _ _ (T1.setTop (mkF m 5 #[lR p0, lI (0 : Int32), lI p2, lU, lU] []))
  refine Go.st (fun _ => XS.iloadN X1.here hx rfl (hb hby od27_5) rfl) ?_
  refine Go.st (fun _ => XS.iloadN X1.here hx rfl (hb hby od27_6) rfl) ?_
  show Go _ _ _ _ (T1.setTop (mkF m 7 #[lR p0, lI (0 : Int32), lI p2, lU, lU] [(.int 0), (.int p2)]))
  refine Go.st (fun _ => XS.isub X1.here hx rfl (hb hby od27_7) rfl) ?_
  show Go _ _ _ _ (T1.setTop (mkF m 8 #[lR p0, lI (0 : Int32), lI p2, lU, lU] [(.int (p2 - (0 : Int32)))]))
  rw [show (p2 - (0 : Int32)) = p2 from own_sub0 _]
  show Go _ _ _ _ (T1.setTop (mkF m 8 #[lR p0, lI (0 : Int32), lI p2, lU, lU] [(.int p2)]))
  refine Go.st (fun _ => XS.istoreN X1.here hx rfl (hb hby od27_8) rfl (l' := #[lR p0, lI (0 : Int32), lI p2, lI p2, lU]) rfl) ?_
  show Go _ _ _ _ (T1.setTop (mkF m 9 #[lR p0, lI (0 : Int32), lI p2, lI p2, lU] []))
  refine Go.st (fun _ => XS.iloadN X1.here hx rfl (hb hby od27_9) rfl) ?_
  show Go _ _ _ _ (T1.setTop (mkF m 10 #[lR p0, lI (0 : Int32), lI p2, lI p2, lU] [(.int p2)]))
  obtain ⟨T2, h2, k2, X2, e2, E2, A2, st2⟩ := newP X1 hx hZ (ow hw 14 rfl) e1 (g := (mkF m 10 #[lR p0, lI (0 : Int32), lI p2, lI p2, lU] [(.int p2)])) rfl (hb hby od27_10) rfl hp2 (cap := 64) (by rw [hc2]; exact hn64) (by decide) (by decide) (by decide)
  obtain ⟨b2, g2⟩ : ∃ z, z = h0.size := ⟨_, rfl⟩
  rw [← g2] at A2 st2
  refine Go.st st2 ?_
  have g_b2 : n0 ≤ b2 := Nat.le_trans (own_oldsz X00) (Nat.le_of_eq g2.symm)
  have sz_b2 : h0.size ≤ b2 := Nat.le_trans (Keep.refl h0 []).1 (Nat.le_of_eq g2.symm)
  have K2 : Keep h0 h2 [] := (Keep.refl h0 []).ext E2
  have O2 := X00.ext E2
  have V2 : Arv Z h2 b2 k2 .byte p2 [] (.int 0) := Arv.new A2 hp2
  show Go _ _ _ _ (T2.setTop (mkF m 12 #[lR p0, lI (0 : Int32), lI p2, lI p2, lU] [(.ref b2)]))
  refine Go.st (fun _ => XS.astore X2.here hx rfl (hb hby od27_12) rfl rfl (l' := #[lR p0, lI (0 : Int32), lI p2, lI p2, lR b2]) rfl) ?_
  show Go _ _ _ _ (T2.setTop (mkF m 14 #[lR p0, lI (0 : Int32), lI p2, lI p2, lR b2] []))
  refine Go.st (fun _ => XS.aloadN X2.here hx rfl (hb hby od27_14) rfl rfl) ?_
  refine Go.st (fun _ => XS.iloadN X2.here hx rfl (hb hby od27_15) rfl) ?_
  refine Go.st (fun _ => XS.aload X2.here hx rfl (hb hby od27_16) rfl rfl) ?_
  refine Go.st (fun _ => XS.iconst X2.here hx rfl (hb hby od27_18)) ?_
  refine Go.st (fun _ => XS.aloadN X2.here hx rfl (hb hby od27_19) rfl rfl) ?_
  show Go _ _ _ _ (T2.setTop (mkF m 20 #[lR p0, lI (0 : Int32), lI p2, lI p2, lR b2] [(.ref p0), (.int 0), (.ref b2), (.int 0), (.ref p0)]))
  have c3 := (hp0.ext E2)
  refine Go.st (fun _ => own_len X2 hx hZ e2 c3 (g := (mkF m 20 #[lR p0, lI (0 : Int32), lI p2, lI p2, lR b2] [(.ref p0), (.int 0), (.ref b2), (.int 0), (.ref p0)])) rfl rfl (hb hby od27_20) _) ?_
  show Go _ _ _ _ (T2.setTop (mkF m 21 #[lR p0, lI (0 : Int32), lI p2, lI p2, lR b2] [(.int za), (.int 0), (.ref b2), (.int 0), (.ref p0)]))
  refine Go.st (fun _ => XS.iloadN X2.here hx rfl (hb hby od27_21) rfl) ?_
  show Go _ _ _ _ (T2.setTop (mkF m 22 #[lR p0, lI (0 : Int32), lI p2, lI p2, lR b2] [(.int 0), (.int za), (.int 0), (.ref b2), (.int 0), (.ref p0)]))
  refine Go.st (fun _ => XS.isub X2.here hx rfl (hb hby od27_22) rfl) ?_
  show Go _ _ _ _ (T2.setTop (mkF m 23 #[lR p0, lI (0 : Int32), lI p2, lI p2, lR b2] [(.int (za - (0 : Int32))), (.int 0), (.ref b2), (.int 0), (.ref p0)]))
  rw [show (za - (0 : Int32)) = za from own_sub0 _]
  show Go _ _ _ _ (T2.setTop (mkF m 23 #[lR p0, lI (0 : Int32), lI p2, lI p2, lR b2] [(.int za), (.int 0), (.ref b2), (.int 0), (.ref p0)]))
  refine Go.st (fun _ => XS.iloadN X2.here hx rfl (hb hby od27_23) rfl) ?_
  show Go _ _ _ _ (T2.setTop (mkF m 24 #[lR p0, lI (0 : Int32), lI p2, lI p2, lR b2] [(.int p2), (.int za), (.int 0), (.ref b2), (.int 0), (.ref p0)]))
  obtain ⟨_, _, ⟨T4, L4, k4, n4⟩, -, X4, ⟨Lc4, hQ4, l4, y4, z4⟩, st4⟩ := Jvm.LawKit.callS X2 hx (y := (⟨"java/lang/Math", "min", "(II)I"⟩ : MethodName)) hown (mvT hZ (ow hw 155 rfl)) (mvT hZ (ow hw 156 rfl)) (mvT hZ (ow hw 147 rfl)) (mvT hZ (ow hw 157 rfl)) (by decide) (backOf (W := 4) (rm_minb l Z a0 hw [] g_CS S_CS nz_CS za p2 h2 n0 O2 hlt) hZ (ow hw 157 rfl) (ow hw 147 rfl) (by decide) (by decide)) (g := (mkF m 24 #[lR p0, lI (0 : Int32), lI p2, lI p2, lR b2] [(.int p2), (.int za), (.int 0), (.ref b2), (.int 0), (.ref p0)])) rfl (by rw [hml]; rfl) (argsL := [(.int za), (.int p2)]) (rest := [(.int 0), (.ref b2), (.int 0), (.ref p0)]) (lenOf own_pd11 rfl) rfl (by show 2 * 0 + _ ≤ _; exact Nat.le_of_eq rfl) (hb hby od27_24) (fun _ _ => ⟨rfl, e2, (by decide : 1 + 0 ≤ _), (by decide : 64 + 0 ≤ _)⟩)
  dsimp only [Pt.U, Pt.locs, Pt.cells, Pt.slots] at X4 l4 y4 z4 st4 hQ4
  subst y4 z4
  refine Go.st st4 ?_
  obtain ⟨rfl, N4q, e4⟩ := hQ4
  have N4 : Fr n0 L4 := by rw [l4]; exact Fr.app N1 N4q
  show Go _ _ _ _ (T4.setTop (mkF m 27 #[lR p0, lI (0 : Int32), lI p2, lI p2, lR b2] [(.int p2), (.int 0), (.ref b2), (.int 0), (.ref p0)]))
  obtain ⟨T5, L5, X5, N5d, K5q, A5, st5⟩ := own_acopy X4 hx hZ e4 hown (mvT hZ (ow hw 158 rfl)) (mvT hZ (ow hw 119 rfl)) (mvT hZ (ow hw 117 rfl)) (mvT hZ (ow hw 118 rfl)) c3 V2 (o := 0) (q := 0) (n := nv) (ws := va) (by omega) (by omega) (fun i _ => own_cpws hvl i) (g := (mkF m 27 #[lR p0, lI (0 : Int32), lI p2, lI p2, lR b2] [(.int p2), (.int 0), (.ref b2), (.int 0), (.ref p0)])) rfl (by rw [hml]; rfl) rfl rfl hnv rfl (hb hby od27_27) (by decide) (by show 2 * 0 + 0 + (nativeFrameWords "java/lang/System" "arraycopy" 5 + 11) ≤ _; decide)
  refine Go.st st5 ?_
  have N5 := Fr.app N4 (N5d _ g_b2)
  have O5 := O2.keep K5q (allS g_b2 all0)
  have K5 : Keep h0 T5.heap [] := K2.trans K5q (allS (Or.inr sz_b2) all0)
  show Go _ _ _ _ (T5.setTop (mkF m 30 #[lR p0, lI (0 : Int32), lI p2, lI p2, lR b2] []))
  refine Go.st (fun _ => XS.aload X5.here hx rfl (hb hby od27_30) rfl rfl) ?_
  show Go _ _ _ _ (T5.setTop (mkF m 32 #[lR p0, lI (0 : Int32), lI p2, lI p2, lR b2] [(.ref b2)]))
  obtain ⟨fs, hr, hrun, hended, hW, hsame⟩ := X5.leave (v := some (.ref b2)) (fun h => by rw [Bd.returns] at h; cases h)
  refine ⟨_, ?_, hPend _ _ hrun hended ⟨_, _, rfl, ?_, ⟨_, rfl⟩, hW, hsame.mono (by decide) (by decide)⟩⟩
  · exact retOut X5 hx (t := (.array .byte)) Bd.returns rfl (Or.inr (Or.inr (Or.inr (Or.inr ⟨rfl, rfl, rfl⟩)))) (hb hby od27_32) hr
  · show Q_rm_cprb Z _ _ _ _ _ _ _ h0 n0 _ T5.heap _
    exact ⟨b2, k2, rfl, N5, K5, sz_b2, A5⟩
theorem own_ef_rm_cpr (m : MethodId) (x0 : Addr) (x1 : Int32) (x2 : Int32) : entryFrame m #[(.ref x0), (.int x1), (.int x2)] 3 = mkF m 0 #[.val (.ref x0), .val (.int x1), .val (.int x2)] [] := by first | (simp [entryFrame, mkF, argsToLocals, Value.category]; done) | rfl
theorem od28_0 : decode jdk_65_method_132_code 0 = .ok (.iload_n 1, 1) := by decide +kernel
theorem od28_1 : decode jdk_65_method_132_code 1 = .ok (.ifCond .ne 9, 3) := by decide +kernel
theorem od28_4 : decode jdk_65_method_132_code 4 = .ok (.iload_n 2, 1) := by decide +kernel
theorem od28_5 : decode jdk_65_method_132_code 5 = .ok (.aload_n 0, 1) := by decide +kernel
theorem od28_6 : decode jdk_65_method_132_code 6 = .ok (.arraylength, 1) := by decide +kernel
theorem od28_7 : decode jdk_65_method_132_code 7 = .ok (.if_icmp .eq 10, 3) := by decide +kernel
theorem od28_17 : decode jdk_65_method_132_code 17 = .ok (.aload_n 0, 1) := by decide +kernel
theorem od28_18 : decode jdk_65_method_132_code 18 = .ok (.invokevirtual 310, 3) := by decide +kernel
theorem od28_21 : decode jdk_65_method_132_code 21 = .ok (.checkcast 311, 3) := by decide +kernel
theorem od28_24 : decode jdk_65_method_132_code 24 = .ok (.areturn, 1) := by decide +kernel
theorem od28_10 : decode jdk_65_method_132_code 10 = .ok (.aload_n 0, 1) := by decide +kernel
theorem od28_11 : decode jdk_65_method_132_code 11 = .ok (.iload_n 1, 1) := by decide +kernel
theorem od28_12 : decode jdk_65_method_132_code 12 = .ok (.iload_n 2, 1) := by decide +kernel
theorem od28_13 : decode jdk_65_method_132_code 13 = .ok (.invokestatic 339, 3) := by decide +kernel
theorem own_pd16 : parseMethodDescriptor "([BII)[B" = some ⟨[(.array .byte), .int, .int], some (.array .byte)⟩ := by decide +kernel
theorem od28_16 : decode jdk_65_method_132_code 16 = .ok (.areturn, 1) := by decide +kernel
def Q_rm_cpr (Z : State) (g_CS : Int32) (p0 : Addr) (p2 : Int32) (ka : ClassId) (za : Int32) (va : List Value) (nv : Nat) (h0 : Heap) (n0 : Nat) (v : Option Value) (h : Heap) (L : List Loc) : Prop := ∃ (ob : Addr) (kb : ClassId), v = some (.ref ob) ∧ Fr n0 L ∧ Keep h0 h [] ∧ h0.size ≤ ob ∧ Arv Z h ob kb .byte p2 va (.int 0)
set_option maxRecDepth 65536 in
set_option maxHeartbeats 40000000 in
theorem rm_cpr (l : Launch) (Z : State) (a0 : Array Value) (hw : ∀ d ∈ tables_1, d.before a0 Z = true) (ws : List Jvm.Cond) (g_CS : Int32) (S_CS : Sta Z Z.heap "java/lang/String" "COMPACT_STRINGS" "Z" (.int g_CS)) (nz_CS : ¬ (g_CS = (0 : Int32))) (p0 : Addr) (p2 : Int32) (ka : ClassId) (za : Int32) (va : List Value) (nv : Nat) (h0 : Heap) (n0 : Nat) (X00 : Old Z n0 h0) (hp0 : Exa Z h0 p0 "[B") (hp1 : Arv Z h0 p0 ka .byte za va (.int 0)) (hnv : p2 = Int32.ofNat nv) (hvl : va.length ≤ nv) (hn64 : nv ≤ 64) (hzc : nv ≤ za.toNatClampNeg) :
    MetFree l (⟨"java/util/Arrays", "copyOfRange", "([BII)[B"⟩ : MethodName) (head1 (Jvm.Cond.code (⟨"java/util/Arrays", "copyOfRange", "([BII)[B"⟩ : MethodName) jdk_65_method_132_code 3 (some (.array .byte)) :: ws) ({ frames := 2, cells := 1, slots := 64, locals := 34 } : Room)) (fun a U => a = #[(.ref p0), (.int 0), (.int p2)] ∧ Z.Warmed39 U.vm ∧ U.heap = h0) (fun _ _ _ _ _ => True) (fun _ U o U' => ∃ v L, o = .returned v ∧ Q_rm_cpr Z g_CS p0 p2 ka za va nv h0 n0 v U'.heap L ∧ FrameEnd U o U' L ({ frames := 2, cells := 1, slots := 64, locals := 34 } : Room).cells ({ frames := 2, cells := 1, slots := 64, locals := 34 } : Room).slots) := by
  refine MetFree.of_bodySF (plainFor_of_name own_pn7) hisR ?_
  intro p e s m args below meth c s₁ Bd hml0 hP hK
  obtain ⟨rfl, hZ, hh⟩ := hP
  have hx := Bd.exec
  have hby := Bd.bytes
  have hml : c.maxLocals = 3 := hml0
  have hown : s.vm.findClass "java/util/Arrays" = some m.cls := findClass_of_methodNamed Bd.named
  have hnm := (name_of_methodNamed Bd.named Bd.method).1
  have X0 : Stand p l e ({ frames := 2, cells := 1, slots := 64, locals := 34 } : Room) s m #[(.ref p0), (.int 0), (.int p2)] below meth c s₁ [] 0 0 := Stand.of_body Bd
  have e0 : s₁.heap = h0 := by rw [← hh, Bd.state]; rfl
  have N0 := Fr.nil n0
  refine Go.start fun P hPend => ?_
  refine Go.st (fun _ k => castTop (own_ef_rm_cpr m p0 ((0 : Int32)) p2) k) ?_
  have hq2 : p2.toNatClampNeg = nv := by rw [hnv]; exact own_clamp (by omega)
  have hp2 : ¬ (p2 < 0) := by rw [hnv]; exact own_nneg (by omega)
  show Go _ _ _ _ (s₁.setTop (mkF m 0 #[lR p0, lI (0 : Int32), lI p2] []))
  refine Go.st (fun _ => XS.iloadN X0.here hx rfl (hb hby od28_0) rfl) ?_
  show Go _ _ _ _ (s₁.setTop (mkF m 1 #[lR p0, lI (0 : Int32), lI p2] [(.int 0)]))
  refine Go.st (fun _ => XS.ifNo X0.here hx rfl (hb hby od28_1) rfl ((if0 _ _).trans (teq (by decide)).2)) ?_
  show Go _ _ _ _ (s₁.setTop (mkF m 4 #[lR p0, lI (0 : Int32), lI p2] []))
  refine Go.st (fun _ => XS.iloadN X0.here hx rfl (hb hby od28_4) rfl) ?_
  refine Go.st (fun _ => XS.aloadN X0.here hx rfl (hb hby od28_5) rfl rfl) ?_
  show Go _ _ _ _ (s₁.setTop (mkF m 6 #[lR p0, lI (0 : Int32), lI p2] [(.ref p0), (.int p2)]))
  refine Go.st (fun _ => own_len X0 hx hZ e0 hp1 (g := (mkF m 6 #[lR p0, lI (0 : Int32), lI p2] [(.ref p0), (.int p2)])) rfl rfl (hb hby od28_6) _) ?_
  show Go _ _ _ _ (s₁.setTop (mkF m 7 #[lR p0, lI (0 : Int32), lI p2] [(.int za), (.int p2)]))
  by_cases hc1 : p2 = za
  · skip
    have hcz : za.toNatClampNeg ≤ 64 := by rw [← hc1]; omega
    refine Go.st (fun _ => XS.icmpYes X0.here hx rfl (pc0 := 7) (pc' := 17) rfl (hb hby od28_7) rfl (teq hc1).1 (by decide) (by decide)) ?_
    show Go _ _ _ _ (s₁.setTop (mkF m 17 #[lR p0, lI (0 : Int32), lI p2] []))
    refine Go.st (fun _ => XS.aloadN X0.here hx rfl (hb hby od28_17) rfl rfl) ?_
    show Go _ _ _ _ (s₁.setTop (mkF m 18 #[lR p0, lI (0 : Int32), lI p2] [(.ref p0)]))
    obtain ⟨T2, h2, X2, e2, E2, A2, B2, st2⟩ := cloneH X0 hx hZ hown (ow hw 255 rfl) (ow hw 256 rfl) (ow hw 260 rfl) (ow hw 258 rfl) (ow hw 259 rfl) (ow hw 261 rfl) e0 (Arv.arh hp1) hp0 (g := (mkF m 18 #[lR p0, lI (0 : Int32), lI p2] [(.ref p0)])) rfl (by rw [hml]; rfl) rfl (hb hby od28_18) (by decide) (W := 0) (cap := 64) (by show 2 * 0 + _ ≤ _; exact Nat.le_of_eq rfl) (by decide) hcz (by decide) (by decide)
    obtain ⟨b2, g2⟩ : ∃ z, z = h0.size := ⟨_, rfl⟩
    rw [← g2] at A2 B2 st2
    refine Go.st st2 ?_
    have g_b2 : n0 ≤ b2 := Nat.le_trans (own_oldsz X00) (Nat.le_of_eq g2.symm)
    have sz_b2 : h0.size ≤ b2 := Nat.le_trans (Keep.refl h0 []).1 (Nat.le_of_eq g2.symm)
    have K2 : Keep h0 h2 [] := (Keep.refl h0 []).ext E2
    have O2 := X00.ext E2
    have V2 : Arv Z h2 b2 ka .byte za va (.int 0) := A2
    show Go _ _ _ _ (T2.setTop (mkF m 21 #[lR p0, lI (0 : Int32), lI p2] [(.ref b2)]))
    obtain ⟨T3, X3, e3, st3⟩ := castY X2 hx hZ hown (ow hw 262 rfl) e2 (Ins.self B2) (g := (mkF m 21 #[lR p0, lI (0 : Int32), lI p2] [(.ref b2)])) rfl rfl (hb hby od28_21)
    refine Go.st st3 ?_
    show Go _ _ _ _ (T3.setTop (mkF m 24 #[lR p0, lI (0 : Int32), lI p2] [(.ref b2)]))
    obtain ⟨fs, hr, hrun, hended, hW, hsame⟩ := X3.leave (v := some (.ref b2)) (fun h => by rw [Bd.returns] at h; cases h)
    refine ⟨_, ?_, hPend _ _ hrun hended ⟨_, _, rfl, ?_, ⟨_, rfl⟩, hW, hsame.mono (by decide) (by decide)⟩⟩
    · exact retOut X3 hx (t := (.array .byte)) Bd.returns rfl (Or.inr (Or.inr (Or.inr (Or.inr ⟨rfl, rfl, rfl⟩)))) (hb hby od28_24) hr
    · show Q_rm_cpr Z _ _ _ _ _ _ _ h0 n0 _ T3.heap _
      rw [e3]
      exact ⟨b2, ka, rfl, N0, K2, sz_b2, (by rw [(by assumption : p2 = za)]; exact V2)⟩
  · skip
    have hlt : p2 < za := own_ltz (own_arvnn hp1) hnv hzc hc1
    refine Go.st (fun _ => XS.icmpNo X0.here hx rfl (hb hby od28_7) rfl (feq hc1).1) ?_
    show Go _ _ _ _ (s₁.setTop (mkF m 10 #[lR p0, lI (0 : Int32), lI p2] []))
    refine Go.st (fun _ => XS.aloadN X0.here hx rfl (hb hby od28_10) rfl rfl) ?_
    refine Go.st (fun _ => XS.iloadN X0.here hx rfl (hb hby od28_11) rfl) ?_
    refine Go.st (fun _ => XS.iloadN X0.here hx rfl (hb hby od28_12) rfl) ?_
    show Go _ _ _ _ (s₁.setTop (mkF m 13 #[lR p0, lI (0 : Int32), lI p2] [(.int p2), (.int 0), (.ref p0)]))
    obtain ⟨_, _, ⟨T4, L4, k4, n4⟩, -, X4, ⟨Lc4, hQ4, l4, y4, z4⟩, st4⟩ := Jvm.LawKit.callS X0 hx (y := (⟨"java/util/Arrays", "copyOfRangeByte", "([BII)[B"⟩ : MethodName)) hown (mvT hZ (ow hw 201 rfl)) (mvT hZ (ow hw 202 rfl)) (mvT hZ (ow hw 153 rfl)) (mvT hZ (ow hw 203 rfl)) (by decide) (backOf (W := 0) (rm_cprb l Z a0 hw [] g_CS S_CS nz_CS p0 p2 ka za va nv h0 n0 X00 hp1 hnv hvl hn64 hlt hp2 hq2 hzc) hZ (ow hw 203 rfl) (ow hw 153 rfl) (by decide) (by decide)) (g := (mkF m 13 #[lR p0, lI (0 : Int32), lI p2] [(.int p2), (.int 0), (.ref p0)])) rfl (by rw [hml]; rfl) (argsL := [(.ref p0), (.int 0), (.int p2)]) (rest := []) (lenOf own_pd16 rfl) rfl (by show 2 * 0 + _ ≤ _; exact Nat.le_of_eq rfl) (hb hby od28_13) (fun _ _ => ⟨rfl, e0, (by decide : 0 + 1 ≤ _), (by decide : 0 + 64 ≤ _)⟩)
    dsimp only [Pt.U, Pt.locs, Pt.cells, Pt.slots] at X4 l4 y4 z4 st4 hQ4
    subst y4 z4
    refine Go.st st4 ?_
    obtain ⟨ob_5, kb_6, rfl, N4q, K4q, q4_0, q4_1⟩ := hQ4
    have N4 : Fr n0 L4 := by rw [l4]; exact Fr.app N0 N4q
    have O4 := X00.keep K4q all0
    have K4 : Keep h0 T4.heap [] := (Keep.refl h0 []).trans K4q all0
    have sz_ob_5 : h0.size ≤ ob_5 := Nat.le_trans (Keep.refl h0 []).1 q4_0
    have g_ob_5 : n0 ≤ ob_5 := Nat.le_trans (own_oldsz X00) sz_ob_5
    show Go _ _ _ _ (T4.setTop (mkF m 16 #[lR p0, lI (0 : Int32), lI p2] [(.ref ob_5)]))
    obtain ⟨fs, hr, hrun, hended, hW, hsame⟩ := X4.leave (v := some (.ref ob_5)) (fun h => by rw [Bd.returns] at h; cases h)
    refine ⟨_, ?_, hPend _ _ hrun hended ⟨_, _, rfl, ?_, ⟨_, rfl⟩, hW, hsame.mono (by decide) (by decide)⟩⟩
    · exact retOut X4 hx (t := (.array .byte)) Bd.returns rfl (Or.inr (Or.inr (Or.inr (Or.inr ⟨rfl, rfl, rfl⟩)))) (hb hby od28_16) hr
    · show Q_rm_cpr Z _ _ _ _ _ _ _ h0 n0 _ T4.heap _
      exact ⟨ob_5, kb_6, rfl, N4, K4, sz_ob_5, q4_1⟩
theorem own_ef_rm_sini2 (m : MethodId) (x0 : Addr) (x1 : Addr) : entryFrame m #[(.ref x0), (.ref x1), .null] 5 = mkF m 0 #[.val (.ref x0), .val (.ref x1), .val .null, .unset, .unset] [] := by first | (simp [entryFrame, mkF, argsToLocals, Value.category]; done) | rfl
theorem od29_0 : decode jdk_42_method_150_code 0 = .ok (.aload_n 0, 1) := by decide +kernel
theorem od29_1 : decode jdk_42_method_150_code 1 = .ok (.invokespecial 1, 3) := by decide +kernel
theorem od29_4 : decode jdk_42_method_150_code 4 = .ok (.aload_n 1, 1) := by decide +kernel
theorem od29_5 : decode jdk_42_method_150_code 5 = .ok (.invokevirtual 552, 3) := by decide +kernel
theorem own_pd17 : parseMethodDescriptor "()[B" = some ⟨[], some (.array .byte)⟩ := by decide +kernel
theorem od29_8 : decode jdk_42_method_150_code 8 = .ok (.astore_n 3, 1) := by decide +kernel
theorem od29_9 : decode jdk_42_method_150_code 9 = .ok (.aload_n 1, 1) := by decide +kernel
theorem od29_10 : decode jdk_42_method_150_code 10 = .ok (.invokevirtual 549, 3) := by decide +kernel
theorem od29_13 : decode jdk_42_method_150_code 13 = .ok (.istore 4, 2) := by decide +kernel
theorem od29_15 : decode jdk_42_method_150_code 15 = .ok (.aload_n 1, 1) := by decide +kernel
theorem od29_16 : decode jdk_42_method_150_code 16 = .ok (.invokevirtual 1047, 3) := by decide +kernel
theorem own_pd18 : parseMethodDescriptor "()Z" = some ⟨[], some .boolean⟩ := by decide +kernel
theorem od29_19 : decode jdk_42_method_150_code 19 = .ok (.ifCond .eq 22, 3) := by decide +kernel
theorem od29_22 : decode jdk_42_method_150_code 22 = .ok (.aload_n 0, 1) := by decide +kernel
theorem od29_23 : decode jdk_42_method_150_code 23 = .ok (.iconst 0, 1) := by decide +kernel
theorem od29_24 : decode jdk_42_method_150_code 24 = .ok (.putfield 15, 3) := by decide +kernel
theorem od29_27 : decode jdk_42_method_150_code 27 = .ok (.aload_n 0, 1) := by decide +kernel
theorem od29_28 : decode jdk_42_method_150_code 28 = .ok (.aload_n 3, 1) := by decide +kernel
theorem od29_29 : decode jdk_42_method_150_code 29 = .ok (.iconst 0, 1) := by decide +kernel
theorem od29_30 : decode jdk_42_method_150_code 30 = .ok (.iload 4, 2) := by decide +kernel
theorem od29_32 : decode jdk_42_method_150_code 32 = .ok (.invokestatic 54, 3) := by decide +kernel
theorem od29_35 : decode jdk_42_method_150_code 35 = .ok (.putfield 9, 3) := by decide +kernel
theorem od29_38 : decode jdk_42_method_150_code 38 = .ok (.goto 59, 3) := by decide +kernel
theorem od29_97 : decode jdk_42_method_150_code 97 = .ok (.return_, 1) := by decide +kernel
def Q_rm_sini2 (Z : State) (g_CS : Int32) (p0 : Addr) (p1 : Addr) (pcs : List Int32) (arr : Addr) (ka : ClassId) (za : Int32) (h0 : Heap) (n0 : Nat) (v : Option Value) (h : Heap) (L : List Loc) : Prop := ∃ (ob : Addr) (kb : ClassId), v = none ∧ Fr n0 L ∧ Keep h0 h [p0] ∧ h0.size ≤ ob ∧ Exa Z h p0 "java/lang/String" ∧ Fld Z h p0 "java/lang/String" "coder" "B" (.int 0) ∧ Fld Z h p0 "java/lang/String" "value" "[B" (.ref ob) ∧ Arv Z h ob kb .byte (Int32.ofNat pcs.length) ((pcs.map StrChars.lo8).map Value.int) (.int 0)
set_option maxRecDepth 65536 in
set_option maxHeartbeats 40000000 in
theorem rm_sini2 (l : Launch) (Z : State) (a0 : Array Value) (hw : ∀ d ∈ tables_1, d.before a0 Z = true) (ws : List Jvm.Cond) (g_CS : Int32) (S_CS : Sta Z Z.heap "java/lang/String" "COMPACT_STRINGS" "Z" (.int g_CS)) (nz_CS : ¬ (g_CS = (0 : Int32))) (p0 : Addr) (p1 : Addr) (pcs : List Int32) (arr : Addr) (ka : ClassId) (za : Int32) (h0 : Heap) (n0 : Nat) (X00 : Old Z n0 h0) (hp0 : Exa Z h0 p0 "java/lang/String") (hp1 : Fld Z h0 p0 "java/lang/String" "value" "[B" .null) (hp2 : Fld Z h0 p0 "java/lang/String" "coder" "B" (.int 0)) (hp3 : n0 ≤ p0) (hp4 : Exa Z h0 p1 "java/lang/StringBuilder") (hp5 : Fld Z h0 p1 "java/lang/AbstractStringBuilder" "value" "[B" (.ref arr)) (hp6 : Fld Z h0 p1 "java/lang/AbstractStringBuilder" "coder" "B" (.int 0)) (hp7 : Fld Z h0 p1 "java/lang/AbstractStringBuilder" "count" "I" (.int (Int32.ofNat pcs.length))) (hp8 : Exa Z h0 arr "[B") (hp9 : Arv Z h0 arr ka .byte za ((pcs.map StrChars.lo8).map Value.int) (.int 0)) (hcap : pcs.length ≤ za.toNatClampNeg) (hn64 : pcs.length ≤ 64) :
    MetFree l (⟨"java/lang/String", "<init>", "(Ljava/lang/AbstractStringBuilder;Ljava/lang/Void;)V"⟩ : MethodName) (head1 (Jvm.Cond.code (⟨"java/lang/String", "<init>", "(Ljava/lang/AbstractStringBuilder;Ljava/lang/Void;)V"⟩ : MethodName) jdk_42_method_150_code 5 none :: ws) ({ frames := 3, cells := 1, slots := 64, locals := 49 } : Room)) (fun a U => a = #[(.ref p0), (.ref p1), .null] ∧ Z.Warmed39 U.vm ∧ U.heap = h0) (fun _ _ _ _ _ => True) (fun _ U o U' => ∃ v L, o = .returned v ∧ Q_rm_sini2 Z g_CS p0 p1 pcs arr ka za h0 n0 v U'.heap L ∧ FrameEnd U o U' L ({ frames := 3, cells := 1, slots := 64, locals := 49 } : Room).cells ({ frames := 3, cells := 1, slots := 64, locals := 49 } : Room).slots) := by
  refine MetFree.of_bodySF (plainFor_of_name own_pn0) hisR ?_
  intro p e s m args below meth c s₁ Bd hml0 hP hK
  obtain ⟨rfl, hZ, hh⟩ := hP
  have hx := Bd.exec
  have hby := Bd.bytes
  have hml : c.maxLocals = 5 := hml0
  have hown : s.vm.findClass "java/lang/String" = some m.cls := findClass_of_methodNamed Bd.named
  have hnm := (name_of_methodNamed Bd.named Bd.method).1
  have X0 : Stand p l e ({ frames := 3, cells := 1, slots := 64, locals := 49 } : Room) s m #[(.ref p0), (.ref p1), .null] below meth c s₁ [] 0 0 := Stand.of_body Bd
  have e0 : s₁.heap = h0 := by rw [← hh, Bd.state]; rfl
  have N0 := Fr.nil n0
  refine Go.start fun P hPend => ?_
  refine Go.st (fun _ k => castTop (own_ef_rm_sini2 m p0 p1) k) ?_
  show Go _ _ _ _ (s₁.setTop (mkF m 0 #[lR p0, lR p1, lN, lU, lU] []))
  refine Go.st (fun _ => XS.aloadN X0.here hx rfl (hb hby od29_0) rfl rfl) ?_
  show Go _ _ _ _ (s₁.setTop (mkF m 1 #[lR p0, lR p1, lN, lU, lU] [(.ref p0)]))
  obtain ⟨T1, X1, e1, st1⟩ := initO X0 hx hZ hown (ow hw 19 rfl) (ow hw 20 rfl) (ow hw 21 rfl) e0 (g := (mkF m 1 #[lR p0, lR p1, lN, lU, lU] [(.ref p0)])) rfl (by rw [hml]; rfl) rfl (hb hby od29_1) (by decide) (W := 0) (by show 2 * 0 + _ ≤ _; exact Nat.le_of_eq rfl) (by decide)
  refine Go.st st1 ?_
  show Go _ _ _ _ (T1.setTop (mkF m 4 #[lR p0, lR p1, lN, lU, lU] []))
  refine Go.st (fun _ => XS.aloadN X1.here hx rfl (hb hby od29_4) rfl rfl) ?_
  show Go _ _ _ _ (T1.setTop (mkF m 5 #[lR p0, lR p1, lN, lU, lU] [(.ref p1)]))
  obtain ⟨cq2, kq2, q2a, q2b, q2c⟩ := isOf hZ e1 hp4
  obtain ⟨_, _, ⟨T2, L2, k2, n2⟩, -, X2, ⟨Lc2, hQ2, l2, y2, z2⟩, st2⟩ := X1.virtualBack hx (y := (⟨"java/lang/AbstractStringBuilder", "getValue", "()[B"⟩ : MethodName)) (z := (⟨"java/lang/AbstractStringBuilder", "getValue", "()[B"⟩ : MethodName)) hown (mvT hZ (ow hw 184 rfl)) (mvT hZ (ow hw 185 rfl)) (notFace_of_selects (args := #[]) (mvT hZ (ow hw 187 rfl))) (mvT hZ (ow hw 187 rfl)) (mvT hZ (ow hw 186 rfl)) (by decide) (backOf (W := 0) (rm_getv l Z a0 hw [] g_CS S_CS nz_CS p1 arr h0 n0 X00 hp5) hZ (ow hw 188 rfl) (ow hw 64 rfl) (by decide) (by decide)) q2a q2c (g := (mkF m 5 #[lR p0, lR p1, lN, lU, lU] [(.ref p1)])) rfl (by rw [hml]; rfl) (Steps.refl _) (argsL := []) (rest := []) (lenOf own_pd17 rfl) rfl (by show 2 * 0 + _ ≤ _; exact Nat.le_of_eq rfl) (hb hby od29_5) (fun _ _ => ⟨rfl, e1, (by decide : 0 + 0 ≤ _), (by decide : 0 + 0 ≤ _)⟩)
  dsimp only [Pt.U, Pt.locs, Pt.cells, Pt.slots] at X2 l2 y2 z2 st2 hQ2
  subst y2 z2
  refine Go.tr st2 ?_
  obtain ⟨rfl, N2q, e2⟩ := hQ2
  have N2 : Fr n0 L2 := by rw [l2]; exact Fr.app N0 N2q
  show Go _ _ _ _ (T2.setTop (mkF m 8 #[lR p0, lR p1, lN, lU, lU] [(.ref arr)]))
  refine Go.st (fun _ => XS.astoreN X2.here hx rfl (hb hby od29_8) rfl rfl (l' := #[lR p0, lR p1, lN, lR arr, lU]) rfl) ?_
  show Go _ _ _ _ (T2.setTop (mkF m 9 #[lR p0, lR p1, lN, lR arr, lU] []))
  refine Go.st (fun _ => XS.aloadN X2.here hx rfl (hb hby od29_9) rfl rfl) ?_
  show Go _ _ _ _ (T2.setTop (mkF m 10 #[lR p0, lR p1, lN, lR arr, lU] [(.ref p1)]))
  obtain ⟨cq3, kq3, q3a, q3b, q3c⟩ := isOf hZ e2 hp4
  obtain ⟨_, _, ⟨T3, L3, k3, n3⟩, -, X3, ⟨Lc3, hQ3, l3, y3, z3⟩, st3⟩ := X2.virtualBack hx (y := (⟨"java/lang/AbstractStringBuilder", "length", "()I"⟩ : MethodName)) (z := (⟨"java/lang/StringBuilder", "length", "()I"⟩ : MethodName)) hown (mvT hZ (ow hw 189 rfl)) (mvT hZ (ow hw 190 rfl)) (own_nf (args := #[]) (mvT hZ (ow hw 98 rfl)) rfl) (mvT hZ (ow hw 192 rfl)) (mvT hZ (ow hw 193 rfl)) (by decide) (backOf (W := 0) (rm_slen l Z a0 hw [] g_CS S_CS nz_CS p1 (Int32.ofNat pcs.length) h0 n0 X00 hp4 hp7) hZ (ow hw 194 rfl) (ow hw 56 rfl) (by decide) (by decide)) q3a q3c (g := (mkF m 10 #[lR p0, lR p1, lN, lR arr, lU] [(.ref p1)])) rfl (by rw [hml]; rfl) (Steps.refl _) (argsL := []) (rest := []) (lenOf own_pd8 rfl) rfl (by show 2 * 0 + _ ≤ _; exact Nat.le_of_eq rfl) (hb hby od29_10) (fun _ _ => ⟨rfl, e2, (by decide : 0 + 0 ≤ _), (by decide : 0 + 0 ≤ _)⟩)
  dsimp only [Pt.U, Pt.locs, Pt.cells, Pt.slots] at X3 l3 y3 z3 st3 hQ3
  subst y3 z3
  refine Go.tr st3 ?_
  obtain ⟨rfl, N3q, e3⟩ := hQ3
  have N3 : Fr n0 L3 := by rw [l3]; exact Fr.app N2 N3q
  show Go _ _ _ _ (T3.setTop (mkF m 13 #[lR p0, lR p1, lN, lR arr, lU] [(.int (Int32.ofNat pcs.length))]))
  refine Go.st (fun _ => XS.istore X3.here hx rfl (hb hby od29_13) rfl (l' := #[lR p0, lR p1, lN, lR arr, lI (Int32.ofNat pcs.length)]) rfl) ?_
  show Go _ _ _ _ (T3.setTop (mkF m 15 #[lR p0, lR p1, lN, lR arr, lI (Int32.ofNat pcs.length)] []))
  refine Go.st (fun _ => XS.aloadN X3.here hx rfl (hb hby od29_15) rfl rfl) ?_
  show Go _ _ _ _ (T3.setTop (mkF m 16 #[lR p0, lR p1, lN, lR arr, lI (Int32.ofNat pcs.length)] [(.ref p1)]))
  obtain ⟨cq4, kq4, q4a, q4b, q4c⟩ := isOf hZ e3 hp4
  obtain ⟨_, _, ⟨T4, L4, k4, n4⟩, -, X4, ⟨Lc4, hQ4, l4, y4, z4⟩, st4⟩ := X3.virtualBack hx (y := (⟨"java/lang/AbstractStringBuilder", "isLatin1", "()Z"⟩ : MethodName)) (z := (⟨"java/lang/AbstractStringBuilder", "isLatin1", "()Z"⟩ : MethodName)) hown (mvT hZ (ow hw 197 rfl)) (mvT hZ (ow hw 160 rfl)) (notFace_of_selects (args := #[]) (mvT hZ (ow hw 162 rfl))) (mvT hZ (ow hw 162 rfl)) (mvT hZ (ow hw 161 rfl)) (by decide) (backOf (W := 0) (rm_isl1 l Z a0 hw [] g_CS S_CS nz_CS p1 h0 n0 X00 hp6) hZ (ow hw 163 rfl) (ow hw 64 rfl) (by decide) (by decide)) q4a q4c (g := (mkF m 16 #[lR p0, lR p1, lN, lR arr, lI (Int32.ofNat pcs.length)] [(.ref p1)])) rfl (by rw [hml]; rfl) (Steps.refl _) (argsL := []) (rest := []) (lenOf own_pd18 rfl) rfl (by show 2 * 0 + _ ≤ _; exact Nat.le_of_eq rfl) (hb hby od29_16) (fun _ _ => ⟨rfl, e3, (by decide : 0 + 0 ≤ _), (by decide : 0 + 0 ≤ _)⟩)
  dsimp only [Pt.U, Pt.locs, Pt.cells, Pt.slots] at X4 l4 y4 z4 st4 hQ4
  subst y4 z4
  refine Go.tr st4 ?_
  obtain ⟨rfl, N4q, e4⟩ := hQ4
  have N4 : Fr n0 L4 := by rw [l4]; exact Fr.app N3 N4q
  show Go _ _ _ _ (T4.setTop (mkF m 19 #[lR p0, lR p1, lN, lR arr, lI (Int32.ofNat pcs.length)] [(.int 1)]))
  refine Go.st (fun _ => XS.ifNo X4.here hx rfl (hb hby od29_19) rfl ((if0 _ _).trans (feq (by decide)).1)) ?_
  show Go _ _ _ _ (T4.setTop (mkF m 22 #[lR p0, lR p1, lN, lR arr, lI (Int32.ofNat pcs.length)] []))
  refine Go.st (fun _ => XS.aloadN X4.here hx rfl (hb hby od29_22) rfl rfl) ?_
  refine Go.st (fun _ => XS.iconst X4.here hx rfl (hb hby od29_23)) ?_
  show Go _ _ _ _ (T4.setTop (mkF m 24 #[lR p0, lR p1, lN, lR arr, lI (Int32.ofNat pcs.length)] [(.int 0), (.ref p0)]))
  obtain ⟨T5, h5, X5, e5, W5, st5⟩ := putF X4 hx hZ hown (host := "") (Or.inl (ow hw 24 rfl)) Via.refl e4 hp2 hp0 (Or.inr ⟨(ow hw 25 rfl), rfl, hnm⟩) (ow hw 10 rfl) (ty := .byte) (by decide) rfl rfl (g := (mkF m 24 #[lR p0, lR p1, lN, lR arr, lI (Int32.ofNat pcs.length)] [(.int 0), (.ref p0)])) rfl rfl (hb hby od29_24)
  refine Go.st st5 ?_
  have K5 : Keep h0 h5 [p0] := (Keep.refl h0 [p0]).wr W5 (Or.inl (List.mem_of_getElem? (i := 0) rfl))
  have O5 := X00.wr W5 hp3
  have N5 := Fr.snoc X5 N4 hp3
  have F5 := hp2.same W5
  show Go _ _ _ _ (T5.setTop (mkF m 27 #[lR p0, lR p1, lN, lR arr, lI (Int32.ofNat pcs.length)] []))
  refine Go.st (fun _ => XS.aloadN X5.here hx rfl (hb hby od29_27) rfl rfl) ?_
  refine Go.st (fun _ => XS.aloadN X5.here hx rfl (hb hby od29_28) rfl rfl) ?_
  refine Go.st (fun _ => XS.iconst X5.here hx rfl (hb hby od29_29)) ?_
  refine Go.st (fun _ => XS.iload X5.here hx rfl (hb hby od29_30) rfl) ?_
  show Go _ _ _ _ (T5.setTop (mkF m 32 #[lR p0, lR p1, lN, lR arr, lI (Int32.ofNat pcs.length)] [(.int (Int32.ofNat pcs.length)), (.int 0), (.ref arr), (.ref p0)]))
  have c7 := (hp8.wr W5)
  have c8 := (hp9.other W5 (Ne.symm (Exa.neArv hp0 hp9 (ow hw 10 rfl))))
  have c9 := (hp0.wr W5)
  have c10 := (hp4.wr W5)
  obtain ⟨_, _, ⟨T6, L6, k6, n6⟩, -, X6, ⟨Lc6, hQ6, l6, y6, z6⟩, st6⟩ := Jvm.LawKit.callS X5 hx (y := (⟨"java/util/Arrays", "copyOfRange", "([BII)[B"⟩ : MethodName)) hown (mvT hZ (ow hw 198 rfl)) (mvT hZ (ow hw 199 rfl)) (mvT hZ (ow hw 153 rfl)) (mvT hZ (ow hw 200 rfl)) (by decide) (backOf (W := 1) (rm_cpr l Z a0 hw [] g_CS S_CS nz_CS arr (Int32.ofNat pcs.length) ka za ((pcs.map StrChars.lo8).map Value.int) pcs.length h5 n0 O5 c7 c8 rfl (by rw [List.length_map, List.length_map]; exact Nat.le_refl _) hn64 hcap) hZ (ow hw 200 rfl) (ow hw 153 rfl) (by decide) (by decide)) (g := (mkF m 32 #[lR p0, lR p1, lN, lR arr, lI (Int32.ofNat pcs.length)] [(.int (Int32.ofNat pcs.length)), (.int 0), (.ref arr), (.ref p0)])) rfl (by rw [hml]; rfl) (argsL := [(.ref arr), (.int 0), (.int (Int32.ofNat pcs.length))]) (rest := [(.ref p0)]) (lenOf own_pd16 rfl) rfl (by show 2 * 0 + _ ≤ _; exact Nat.le_of_eq rfl) (hb hby od29_32) (fun _ _ => ⟨rfl, e5, (by decide : 0 + 1 ≤ _), (by decide : 0 + 64 ≤ _)⟩)
  dsimp only [Pt.U, Pt.locs, Pt.cells, Pt.slots] at X6 l6 y6 z6 st6 hQ6
  subst y6 z6
  refine Go.st st6 ?_
  obtain ⟨ob_11, kb_12, rfl, N6q, K6q, q6_0, q6_1⟩ := hQ6
  have N6 : Fr n0 L6 := by rw [l6]; exact Fr.app N5 N6q
  have O6 := O5.keep K6q all0
  have K6 : Keep h0 T6.heap [p0] := K5.trans K6q all0
  have sz_ob_11 : h0.size ≤ ob_11 := Nat.le_trans K5.1 q6_0
  have g_ob_11 : n0 ≤ ob_11 := Nat.le_trans (own_oldsz X00) sz_ob_11
  show Go _ _ _ _ (T6.setTop (mkF m 35 #[lR p0, lR p1, lN, lR arr, lI (Int32.ofNat pcs.length)] [(.ref ob_11), (.ref p0)]))
  have c13 := ((hp1.other W5 (Or.inr (slot_ne (Or.inr (ow hw 23 rfl)) (Or.inr (ow hw 25 rfl)) (by decide) (t := (.array .byte)) (t' := .byte) (by decide) (by decide)))).keep K6q nin0)
  have c14 := (c9.keep K6q)
  obtain ⟨T15, h15, X15, e15, W15, st15⟩ := putF X6 hx hZ hown (host := "") (Or.inl (ow hw 22 rfl)) Via.refl rfl c13 c14 (Or.inr ⟨(ow hw 23 rfl), rfl, hnm⟩) (ow hw 10 rfl) (ty := (.array .byte)) (by decide) rfl rfl (g := (mkF m 35 #[lR p0, lR p1, lN, lR arr, lI (Int32.ofNat pcs.length)] [(.ref ob_11), (.ref p0)])) rfl rfl (hb hby od29_35)
  refine Go.st st15 ?_
  have K15 : Keep h0 h15 [p0] := K6.wr W15 (Or.inl (List.mem_of_getElem? (i := 0) rfl))
  have O15 := O6.wr W15 hp3
  have N15 := Fr.snoc X15 N6 hp3
  have F15 := c13.same W15
  show Go _ _ _ _ (T15.setTop (mkF m 38 #[lR p0, lR p1, lN, lR arr, lI (Int32.ofNat pcs.length)] []))
  refine Go.st (fun _ => XS.goto X15.here hx rfl (pc0 := 38) (pc' := 97) rfl (hb hby od29_38) (by decide) (by decide)) ?_
  show Go _ _ _ _ (T15.setTop (mkF m 97 #[lR p0, lR p1, lN, lR arr, lI (Int32.ofNat pcs.length)] []))
  obtain ⟨fs, hr, hrun, hended, hW, hsame⟩ := X15.leave (v := none) (fun _ => rfl)
  refine ⟨_, ?_, hPend _ _ hrun hended ⟨_, _, rfl, ?_, ⟨_, rfl⟩, hW, hsame.mono (by decide) (by decide)⟩⟩
  · exact X15.returnOut hx Bd.returns (hb hby od29_97) hr
  · show Q_rm_sini2 Z _ _ _ _ _ _ _ h0 n0 _ T15.heap _
    rw [e15]
    have c16 := (c14.wr W15)
    have c17 := ((F5.keep K6q nin0).other W15 (Or.inr (slot_ne (Or.inr (ow hw 25 rfl)) (Or.inr (ow hw 23 rfl)) (by decide) (t := .byte) (t' := (.array .byte)) (by decide) (by decide))))
    have c18 := (q6_1.other W15 (Ne.symm (Nat.ne_of_lt (Nat.lt_of_lt_of_le c9.lt q6_0))))
    exact ⟨ob_11, kb_12, rfl, N15, K15, sz_ob_11, c16, c17, F15, c18⟩
theorem own_ef_rm_sini1 (m : MethodId) (x0 : Addr) (x1 : Addr) : entryFrame m #[(.ref x0), (.ref x1)] 2 = mkF m 0 #[.val (.ref x0), .val (.ref x1)] [] := by first | (simp [entryFrame, mkF, argsToLocals, Value.category]; done) | rfl
theorem od30_0 : decode jdk_42_method_53_code 0 = .ok (.aload_n 0, 1) := by decide +kernel
theorem od30_1 : decode jdk_42_method_53_code 1 = .ok (.aload_n 1, 1) := by decide +kernel
theorem od30_2 : decode jdk_42_method_53_code 2 = .ok (.aconst_null, 1) := by decide +kernel
theorem od30_3 : decode jdk_42_method_53_code 3 = .ok (.invokespecial 489, 3) := by decide +kernel
theorem own_pd19 : parseMethodDescriptor "(Ljava/lang/AbstractStringBuilder;Ljava/lang/Void;)V" = some ⟨[(.object "java/lang/AbstractStringBuilder"), (.object "java/lang/Void")], none⟩ := by decide +kernel
theorem od30_6 : decode jdk_42_method_53_code 6 = .ok (.return_, 1) := by decide +kernel
def Q_rm_sini1 (Z : State) (g_CS : Int32) (p0 : Addr) (p1 : Addr) (pcs : List Int32) (arr : Addr) (ka : ClassId) (za : Int32) (h0 : Heap) (n0 : Nat) (v : Option Value) (h : Heap) (L : List Loc) : Prop := ∃ (ob : Addr) (kb : ClassId), v = none ∧ Fr n0 L ∧ Keep h0 h [p0] ∧ h0.size ≤ ob ∧ Exa Z h p0 "java/lang/String" ∧ Fld Z h p0 "java/lang/String" "coder" "B" (.int 0) ∧ Fld Z h p0 "java/lang/String" "value" "[B" (.ref ob) ∧ Arv Z h ob kb .byte (Int32.ofNat pcs.length) ((pcs.map StrChars.lo8).map Value.int) (.int 0)
set_option maxRecDepth 65536 in
set_option maxHeartbeats 40000000 in
theorem rm_sini1 (l : Launch) (Z : State) (a0 : Array Value) (hw : ∀ d ∈ tables_1, d.before a0 Z = true) (ws : List Jvm.Cond) (g_CS : Int32) (S_CS : Sta Z Z.heap "java/lang/String" "COMPACT_STRINGS" "Z" (.int g_CS)) (nz_CS : ¬ (g_CS = (0 : Int32))) (p0 : Addr) (p1 : Addr) (pcs : List Int32) (arr : Addr) (ka : ClassId) (za : Int32) (h0 : Heap) (n0 : Nat) (X00 : Old Z n0 h0) (hp0 : Exa Z h0 p0 "java/lang/String") (hp1 : Fld Z h0 p0 "java/lang/String" "value" "[B" .null) (hp2 : Fld Z h0 p0 "java/lang/String" "coder" "B" (.int 0)) (hp3 : n0 ≤ p0) (hp4 : Exa Z h0 p1 "java/lang/StringBuilder") (hp5 : Fld Z h0 p1 "java/lang/AbstractStringBuilder" "value" "[B" (.ref arr)) (hp6 : Fld Z h0 p1 "java/lang/AbstractStringBuilder" "coder" "B" (.int 0)) (hp7 : Fld Z h0 p1 "java/lang/AbstractStringBuilder" "count" "I" (.int (Int32.ofNat pcs.length))) (hp8 : Exa Z h0 arr "[B") (hp9 : Arv Z h0 arr ka .byte za ((pcs.map StrChars.lo8).map Value.int) (.int 0)) (hcap : pcs.length ≤ za.toNatClampNeg) (hn64 : pcs.length ≤ 64) :
    MetFree l (⟨"java/lang/String", "<init>", "(Ljava/lang/StringBuilder;)V"⟩ : MethodName) (head1 (Jvm.Cond.code (⟨"java/lang/String", "<init>", "(Ljava/lang/StringBuilder;)V"⟩ : MethodName) jdk_42_method_53_code 2 none :: ws) ({ frames := 4, cells := 1, slots := 64, locals := 65 } : Room)) (fun a U => a = #[(.ref p0), (.ref p1)] ∧ Z.Warmed39 U.vm ∧ U.heap = h0) (fun _ _ _ _ _ => True) (fun _ U o U' => ∃ v L, o = .returned v ∧ Q_rm_sini1 Z g_CS p0 p1 pcs arr ka za h0 n0 v U'.heap L ∧ FrameEnd U o U' L ({ frames := 4, cells := 1, slots := 64, locals := 65 } : Room).cells ({ frames := 4, cells := 1, slots := 64, locals := 65 } : Room).slots) := by
  refine MetFree.of_bodySF (plainFor_of_name own_pn0) hisR ?_
  intro p e s m args below meth c s₁ Bd hml0 hP hK
  obtain ⟨rfl, hZ, hh⟩ := hP
  have hx := Bd.exec
  have hby := Bd.bytes
  have hml : c.maxLocals = 2 := hml0
  have hown : s.vm.findClass "java/lang/String" = some m.cls := findClass_of_methodNamed Bd.named
  have hnm := (name_of_methodNamed Bd.named Bd.method).1
  have X0 : Stand p l e ({ frames := 4, cells := 1, slots := 64, locals := 65 } : Room) s m #[(.ref p0), (.ref p1)] below meth c s₁ [] 0 0 := Stand.of_body Bd
  have e0 : s₁.heap = h0 := by rw [← hh, Bd.state]; rfl
  have N0 := Fr.nil n0
  refine Go.start fun P hPend => ?_
  refine Go.st (fun _ k => castTop (own_ef_rm_sini1 m p0 p1) k) ?_
  show Go _ _ _ _ (s₁.setTop (mkF m 0 #[lR p0, lR p1] []))
  refine Go.st (fun _ => XS.aloadN X0.here hx rfl (hb hby od30_0) rfl rfl) ?_
  refine Go.st (fun _ => XS.aloadN X0.here hx rfl (hb hby od30_1) rfl rfl) ?_
  show Go _ _ _ _ (s₁.setTop (mkF m 2 #[lR p0, lR p1] [(.ref p1), (.ref p0)]))
  refine Go.st (fun _ => XS.aconstNull X0.here hx rfl (hb hby od30_2)) ?_
  show Go _ _ _ _ (s₁.setTop (mkF m 3 #[lR p0, lR p1] [.null, (.ref p1), (.ref p0)]))
  obtain ⟨_, _, ⟨T1, L1, k1, n1⟩, -, X1, ⟨Lc1, hQ1, l1, y1, z1⟩, st1⟩ := X0.specialBack hx (y := (⟨"java/lang/String", "<init>", "(Ljava/lang/AbstractStringBuilder;Ljava/lang/Void;)V"⟩ : MethodName)) rfl hown (mvT hZ (ow hw 181 rfl)) (mvT hZ (ow hw 182 rfl)) (mvT hZ (ow hw 183 rfl)) (by decide) (backOf (W := 0) (rm_sini2 l Z a0 hw [] g_CS S_CS nz_CS p0 p1 pcs arr ka za h0 n0 X00 hp0 hp1 hp2 hp3 hp4 hp5 hp6 hp7 hp8 hp9 hcap hn64) hZ (ow hw 183 rfl) (ow hw 2 rfl) (by decide) (by decide)) (g := (mkF m 3 #[lR p0, lR p1] [.null, (.ref p1), (.ref p0)])) rfl (by rw [hml]; rfl) (Steps.refl _) (a := p0) (argsL := [(.ref p1), .null]) (rest := []) (lenOf own_pd19 rfl) rfl (by show 2 * 0 + _ ≤ _; exact Nat.le_of_eq rfl) (hb hby od30_3) (fun _ _ => ⟨rfl, e0, (by decide : 0 + 1 ≤ _), (by decide : 0 + 64 ≤ _)⟩)
  dsimp only [Pt.U, Pt.locs, Pt.cells, Pt.slots] at X1 l1 y1 z1 st1 hQ1
  subst y1 z1
  refine Go.tr st1 ?_
  obtain ⟨ob_2, kb_3, rfl, N1q, K1q, q1_0, q1_1, q1_2, q1_3, q1_4⟩ := hQ1
  have N1 : Fr n0 L1 := by rw [l1]; exact Fr.app N0 N1q
  have O1 := X00.keep K1q (allS hp3 all0)
  have K1 : Keep h0 T1.heap [p0] := (Keep.refl h0 [p0]).trans K1q (allS (Or.inl (List.mem_of_getElem? (i := 0) rfl)) all0)
  have sz_ob_2 : h0.size ≤ ob_2 := Nat.le_trans (Keep.refl h0 [p0]).1 q1_0
  have g_ob_2 : n0 ≤ ob_2 := Nat.le_trans (own_oldsz X00) sz_ob_2
  show Go _ _ _ _ (T1.setTop (mkF m 6 #[lR p0, lR p1] []))
  obtain ⟨fs, hr, hrun, hended, hW, hsame⟩ := X1.leave (v := none) (fun _ => rfl)
  refine ⟨_, ?_, hPend _ _ hrun hended ⟨_, _, rfl, ?_, ⟨_, rfl⟩, hW, hsame.mono (by decide) (by decide)⟩⟩
  · exact X1.returnOut hx Bd.returns (hb hby od30_6) hr
  · show Q_rm_sini1 Z _ _ _ _ _ _ _ h0 n0 _ T1.heap _
    exact ⟨ob_2, kb_3, rfl, N1, K1, sz_ob_2, q1_1, q1_2, q1_3, q1_4⟩
theorem own_ef_rm_tostr (m : MethodId) (x0 : Addr) : entryFrame m #[(.ref x0)] 1 = mkF m 0 #[.val (.ref x0)] [] := by first | (simp [entryFrame, mkF, argsToLocals, Value.category]; done) | rfl
theorem od31_0 : decode jdk_67_method_42_code 0 = .ok (.new 18, 3) := by decide +kernel
theorem od31_3 : decode jdk_67_method_42_code 3 = .ok (.dup, 1) := by decide +kernel
theorem od31_4 : decode jdk_67_method_42_code 4 = .ok (.aload_n 0, 1) := by decide +kernel
theorem od31_5 : decode jdk_67_method_42_code 5 = .ok (.invokespecial 137, 3) := by decide +kernel
theorem own_pd20 : parseMethodDescriptor "(Ljava/lang/StringBuilder;)V" = some ⟨[(.object "java/lang/StringBuilder")], none⟩ := by decide +kernel
theorem od31_8 : decode jdk_67_method_42_code 8 = .ok (.areturn, 1) := by decide +kernel
def Q_rm_tostr (Z : State) (g_CS : Int32) (p0 : Addr) (pcs : List Int32) (arr : Addr) (ka : ClassId) (za : Int32) (h0 : Heap) (n0 : Nat) (v : Option Value) (h : Heap) (L : List Loc) : Prop := ∃ (os : Addr) (ob : Addr) (kb : ClassId), v = some (.ref os) ∧ Fr n0 L ∧ Keep h0 h [] ∧ h0.size ≤ os ∧ h0.size ≤ ob ∧ Exa Z h os "java/lang/String" ∧ Fld Z h os "java/lang/String" "coder" "B" (.int 0) ∧ Fld Z h os "java/lang/String" "value" "[B" (.ref ob) ∧ Arv Z h ob kb .byte (Int32.ofNat pcs.length) ((pcs.map StrChars.lo8).map Value.int) (.int 0)
set_option maxRecDepth 65536 in
set_option maxHeartbeats 40000000 in
theorem rm_tostr (l : Launch) (Z : State) (a0 : Array Value) (hw : ∀ d ∈ tables_1, d.before a0 Z = true) (ws : List Jvm.Cond) (g_CS : Int32) (S_CS : Sta Z Z.heap "java/lang/String" "COMPACT_STRINGS" "Z" (.int g_CS)) (nz_CS : ¬ (g_CS = (0 : Int32))) (p0 : Addr) (pcs : List Int32) (arr : Addr) (ka : ClassId) (za : Int32) (h0 : Heap) (n0 : Nat) (X00 : Old Z n0 h0) (hp0 : Exa Z h0 p0 "java/lang/StringBuilder") (hp1 : Fld Z h0 p0 "java/lang/AbstractStringBuilder" "value" "[B" (.ref arr)) (hp2 : Fld Z h0 p0 "java/lang/AbstractStringBuilder" "coder" "B" (.int 0)) (hp3 : Fld Z h0 p0 "java/lang/AbstractStringBuilder" "count" "I" (.int (Int32.ofNat pcs.length))) (hp4 : Exa Z h0 arr "[B") (hp5 : Arv Z h0 arr ka .byte za ((pcs.map StrChars.lo8).map Value.int) (.int 0)) (hcap : pcs.length ≤ za.toNatClampNeg) (hn64 : pcs.length ≤ 64) :
    MetFree l (⟨"java/lang/StringBuilder", "toString", "()Ljava/lang/String;"⟩ : MethodName) (head1 (Jvm.Cond.code (⟨"java/lang/StringBuilder", "toString", "()Ljava/lang/String;"⟩ : MethodName) jdk_67_method_42_code 1 (some (.object "java/lang/String")) :: ws) ({ frames := 5, cells := 2, slots := 68, locals := 79 } : Room)) (fun a U => a = #[(.ref p0)] ∧ Z.Warmed39 U.vm ∧ U.heap = h0) (fun _ _ _ _ _ => True) (fun _ U o U' => ∃ v L, o = .returned v ∧ Q_rm_tostr Z g_CS p0 pcs arr ka za h0 n0 v U'.heap L ∧ FrameEnd U o U' L ({ frames := 5, cells := 2, slots := 68, locals := 79 } : Room).cells ({ frames := 5, cells := 2, slots := 68, locals := 79 } : Room).slots) := by
  refine MetFree.of_bodySF (plainFor_of_name own_pn5) hisR ?_
  intro p e s m args below meth c s₁ Bd hml0 hP hK
  obtain ⟨rfl, hZ, hh⟩ := hP
  have hx := Bd.exec
  have hby := Bd.bytes
  have hml : c.maxLocals = 1 := hml0
  have hown : s.vm.findClass "java/lang/StringBuilder" = some m.cls := findClass_of_methodNamed Bd.named
  have hnm := (name_of_methodNamed Bd.named Bd.method).1
  have X0 : Stand p l e ({ frames := 5, cells := 2, slots := 68, locals := 79 } : Room) s m #[(.ref p0)] below meth c s₁ [] 0 0 := Stand.of_body Bd
  have e0 : s₁.heap = h0 := by rw [← hh, Bd.state]; rfl
  have N0 := Fr.nil n0
  refine Go.start fun P hPend => ?_
  refine Go.st (fun _ k => castTop (own_ef_rm_tostr m p0) k) ?_
  show Go _ _ _ _ (s₁.setTop (mkF m 0 #[lR p0] []))
  obtain ⟨T1, h1, X1, e1, E1, A1, D1, -, st1⟩ := newO X0 hx hZ hown (ow hw 177 rfl) (ow hw 10 rfl) (ow hw 2 rfl) e0 (g := (mkF m 0 #[lR p0] [])) rfl (hb hby od31_0) (by decide) (by decide)
  obtain ⟨b1, g1⟩ : ∃ z, z = h0.size := ⟨_, rfl⟩
  rw [← g1] at A1 D1 st1
  refine Go.st st1 ?_
  have g_b1 : n0 ≤ b1 := Nat.le_trans (own_oldsz X00) (Nat.le_of_eq g1.symm)
  have sz_b1 : h0.size ≤ b1 := Nat.le_trans (Keep.refl h0 []).1 (Nat.le_of_eq g1.symm)
  have K1 : Keep h0 h1 [] := (Keep.refl h0 []).ext E1
  have O1 := X00.ext E1
  have F2 : Fld Z h1 b1 "java/lang/String" "value" "[B" .null := D1 (Or.inr (ow hw 23 rfl)) (ty := (.array .byte)) (by decide)
  have F3 : Fld Z h1 b1 "java/lang/String" "coder" "B" (.int 0) := D1 (Or.inr (ow hw 25 rfl)) (ty := .byte) (by decide)
  show Go _ _ _ _ (T1.setTop (mkF m 3 #[lR p0] [(.ref b1)]))
  refine Go.st (fun _ => XS.dup X1.here hx rfl (hb hby od31_3) rfl rfl) ?_
  refine Go.st (fun _ => XS.aloadN X1.here hx rfl (hb hby od31_4) rfl rfl) ?_
  show Go _ _ _ _ (T1.setTop (mkF m 5 #[lR p0] [(.ref p0), (.ref b1), (.ref b1)]))
  have c5 := (hp0.ext E1)
  have c6 := (hp1.ext E1)
  have c7 := (hp2.ext E1)
  have c8 := (hp3.ext E1)
  have c9 := (hp4.ext E1)
  have c10 := (hp5.ext E1)
  obtain ⟨_, _, ⟨T4, L4, k4, n4⟩, -, X4, ⟨Lc4, hQ4, l4, y4, z4⟩, st4⟩ := X1.specialBack hx (y := (⟨"java/lang/String", "<init>", "(Ljava/lang/StringBuilder;)V"⟩ : MethodName)) rfl hown (mvT hZ (ow hw 178 rfl)) (mvT hZ (ow hw 179 rfl)) (mvT hZ (ow hw 180 rfl)) (by decide) (backOf (W := 1) (rm_sini1 l Z a0 hw [] g_CS S_CS nz_CS b1 p0 pcs arr ka za h1 n0 O1 A1 F2 F3 g_b1 c5 c6 c7 c8 c9 c10 hcap hn64) hZ (ow hw 180 rfl) (ow hw 2 rfl) (by decide) (by decide)) (g := (mkF m 5 #[lR p0] [(.ref p0), (.ref b1), (.ref b1)])) rfl (by rw [hml]; rfl) (Steps.refl _) (a := b1) (argsL := [(.ref p0)]) (rest := [(.ref b1)]) (lenOf own_pd20 rfl) rfl (by show 2 * 0 + _ ≤ _; exact Nat.le_of_eq rfl) (hb hby od31_5) (fun _ _ => ⟨rfl, e1, (by decide : 1 + 1 ≤ _), (by decide : 4 + 64 ≤ _)⟩)
  dsimp only [Pt.U, Pt.locs, Pt.cells, Pt.slots] at X4 l4 y4 z4 st4 hQ4
  subst y4 z4
  refine Go.tr st4 ?_
  obtain ⟨ob_11, kb_12, rfl, N4q, K4q, q4_0, q4_1, q4_2, q4_3, q4_4⟩ := hQ4
  have N4 : Fr n0 L4 := by rw [l4]; exact Fr.app N0 N4q
  have O4 := O1.keep K4q (allS g_b1 all0)
  have K4 : Keep h0 T4.heap [] := K1.trans K4q (allS (Or.inr sz_b1) all0)
  have sz_ob_11 : h0.size ≤ ob_11 := Nat.le_trans K1.1 q4_0
  have g_ob_11 : n0 ≤ ob_11 := Nat.le_trans (own_oldsz X00) sz_ob_11
  show Go _ _ _ _ (T4.setTop (mkF m 8 #[lR p0] [(.ref b1)]))
  obtain ⟨fs, hr, hrun, hended, hW, hsame⟩ := X4.leave (v := some (.ref b1)) (fun h => by rw [Bd.returns] at h; cases h)
  refine ⟨_, ?_, hPend _ _ hrun hended ⟨_, _, rfl, ?_, ⟨_, rfl⟩, hW, hsame.mono (by decide) (by decide)⟩⟩
  · exact retOut X4 hx (t := (.object "java/lang/String")) Bd.returns rfl (Or.inr (Or.inr (Or.inr (Or.inr ⟨rfl, rfl, rfl⟩)))) (hb hby od31_8) hr
  · show Q_rm_tostr Z _ _ _ _ _ _ h0 n0 _ T4.heap _
    exact ⟨b1, ob_11, kb_12, rfl, N4, K4, sz_b1, sz_ob_11, q4_1, q4_2, q4_3, q4_4⟩
theorem own_ssTab (Z : State) (a0 : Array Value) (hw : ∀ d ∈ tables_1, d.before a0 Z = true) {s : State} {args : Array Value} (hZ : Z.Warmed39 s.vm) : Jvm.Free.SBG.StrSizeL.tab.before args s = true := by
  simp only [Jvm.Free.SBG.StrSizeL.tab, Cond.before_and, Bool.and_eq_true]
  exact ⟨mvT hZ (ow hw 133 rfl), mvT hZ (ow hw 134 rfl), mvT hZ (ow hw 135 rfl)⟩
theorem own_gcTab (Z : State) (a0 : Array Value) (hw : ∀ d ∈ tables_1, d.before a0 Z = true) {s : State} {args : Array Value} (hZ : Z.Warmed39 s.vm) : Jvm.Free.SBG.GetCharsL.tab.before args s = true := by
  simp only [Jvm.Free.SBG.GetCharsL.tab, Cond.before_and, Bool.and_eq_true]
  exact ⟨mvT hZ (ow hw 166 rfl), mvT hZ (ow hw 169 rfl), mvT hZ (ow hw 171 rfl), mvT hZ (ow hw 167 rfl), mvT hZ (ow hw 168 rfl)⟩
theorem own_ef_rm_ajr (m : MethodId) (x0 : Addr) (x1 : Int64) : entryFrame m #[(.ref x0), (.long x1)] 5 = mkF m 0 #[.val (.ref x0), .val (.long x1), .second, .unset, .unset] [] := by first | (simp [entryFrame, mkF, argsToLocals, Value.category]; done) | rfl
theorem od32_0 : decode jdk_68_method_33_code 0 = .ok (.aload_n 0, 1) := by decide +kernel
theorem od32_1 : decode jdk_68_method_33_code 1 = .ok (.getfield 79, 3) := by decide +kernel
theorem od32_4 : decode jdk_68_method_33_code 4 = .ok (.istore_n 3, 1) := by decide +kernel
theorem od32_5 : decode jdk_68_method_33_code 5 = .ok (.iload_n 3, 1) := by decide +kernel
theorem od32_6 : decode jdk_68_method_33_code 6 = .ok (.lload_n 1, 1) := by decide +kernel
theorem od32_7 : decode jdk_68_method_33_code 7 = .ok (.invokestatic 254, 3) := by decide +kernel
theorem od32_10 : decode jdk_68_method_33_code 10 = .ok (.iadd, 1) := by decide +kernel
theorem od32_11 : decode jdk_68_method_33_code 11 = .ok (.istore 4, 2) := by decide +kernel
theorem od32_13 : decode jdk_68_method_33_code 13 = .ok (.aload_n 0, 1) := by decide +kernel
theorem od32_14 : decode jdk_68_method_33_code 14 = .ok (.iload 4, 2) := by decide +kernel
theorem od32_16 : decode jdk_68_method_33_code 16 = .ok (.invokevirtual 100, 3) := by decide +kernel
theorem od32_19 : decode jdk_68_method_33_code 19 = .ok (.aload_n 0, 1) := by decide +kernel
theorem od32_20 : decode jdk_68_method_33_code 20 = .ok (.invokevirtual 83, 3) := by decide +kernel
theorem od32_23 : decode jdk_68_method_33_code 23 = .ok (.ifCond .eq 17, 3) := by decide +kernel
theorem od32_26 : decode jdk_68_method_33_code 26 = .ok (.lload_n 1, 1) := by decide +kernel
theorem od32_27 : decode jdk_68_method_33_code 27 = .ok (.iload 4, 2) := by decide +kernel
theorem od32_29 : decode jdk_68_method_33_code 29 = .ok (.aload_n 0, 1) := by decide +kernel
theorem od32_30 : decode jdk_68_method_33_code 30 = .ok (.getfield 15, 3) := by decide +kernel
theorem od32_33 : decode jdk_68_method_33_code 33 = .ok (.invokestatic 259, 3) := by decide +kernel
theorem od32_36 : decode jdk_68_method_33_code 36 = .ok (.pop, 1) := by decide +kernel
theorem od32_37 : decode jdk_68_method_33_code 37 = .ok (.goto 15, 3) := by decide +kernel
theorem od32_52 : decode jdk_68_method_33_code 52 = .ok (.aload_n 0, 1) := by decide +kernel
theorem od32_53 : decode jdk_68_method_33_code 53 = .ok (.iload 4, 2) := by decide +kernel
theorem od32_55 : decode jdk_68_method_33_code 55 = .ok (.putfield 79, 3) := by decide +kernel
theorem od32_58 : decode jdk_68_method_33_code 58 = .ok (.aload_n 0, 1) := by decide +kernel
theorem od32_59 : decode jdk_68_method_33_code 59 = .ok (.areturn, 1) := by decide +kernel
def Q_rm_ajr (Z : State) (w_st : Addr) (w_d1 : Addr) (w_d2 : Addr) (g_CS : Int32) (p0 : Addr) (p1 : Int64) (pcs : List Int32) (arr : Addr) (ka : ClassId) (za : Int32) (h0 : Heap) (n0 : Nat) (v : Option Value) (h : Heap) (L : List Loc) : Prop := v = some (.ref p0) ∧ Fr n0 L ∧ Keep h0 h [p0, arr] ∧ Exa Z h p0 "java/lang/StringBuilder" ∧ Fld Z h p0 "java/lang/AbstractStringBuilder" "value" "[B" (.ref arr) ∧ Fld Z h p0 "java/lang/AbstractStringBuilder" "coder" "B" (.int 0) ∧ Fld Z h p0 "java/lang/AbstractStringBuilder" "count" "I" (.int (Int32.ofNat (pcs ++ own_txt p1).length)) ∧ Exa Z h arr "[B" ∧ Arv Z h arr ka .byte za (((pcs ++ own_txt p1).map StrChars.lo8).map Value.int) (.int 0)
set_option maxRecDepth 65536 in
set_option maxHeartbeats 40000000 in
theorem rm_ajr (l : Launch) (Z : State) (a0 : Array Value) (hw : ∀ d ∈ tables_1, d.before a0 Z = true) (ws : List Jvm.Cond) (w_st : Addr) (w_d1 : Addr) (w_d2 : Addr) (D1c : Cell) (D2c : Cell) (T_1 : Jvm.Free.SBG.Tbl Z "DigitOnes" w_st w_d1 D1c) (T_2 : Jvm.Free.SBG.Tbl Z "DigitTens" w_st w_d2 D2c) (O_1 : Jvm.Free.SBG.Ones D1c) (O_2 : Jvm.Free.SBG.Tens D2c) (lt_st : w_st < Z.heap.size) (lt_d1 : w_d1 < Z.heap.size) (lt_d2 : w_d2 < Z.heap.size) (g_CS : Int32) (S_CS : Sta Z Z.heap "java/lang/String" "COMPACT_STRINGS" "Z" (.int g_CS)) (nz_CS : ¬ (g_CS = (0 : Int32))) (p0 : Addr) (p1 : Int64) (pcs : List Int32) (arr : Addr) (ka : ClassId) (za : Int32) (h0 : Heap) (n0 : Nat) (X00 : Old Z n0 h0) (hp0 : Exa Z h0 p0 "java/lang/StringBuilder") (hp1 : Fld Z h0 p0 "java/lang/AbstractStringBuilder" "value" "[B" (.ref arr)) (hp2 : Fld Z h0 p0 "java/lang/AbstractStringBuilder" "coder" "B" (.int 0)) (hp3 : Fld Z h0 p0 "java/lang/AbstractStringBuilder" "count" "I" (.int (Int32.ofNat pcs.length))) (hp4 : Exa Z h0 arr "[B") (hp5 : Arv Z h0 arr ka .byte za ((pcs.map StrChars.lo8).map Value.int) (.int 0)) (hp6 : n0 ≤ p0) (hp7 : n0 ≤ arr) (hcap : (pcs ++ own_txt p1).length ≤ za.toNatClampNeg) :
    MetFree l (⟨"java/lang/AbstractStringBuilder", "append", "(J)Ljava/lang/AbstractStringBuilder;"⟩ : MethodName) (head1 (Jvm.Cond.code (⟨"java/lang/AbstractStringBuilder", "append", "(J)Ljava/lang/AbstractStringBuilder;"⟩ : MethodName) jdk_68_method_33_code 5 (some (.object "java/lang/AbstractStringBuilder")) :: ws) ({ frames := 2, cells := 0, slots := 0, locals := 102 } : Room)) (fun a U => a = #[(.ref p0), (.long p1)] ∧ Z.Warmed39 U.vm ∧ U.heap = h0) (fun _ _ _ _ _ => True) (fun _ U o U' => ∃ v L, o = .returned v ∧ Q_rm_ajr Z w_st w_d1 w_d2 g_CS p0 p1 pcs arr ka za h0 n0 v U'.heap L ∧ FrameEnd U o U' L ({ frames := 2, cells := 0, slots := 0, locals := 102 } : Room).cells ({ frames := 2, cells := 0, slots := 0, locals := 102 } : Room).slots) := by
  refine MetFree.of_bodySF (plainFor_of_name own_pn4) hisR ?_
  intro p e s m args below meth c s₁ Bd hml0 hP hK
  obtain ⟨rfl, hZ, hh⟩ := hP
  have hx := Bd.exec
  have hby := Bd.bytes
  have hml : c.maxLocals = 5 := hml0
  have hown : s.vm.findClass "java/lang/AbstractStringBuilder" = some m.cls := findClass_of_methodNamed Bd.named
  have hnm := (name_of_methodNamed Bd.named Bd.method).1
  have X0 : Stand p l e ({ frames := 2, cells := 0, slots := 0, locals := 102 } : Room) s m #[(.ref p0), (.long p1)] below meth c s₁ [] 0 0 := Stand.of_body Bd
  have e0 : s₁.heap = h0 := by rw [← hh, Bd.state]; rfl
  have N0 := Fr.nil n0
  refine Go.start fun P hPend => ?_
  refine Go.st (fun _ k => castTop (own_ef_rm_ajr m p0 p1) k) ?_
  show Go _ _ _ _ (s₁.setTop (mkF m 0 #[lR p0, lJ p1, lS, lU, lU] []))
  refine Go.st (fun _ => XS.aloadN X0.here hx rfl (hb hby od32_0) rfl rfl) ?_
  show Go _ _ _ _ (s₁.setTop (mkF m 1 #[lR p0, lJ p1, lS, lU, lU] [(.ref p0)]))
  obtain ⟨T1, X1, e1, st1⟩ := getF X0 hx hZ hown (host := "") (Or.inl (ow hw 93 rfl)) Via.refl e0 hp3 (g := (mkF m 1 #[lR p0, lJ p1, lS, lU, lU] [(.ref p0)])) rfl rfl (hb hby od32_1)
  refine Go.st st1 ?_
  show Go _ _ _ _ (T1.setTop (mkF m 4 #[lR p0, lJ p1, lS, lU, lU] [(.int (Int32.ofNat pcs.length))]))
  refine Go.st (fun _ => XS.istoreN X1.here hx rfl (hb hby od32_4) rfl (l' := #[lR p0, lJ p1, lS, lI (Int32.ofNat pcs.length), lU]) rfl) ?_
  show Go _ _ _ _ (T1.setTop (mkF m 5 #[lR p0, lJ p1, lS, lI (Int32.ofNat pcs.length), lU] []))
  refine Go.st (fun _ => XS.iloadN X1.here hx rfl (hb hby od32_5) rfl) ?_
  refine Go.st (fun _ => XS.lloadN X1.here hx rfl (hb hby od32_6) rfl) ?_
  show Go _ _ _ _ (T1.setTop (mkF m 7 #[lR p0, lJ p1, lS, lI (Int32.ofNat pcs.length), lU] [(.long p1), (.int (Int32.ofNat pcs.length))]))
  obtain ⟨T2, X2, e2, st2⟩ := own_strsize X1 hx e1 hown (mvT hZ (ow hw 130 rfl)) (mvT hZ (ow hw 131 rfl)) (mvT hZ (ow hw 132 rfl)) (own_ssTab Z a0 hw hZ) (mvT hZ (ow hw 133 rfl)) (x := p1) (g := (mkF m 7 #[lR p0, lJ p1, lS, lI (Int32.ofNat pcs.length), lU] [(.long p1), (.int (Int32.ofNat pcs.length))])) rfl (by rw [hml]; rfl) rfl (hb hby od32_7) (W := 1) (by show 2 * 0 + _ ≤ _; exact Nat.le_of_eq rfl) (by decide) (by decide) (by decide : 0 ≤ _) (by decide : 0 ≤ _)
  refine Go.st st2 ?_
  show Go _ _ _ _ (T2.setTop (mkF m 10 #[lR p0, lJ p1, lS, lI (Int32.ofNat pcs.length), lU] [(.int (Int32.ofNat (own_txt p1).length)), (.int (Int32.ofNat pcs.length))]))
  refine Go.st (fun _ => XS.iadd X2.here hx rfl (hb hby od32_10) rfl) ?_
  show Go _ _ _ _ (T2.setTop (mkF m 11 #[lR p0, lJ p1, lS, lI (Int32.ofNat pcs.length), lU] [(.int ((Int32.ofNat pcs.length) + (Int32.ofNat (own_txt p1).length)))]))
  rw [own_lenapp pcs (own_txt p1)]
  show Go _ _ _ _ (T2.setTop (mkF m 11 #[lR p0, lJ p1, lS, lI (Int32.ofNat pcs.length), lU] [(.int (Int32.ofNat (pcs ++ own_txt p1).length))]))
  refine Go.st (fun _ => XS.istore X2.here hx rfl (hb hby od32_11) rfl (l' := #[lR p0, lJ p1, lS, lI (Int32.ofNat pcs.length), lI (Int32.ofNat (pcs ++ own_txt p1).length)]) rfl) ?_
  show Go _ _ _ _ (T2.setTop (mkF m 13 #[lR p0, lJ p1, lS, lI (Int32.ofNat pcs.length), lI (Int32.ofNat (pcs ++ own_txt p1).length)] []))
  refine Go.st (fun _ => XS.aloadN X2.here hx rfl (hb hby od32_13) rfl rfl) ?_
  refine Go.st (fun _ => XS.iload X2.here hx rfl (hb hby od32_14) rfl) ?_
  show Go _ _ _ _ (T2.setTop (mkF m 16 #[lR p0, lJ p1, lS, lI (Int32.ofNat pcs.length), lI (Int32.ofNat (pcs ++ own_txt p1).length)] [(.int (Int32.ofNat (pcs ++ own_txt p1).length)), (.ref p0)]))
  obtain ⟨cq3, kq3, q3a, q3b, q3c⟩ := isOf hZ e2 hp0
  obtain ⟨_, _, ⟨T3, L3, k3, n3⟩, -, X3, ⟨Lc3, hQ3, l3, y3, z3⟩, st3⟩ := X2.virtualBack hx (y := (⟨"java/lang/AbstractStringBuilder", "ensureCapacityInternal", "(I)V"⟩ : MethodName)) (z := (⟨"java/lang/AbstractStringBuilder", "ensureCapacityInternal", "(I)V"⟩ : MethodName)) hown (mvT hZ (ow hw 95 rfl)) (mvT hZ (own_declares (ow hw 96 rfl) (ow hw 99 rfl))) (notFace_of_selects (args := #[]) (mvT hZ (ow hw 98 rfl))) (mvT hZ (ow hw 98 rfl)) (mvT hZ (ow hw 96 rfl)) (by decide) (backOf (W := 0) (rm_ensr l Z a0 hw [] g_CS S_CS nz_CS p0 (Int32.ofNat (pcs ++ own_txt p1).length) arr ka za ((pcs.map StrChars.lo8).map Value.int) h0 n0 X00 hp1 hp2 hp5 (own_room (own_arvnn hp5) hcap)) hZ (ow hw 99 rfl) (ow hw 64 rfl) (by decide) (by decide)) q3a q3c (g := (mkF m 16 #[lR p0, lJ p1, lS, lI (Int32.ofNat pcs.length), lI (Int32.ofNat (pcs ++ own_txt p1).length)] [(.int (Int32.ofNat (pcs ++ own_txt p1).length)), (.ref p0)])) rfl (by rw [hml]; rfl) (Steps.refl _) (argsL := [(.int (Int32.ofNat (pcs ++ own_txt p1).length))]) (rest := []) (lenOf own_pd4 rfl) rfl (by show 2 * 0 + _ ≤ _; exact Nat.le_of_eq rfl) (hb hby od32_16) (fun _ _ => ⟨rfl, e2, (by decide : 0 + 0 ≤ _), (by decide : 0 + 0 ≤ _)⟩)
  dsimp only [Pt.U, Pt.locs, Pt.cells, Pt.slots] at X3 l3 y3 z3 st3 hQ3
  subst y3 z3
  refine Go.tr st3 ?_
  obtain ⟨rfl, N3q, e3⟩ := hQ3
  have N3 : Fr n0 L3 := by rw [l3]; exact Fr.app N0 N3q
  show Go _ _ _ _ (T3.setTop (mkF m 19 #[lR p0, lJ p1, lS, lI (Int32.ofNat pcs.length), lI (Int32.ofNat (pcs ++ own_txt p1).length)] []))
  refine Go.st (fun _ => XS.aloadN X3.here hx rfl (hb hby od32_19) rfl rfl) ?_
  show Go _ _ _ _ (T3.setTop (mkF m 20 #[lR p0, lJ p1, lS, lI (Int32.ofNat pcs.length), lI (Int32.ofNat (pcs ++ own_txt p1).length)] [(.ref p0)]))
  obtain ⟨cq4, kq4, q4a, q4b, q4c⟩ := isOf hZ e3 hp0
  obtain ⟨_, _, ⟨T4, L4, k4, n4⟩, -, X4, ⟨Lc4, hQ4, l4, y4, z4⟩, st4⟩ := X3.virtualBack hx (y := (⟨"java/lang/AbstractStringBuilder", "isLatin1", "()Z"⟩ : MethodName)) (z := (⟨"java/lang/AbstractStringBuilder", "isLatin1", "()Z"⟩ : MethodName)) hown (mvT hZ (ow hw 159 rfl)) (mvT hZ (ow hw 160 rfl)) (notFace_of_selects (args := #[]) (mvT hZ (ow hw 162 rfl))) (mvT hZ (ow hw 162 rfl)) (mvT hZ (ow hw 161 rfl)) (by decide) (backOf (W := 0) (rm_isl1 l Z a0 hw [] g_CS S_CS nz_CS p0 h0 n0 X00 hp2) hZ (ow hw 163 rfl) (ow hw 64 rfl) (by decide) (by decide)) q4a q4c (g := (mkF m 20 #[lR p0, lJ p1, lS, lI (Int32.ofNat pcs.length), lI (Int32.ofNat (pcs ++ own_txt p1).length)] [(.ref p0)])) rfl (by rw [hml]; rfl) (Steps.refl _) (argsL := []) (rest := []) (lenOf own_pd18 rfl) rfl (by show 2 * 0 + _ ≤ _; exact Nat.le_of_eq rfl) (hb hby od32_20) (fun _ _ => ⟨rfl, e3, (by decide : 0 + 0 ≤ _), (by decide : 0 + 0 ≤ _)⟩)
  dsimp only [Pt.U, Pt.locs, Pt.cells, Pt.slots] at X4 l4 y4 z4 st4 hQ4
  subst y4 z4
  refine Go.tr st4 ?_
  obtain ⟨rfl, N4q, e4⟩ := hQ4
  have N4 : Fr n0 L4 := by rw [l4]; exact Fr.app N3 N4q
  show Go _ _ _ _ (T4.setTop (mkF m 23 #[lR p0, lJ p1, lS, lI (Int32.ofNat pcs.length), lI (Int32.ofNat (pcs ++ own_txt p1).length)] [(.int 1)]))
  refine Go.st (fun _ => XS.ifNo X4.here hx rfl (hb hby od32_23) rfl ((if0 _ _).trans (feq (by decide)).1)) ?_
  show Go _ _ _ _ (T4.setTop (mkF m 26 #[lR p0, lJ p1, lS, lI (Int32.ofNat pcs.length), lI (Int32.ofNat (pcs ++ own_txt p1).length)] []))
  refine Go.st (fun _ => XS.lloadN X4.here hx rfl (hb hby od32_26) rfl) ?_
  refine Go.st (fun _ => XS.iload X4.here hx rfl (hb hby od32_27) rfl) ?_
  refine Go.st (fun _ => XS.aloadN X4.here hx rfl (hb hby od32_29) rfl rfl) ?_
  show Go _ _ _ _ (T4.setTop (mkF m 30 #[lR p0, lJ p1, lS, lI (Int32.ofNat pcs.length), lI (Int32.ofNat (pcs ++ own_txt p1).length)] [(.ref p0), (.int (Int32.ofNat (pcs ++ own_txt p1).length)), (.long p1)]))
  obtain ⟨T5, X5, e5, st5⟩ := getF X4 hx hZ hown (host := "") (Or.inl (ow hw 68 rfl)) Via.refl e4 hp1 (g := (mkF m 30 #[lR p0, lJ p1, lS, lI (Int32.ofNat pcs.length), lI (Int32.ofNat (pcs ++ own_txt p1).length)] [(.ref p0), (.int (Int32.ofNat (pcs ++ own_txt p1).length)), (.long p1)])) rfl rfl (hb hby od32_30)
  refine Go.st st5 ?_
  show Go _ _ _ _ (T5.setTop (mkF m 33 #[lR p0, lJ p1, lS, lI (Int32.ofNat pcs.length), lI (Int32.ofNat (pcs ++ own_txt p1).length)] [(.ref arr), (.int (Int32.ofNat (pcs ++ own_txt p1).length)), (.long p1)]))
  obtain ⟨T6, L6, v6, X6, N6d, K6q, A6, st6⟩ := own_getchars X5 hx hZ e5 hown (mvT hZ (ow hw 164 rfl)) (mvT hZ (ow hw 165 rfl)) (mvT hZ (ow hw 132 rfl)) (own_gcTab Z a0 hw hZ) (mvT hZ (ow hw 166 rfl)) X00.2 T_1 T_2 O_1 O_2 (Ne.symm (X00.ne lt_st hp7)) (Ne.symm (X00.ne lt_d1 hp7)) (Ne.symm (X00.ne lt_d2 hp7)) hp5 (x := p1) (jx := (Int32.ofNat (pcs ++ own_txt p1).length)) rfl hcap (g := (mkF m 33 #[lR p0, lJ p1, lS, lI (Int32.ofNat pcs.length), lI (Int32.ofNat (pcs ++ own_txt p1).length)] [(.ref arr), (.int (Int32.ofNat (pcs ++ own_txt p1).length)), (.long p1)])) rfl (by rw [hml]; rfl) rfl (hb hby od32_33) (W := 0) (by show 2 * 0 + _ ≤ _; exact Nat.le_of_eq rfl) (by decide) (by decide) (by decide : 0 ≤ _) (by decide : 0 ≤ _)
  refine Go.st st6 ?_
  have N6 := Fr.app N4 (N6d _ hp7)
  have O6 := X00.keep K6q (allS hp7 all0)
  have K6 : Keep h0 T6.heap [p0, arr] := (Keep.refl h0 [p0, arr]).trans K6q (allS (Or.inl (List.mem_of_getElem? (i := 1) rfl)) all0)
  show Go _ _ _ _ (T6.setTop (mkF m 36 #[lR p0, lJ p1, lS, lI (Int32.ofNat pcs.length), lI (Int32.ofNat (pcs ++ own_txt p1).length)] [(.int v6)]))
  refine Go.st (fun _ => XS.pop X6.here hx rfl (hb hby od32_36) rfl rfl) ?_
  show Go _ _ _ _ (T6.setTop (mkF m 37 #[lR p0, lJ p1, lS, lI (Int32.ofNat pcs.length), lI (Int32.ofNat (pcs ++ own_txt p1).length)] []))
  refine Go.st (fun _ => XS.goto X6.here hx rfl (pc0 := 37) (pc' := 52) rfl (hb hby od32_37) (by decide) (by decide)) ?_
  show Go _ _ _ _ (T6.setTop (mkF m 52 #[lR p0, lJ p1, lS, lI (Int32.ofNat pcs.length), lI (Int32.ofNat (pcs ++ own_txt p1).length)] []))
  refine Go.st (fun _ => XS.aloadN X6.here hx rfl (hb hby od32_52) rfl rfl) ?_
  refine Go.st (fun _ => XS.iload X6.here hx rfl (hb hby od32_53) rfl) ?_
  show Go _ _ _ _ (T6.setTop (mkF m 55 #[lR p0, lJ p1, lS, lI (Int32.ofNat pcs.length), lI (Int32.ofNat (pcs ++ own_txt p1).length)] [(.int (Int32.ofNat (pcs ++ own_txt p1).length)), (.ref p0)]))
  have c7 := (hp3.keep K6q (ninS (Exa.neArv hp0 hp5 (ow hw 55 rfl)) nin0))
  have c8 := (hp0.keep K6q)
  obtain ⟨T9, h9, X9, e9, W9, st9⟩ := putF X6 hx hZ hown (host := "") (Or.inl (ow hw 93 rfl)) Via.refl rfl c7 c8 (Or.inl (ow hw 94 rfl)) (ow hw 55 rfl) (ty := .int) (by decide) rfl rfl (g := (mkF m 55 #[lR p0, lJ p1, lS, lI (Int32.ofNat pcs.length), lI (Int32.ofNat (pcs ++ own_txt p1).length)] [(.int (Int32.ofNat (pcs ++ own_txt p1).length)), (.ref p0)])) rfl rfl (hb hby od32_55)
  refine Go.st st9 ?_
  have K9 : Keep h0 h9 [p0, arr] := K6.wr W9 (Or.inl (List.mem_of_getElem? (i := 0) rfl))
  have O9 := O6.wr W9 hp6
  have N9 := Fr.snoc X9 N6 hp6
  have F9 := c7.same W9
  show Go _ _ _ _ (T9.setTop (mkF m 58 #[lR p0, lJ p1, lS, lI (Int32.ofNat pcs.length), lI (Int32.ofNat (pcs ++ own_txt p1).length)] []))
  refine Go.st (fun _ => XS.aloadN X9.here hx rfl (hb hby od32_58) rfl rfl) ?_
  show Go _ _ _ _ (T9.setTop (mkF m 59 #[lR p0, lJ p1, lS, lI (Int32.ofNat pcs.length), lI (Int32.ofNat (pcs ++ own_txt p1).length)] [(.ref p0)]))
  obtain ⟨fs, hr, hrun, hended, hW, hsame⟩ := X9.leave (v := some (.ref p0)) (fun h => by rw [Bd.returns] at h; cases h)
  refine ⟨_, ?_, hPend _ _ hrun hended ⟨_, _, rfl, ?_, ⟨_, rfl⟩, hW, hsame.mono (by decide) (by decide)⟩⟩
  · exact retOut X9 hx (t := (.object "java/lang/AbstractStringBuilder")) Bd.returns rfl (Or.inr (Or.inr (Or.inr (Or.inr ⟨rfl, rfl, rfl⟩)))) (hb hby od32_59) hr
  · show Q_rm_ajr Z _ _ _ _ _ _ _ _ _ _ h0 n0 _ T9.heap _
    rw [e9]
    have c10 := (c8.wr W9)
    have c11 := ((hp1.keep K6q (ninS (Exa.neArv hp0 hp5 (ow hw 55 rfl)) nin0)).other W9 (Or.inr (slot_ne (Or.inl (ow hw 69 rfl)) (Or.inl (ow hw 94 rfl)) (by decide) (t := (.array .byte)) (t' := .int) (by decide) (by decide))))
    have c12 := ((hp2.keep K6q (ninS (Exa.neArv hp0 hp5 (ow hw 55 rfl)) nin0)).other W9 (Or.inr (slot_ne (Or.inl (ow hw 71 rfl)) (Or.inl (ow hw 94 rfl)) (by decide) (t := .byte) (t' := .int) (by decide) (by decide))))
    have c13 := ((hp4.keep K6q).wr W9)
    have c14 := (A6.other W9 (Ne.symm (Exa.neArv hp0 hp5 (ow hw 55 rfl))))
    exact ⟨rfl, N9, K9, c10, c11, c12, F9, c13, c14⟩
theorem own_ef_rm_sjr (m : MethodId) (x0 : Addr) (x1 : Int64) : entryFrame m #[(.ref x0), (.long x1)] 3 = mkF m 0 #[.val (.ref x0), .val (.long x1), .second] [] := by first | (simp [entryFrame, mkF, argsToLocals, Value.category]; done) | rfl
theorem od33_0 : decode jdk_67_method_16_code 0 = .ok (.aload_n 0, 1) := by decide +kernel
theorem od33_1 : decode jdk_67_method_16_code 1 = .ok (.lload_n 1, 1) := by decide +kernel
theorem od33_2 : decode jdk_67_method_16_code 2 = .ok (.invokespecial 56, 3) := by decide +kernel
theorem own_pd21 : parseMethodDescriptor "(J)Ljava/lang/AbstractStringBuilder;" = some ⟨[.long], some (.object "java/lang/AbstractStringBuilder")⟩ := by decide +kernel
theorem od33_5 : decode jdk_67_method_16_code 5 = .ok (.pop, 1) := by decide +kernel
theorem od33_6 : decode jdk_67_method_16_code 6 = .ok (.aload_n 0, 1) := by decide +kernel
theorem od33_7 : decode jdk_67_method_16_code 7 = .ok (.areturn, 1) := by decide +kernel
def Q_rm_sjr (Z : State) (w_st : Addr) (w_d1 : Addr) (w_d2 : Addr) (g_CS : Int32) (p0 : Addr) (p1 : Int64) (pcs : List Int32) (arr : Addr) (ka : ClassId) (za : Int32) (h0 : Heap) (n0 : Nat) (v : Option Value) (h : Heap) (L : List Loc) : Prop := v = some (.ref p0) ∧ Fr n0 L ∧ Keep h0 h [p0, arr] ∧ Exa Z h p0 "java/lang/StringBuilder" ∧ Fld Z h p0 "java/lang/AbstractStringBuilder" "value" "[B" (.ref arr) ∧ Fld Z h p0 "java/lang/AbstractStringBuilder" "coder" "B" (.int 0) ∧ Fld Z h p0 "java/lang/AbstractStringBuilder" "count" "I" (.int (Int32.ofNat (pcs ++ own_txt p1).length)) ∧ Exa Z h arr "[B" ∧ Arv Z h arr ka .byte za (((pcs ++ own_txt p1).map StrChars.lo8).map Value.int) (.int 0)
set_option maxRecDepth 65536 in
set_option maxHeartbeats 40000000 in
theorem rm_sjr (l : Launch) (Z : State) (a0 : Array Value) (hw : ∀ d ∈ tables_1, d.before a0 Z = true) (ws : List Jvm.Cond) (w_st : Addr) (w_d1 : Addr) (w_d2 : Addr) (D1c : Cell) (D2c : Cell) (T_1 : Jvm.Free.SBG.Tbl Z "DigitOnes" w_st w_d1 D1c) (T_2 : Jvm.Free.SBG.Tbl Z "DigitTens" w_st w_d2 D2c) (O_1 : Jvm.Free.SBG.Ones D1c) (O_2 : Jvm.Free.SBG.Tens D2c) (lt_st : w_st < Z.heap.size) (lt_d1 : w_d1 < Z.heap.size) (lt_d2 : w_d2 < Z.heap.size) (g_CS : Int32) (S_CS : Sta Z Z.heap "java/lang/String" "COMPACT_STRINGS" "Z" (.int g_CS)) (nz_CS : ¬ (g_CS = (0 : Int32))) (p0 : Addr) (p1 : Int64) (pcs : List Int32) (arr : Addr) (ka : ClassId) (za : Int32) (h0 : Heap) (n0 : Nat) (X00 : Old Z n0 h0) (hp0 : Exa Z h0 p0 "java/lang/StringBuilder") (hp1 : Fld Z h0 p0 "java/lang/AbstractStringBuilder" "value" "[B" (.ref arr)) (hp2 : Fld Z h0 p0 "java/lang/AbstractStringBuilder" "coder" "B" (.int 0)) (hp3 : Fld Z h0 p0 "java/lang/AbstractStringBuilder" "count" "I" (.int (Int32.ofNat pcs.length))) (hp4 : Exa Z h0 arr "[B") (hp5 : Arv Z h0 arr ka .byte za ((pcs.map StrChars.lo8).map Value.int) (.int 0)) (hp6 : n0 ≤ p0) (hp7 : n0 ≤ arr) (hcap : (pcs ++ own_txt p1).length ≤ za.toNatClampNeg) :
    MetFree l (⟨"java/lang/StringBuilder", "append", "(J)Ljava/lang/StringBuilder;"⟩ : MethodName) (head1 (Jvm.Cond.code (⟨"java/lang/StringBuilder", "append", "(J)Ljava/lang/StringBuilder;"⟩ : MethodName) jdk_67_method_16_code 3 (some (.object "java/lang/StringBuilder")) :: ws) ({ frames := 3, cells := 0, slots := 0, locals := 118 } : Room)) (fun a U => a = #[(.ref p0), (.long p1)] ∧ Z.Warmed39 U.vm ∧ U.heap = h0) (fun _ _ _ _ _ => True) (fun _ U o U' => ∃ v L, o = .returned v ∧ Q_rm_sjr Z w_st w_d1 w_d2 g_CS p0 p1 pcs arr ka za h0 n0 v U'.heap L ∧ FrameEnd U o U' L ({ frames := 3, cells := 0, slots := 0, locals := 118 } : Room).cells ({ frames := 3, cells := 0, slots := 0, locals := 118 } : Room).slots) := by
  refine MetFree.of_bodySF (plainFor_of_name own_pn5) hisR ?_
  intro p e s m args below meth c s₁ Bd hml0 hP hK
  obtain ⟨rfl, hZ, hh⟩ := hP
  have hx := Bd.exec
  have hby := Bd.bytes
  have hml : c.maxLocals = 3 := hml0
  have hown : s.vm.findClass "java/lang/StringBuilder" = some m.cls := findClass_of_methodNamed Bd.named
  have hnm := (name_of_methodNamed Bd.named Bd.method).1
  have X0 : Stand p l e ({ frames := 3, cells := 0, slots := 0, locals := 118 } : Room) s m #[(.ref p0), (.long p1)] below meth c s₁ [] 0 0 := Stand.of_body Bd
  have e0 : s₁.heap = h0 := by rw [← hh, Bd.state]; rfl
  have N0 := Fr.nil n0
  refine Go.start fun P hPend => ?_
  refine Go.st (fun _ k => castTop (own_ef_rm_sjr m p0 p1) k) ?_
  show Go _ _ _ _ (s₁.setTop (mkF m 0 #[lR p0, lJ p1, lS] []))
  refine Go.st (fun _ => XS.aloadN X0.here hx rfl (hb hby od33_0) rfl rfl) ?_
  refine Go.st (fun _ => XS.lloadN X0.here hx rfl (hb hby od33_1) rfl) ?_
  show Go _ _ _ _ (s₁.setTop (mkF m 2 #[lR p0, lJ p1, lS] [(.long p1), (.ref p0)]))
  obtain ⟨_, _, ⟨T1, L1, k1, n1⟩, -, X1, ⟨Lc1, hQ1, l1, y1, z1⟩, st1⟩ := superBack X0 hx hZ (y := (⟨"java/lang/AbstractStringBuilder", "append", "(J)Ljava/lang/AbstractStringBuilder;"⟩ : MethodName)) hown (ow hw 126 rfl) (own_sameself (ow hw 127 rfl) (ow hw 98 rfl) rfl (by decide)) (ow hw 127 rfl) (ow hw 80 rfl) (by decide) (backOf (W := 0) (rm_ajr l Z a0 hw [] w_st w_d1 w_d2 D1c D2c T_1 T_2 O_1 O_2 lt_st lt_d1 lt_d2 g_CS S_CS nz_CS p0 p1 pcs arr ka za h0 n0 X00 hp0 hp1 hp2 hp3 hp4 hp5 hp6 hp7 hcap) hZ (ow hw 129 rfl) (ow hw 64 rfl) (by decide) (by decide)) e0 (Ins.self hp0) (g := (mkF m 2 #[lR p0, lJ p1, lS] [(.long p1), (.ref p0)])) rfl (by rw [hml]; rfl) (ow hw 129 rfl) (argsL := [(.long p1)]) (rest := []) (lenOf own_pd21 rfl) rfl (by show 2 * 0 + _ ≤ _; exact Nat.le_of_eq rfl) (hb hby od33_2) (fun _ _ => ⟨rfl, e0, (by decide : 0 + 0 ≤ _), (by decide : 0 + 0 ≤ _)⟩)
  dsimp only [Pt.U, Pt.locs, Pt.cells, Pt.slots] at X1 l1 y1 z1 st1 hQ1
  subst y1 z1
  refine Go.tr st1 ?_
  obtain ⟨rfl, N1q, K1q, q1_0, q1_1, q1_2, q1_3, q1_4, q1_5⟩ := hQ1
  have N1 : Fr n0 L1 := by rw [l1]; exact Fr.app N0 N1q
  have O1 := X00.keep K1q (allS hp6 (allS hp7 all0))
  have K1 : Keep h0 T1.heap [p0, arr] := (Keep.refl h0 [p0, arr]).trans K1q (allS (Or.inl (List.mem_of_getElem? (i := 0) rfl)) (allS (Or.inl (List.mem_of_getElem? (i := 1) rfl)) all0))
  show Go _ _ _ _ (T1.setTop (mkF m 5 #[lR p0, lJ p1, lS] [(.ref p0)]))
  refine Go.st (fun _ => XS.pop X1.here hx rfl (hb hby od33_5) rfl rfl) ?_
  show Go _ _ _ _ (T1.setTop (mkF m 6 #[lR p0, lJ p1, lS] []))
  refine Go.st (fun _ => XS.aloadN X1.here hx rfl (hb hby od33_6) rfl rfl) ?_
  show Go _ _ _ _ (T1.setTop (mkF m 7 #[lR p0, lJ p1, lS] [(.ref p0)]))
  obtain ⟨fs, hr, hrun, hended, hW, hsame⟩ := X1.leave (v := some (.ref p0)) (fun h => by rw [Bd.returns] at h; cases h)
  refine ⟨_, ?_, hPend _ _ hrun hended ⟨_, _, rfl, ?_, ⟨_, rfl⟩, hW, hsame.mono (by decide) (by decide)⟩⟩
  · exact retOut X1 hx (t := (.object "java/lang/StringBuilder")) Bd.returns rfl (Or.inr (Or.inr (Or.inr (Or.inr ⟨rfl, rfl, rfl⟩)))) (hb hby od33_7) hr
  · show Q_rm_sjr Z _ _ _ _ _ _ _ _ _ _ h0 n0 _ T1.heap _
    exact ⟨rfl, N1, K1, q1_0, q1_1, q1_2, q1_3, q1_4, q1_5⟩
theorem own_ef_rm_ajg (m : MethodId) (x0 : Addr) (x1 : Int64) : entryFrame m #[(.ref x0), (.long x1)] 5 = mkF m 0 #[.val (.ref x0), .val (.long x1), .second, .unset, .unset] [] := by first | (simp [entryFrame, mkF, argsToLocals, Value.category]; done) | rfl
def Q_rm_ajg (Z : State) (w_st : Addr) (w_d1 : Addr) (w_d2 : Addr) (g_CS : Int32) (p0 : Addr) (p1 : Int64) (pcs : List Int32) (arr : Addr) (ka : ClassId) (h0 : Heap) (n0 : Nat) (v : Option Value) (h : Heap) (L : List Loc) : Prop := ∃ (ob : Addr) (kb : ClassId), v = some (.ref p0) ∧ Fr n0 L ∧ Keep h0 h [p0] ∧ h0.size ≤ ob ∧ Exa Z h p0 "java/lang/StringBuilder" ∧ Fld Z h p0 "java/lang/AbstractStringBuilder" "value" "[B" (.ref ob) ∧ Fld Z h p0 "java/lang/AbstractStringBuilder" "coder" "B" (.int 0) ∧ Fld Z h p0 "java/lang/AbstractStringBuilder" "count" "I" (.int (Int32.ofNat (pcs ++ own_txt p1).length)) ∧ Exa Z h ob "[B" ∧ Arv Z h ob kb .byte (34 : Int32) (((pcs ++ own_txt p1).map StrChars.lo8).map Value.int) (.int 0)
set_option maxRecDepth 65536 in
set_option maxHeartbeats 40000000 in
theorem rm_ajg (l : Launch) (Z : State) (a0 : Array Value) (hw : ∀ d ∈ tables_1, d.before a0 Z = true) (ws : List Jvm.Cond) (w_st : Addr) (w_d1 : Addr) (w_d2 : Addr) (D1c : Cell) (D2c : Cell) (T_1 : Jvm.Free.SBG.Tbl Z "DigitOnes" w_st w_d1 D1c) (T_2 : Jvm.Free.SBG.Tbl Z "DigitTens" w_st w_d2 D2c) (O_1 : Jvm.Free.SBG.Ones D1c) (O_2 : Jvm.Free.SBG.Tens D2c) (lt_st : w_st < Z.heap.size) (lt_d1 : w_d1 < Z.heap.size) (lt_d2 : w_d2 < Z.heap.size) (g_CS : Int32) (S_CS : Sta Z Z.heap "java/lang/String" "COMPACT_STRINGS" "Z" (.int g_CS)) (nz_CS : ¬ (g_CS = (0 : Int32))) (p0 : Addr) (p1 : Int64) (pcs : List Int32) (arr : Addr) (ka : ClassId) (h0 : Heap) (n0 : Nat) (X00 : Old Z n0 h0) (hp0 : Exa Z h0 p0 "java/lang/StringBuilder") (hp1 : Fld Z h0 p0 "java/lang/AbstractStringBuilder" "value" "[B" (.ref arr)) (hp2 : Fld Z h0 p0 "java/lang/AbstractStringBuilder" "coder" "B" (.int 0)) (hp3 : Fld Z h0 p0 "java/lang/AbstractStringBuilder" "count" "I" (.int (Int32.ofNat pcs.length))) (hp4 : Exa Z h0 arr "[B") (hp5 : Arv Z h0 arr ka .byte (16 : Int32) ((pcs.map StrChars.lo8).map Value.int) (.int 0)) (hp6 : n0 ≤ p0) (hp7 : n0 ≤ arr) (hpl : pcs.length ≤ 16) (hg1 : 16 < (pcs ++ own_txt p1).length) (hg2 : (pcs ++ own_txt p1).length < 34) :
    MetFree l (⟨"java/lang/AbstractStringBuilder", "append", "(J)Ljava/lang/AbstractStringBuilder;"⟩ : MethodName) (head1 (Jvm.Cond.code (⟨"java/lang/AbstractStringBuilder", "append", "(J)Ljava/lang/AbstractStringBuilder;"⟩ : MethodName) jdk_68_method_33_code 5 (some (.object "java/lang/AbstractStringBuilder")) :: ws) ({ frames := 4, cells := 1, slots := 34, locals := 102 } : Room)) (fun a U => a = #[(.ref p0), (.long p1)] ∧ Z.Warmed39 U.vm ∧ U.heap = h0) (fun _ _ _ _ _ => True) (fun _ U o U' => ∃ v L, o = .returned v ∧ Q_rm_ajg Z w_st w_d1 w_d2 g_CS p0 p1 pcs arr ka h0 n0 v U'.heap L ∧ FrameEnd U o U' L ({ frames := 4, cells := 1, slots := 34, locals := 102 } : Room).cells ({ frames := 4, cells := 1, slots := 34, locals := 102 } : Room).slots) := by
  refine MetFree.of_bodySF (plainFor_of_name own_pn4) hisR ?_
  intro p e s m args below meth c s₁ Bd hml0 hP hK
  obtain ⟨rfl, hZ, hh⟩ := hP
  have hx := Bd.exec
  have hby := Bd.bytes
  have hml : c.maxLocals = 5 := hml0
  have hown : s.vm.findClass "java/lang/AbstractStringBuilder" = some m.cls := findClass_of_methodNamed Bd.named
  have hnm := (name_of_methodNamed Bd.named Bd.method).1
  have X0 : Stand p l e ({ frames := 4, cells := 1, slots := 34, locals := 102 } : Room) s m #[(.ref p0), (.long p1)] below meth c s₁ [] 0 0 := Stand.of_body Bd
  have e0 : s₁.heap = h0 := by rw [← hh, Bd.state]; rfl
  have N0 := Fr.nil n0
  refine Go.start fun P hPend => ?_
  refine Go.st (fun _ k => castTop (own_ef_rm_ajg m p0 p1) k) ?_
  show Go _ _ _ _ (s₁.setTop (mkF m 0 #[lR p0, lJ p1, lS, lU, lU] []))
  refine Go.st (fun _ => XS.aloadN X0.here hx rfl (hb hby od32_0) rfl rfl) ?_
  show Go _ _ _ _ (s₁.setTop (mkF m 1 #[lR p0, lJ p1, lS, lU, lU] [(.ref p0)]))
  obtain ⟨T1, X1, e1, st1⟩ := getF X0 hx hZ hown (host := "") (Or.inl (ow hw 93 rfl)) Via.refl e0 hp3 (g := (mkF m 1 #[lR p0, lJ p1, lS, lU, lU] [(.ref p0)])) rfl rfl (hb hby od32_1)
  refine Go.st st1 ?_
  show Go _ _ _ _ (T1.setTop (mkF m 4 #[lR p0, lJ p1, lS, lU, lU] [(.int (Int32.ofNat pcs.length))]))
  refine Go.st (fun _ => XS.istoreN X1.here hx rfl (hb hby od32_4) rfl (l' := #[lR p0, lJ p1, lS, lI (Int32.ofNat pcs.length), lU]) rfl) ?_
  show Go _ _ _ _ (T1.setTop (mkF m 5 #[lR p0, lJ p1, lS, lI (Int32.ofNat pcs.length), lU] []))
  refine Go.st (fun _ => XS.iloadN X1.here hx rfl (hb hby od32_5) rfl) ?_
  refine Go.st (fun _ => XS.lloadN X1.here hx rfl (hb hby od32_6) rfl) ?_
  show Go _ _ _ _ (T1.setTop (mkF m 7 #[lR p0, lJ p1, lS, lI (Int32.ofNat pcs.length), lU] [(.long p1), (.int (Int32.ofNat pcs.length))]))
  obtain ⟨T2, X2, e2, st2⟩ := own_strsize X1 hx e1 hown (mvT hZ (ow hw 130 rfl)) (mvT hZ (ow hw 131 rfl)) (mvT hZ (ow hw 132 rfl)) (own_ssTab Z a0 hw hZ) (mvT hZ (ow hw 133 rfl)) (x := p1) (g := (mkF m 7 #[lR p0, lJ p1, lS, lI (Int32.ofNat pcs.length), lU] [(.long p1), (.int (Int32.ofNat pcs.length))])) rfl (by rw [hml]; rfl) rfl (hb hby od32_7) (W := 1) (by show 2 * 0 + _ ≤ _; exact Nat.le_of_eq rfl) (by decide) (by decide) (by decide : 0 ≤ _) (by decide : 0 ≤ _)
  refine Go.st st2 ?_
  show Go _ _ _ _ (T2.setTop (mkF m 10 #[lR p0, lJ p1, lS, lI (Int32.ofNat pcs.length), lU] [(.int (Int32.ofNat (own_txt p1).length)), (.int (Int32.ofNat pcs.length))]))
  refine Go.st (fun _ => XS.iadd X2.here hx rfl (hb hby od32_10) rfl) ?_
  show Go _ _ _ _ (T2.setTop (mkF m 11 #[lR p0, lJ p1, lS, lI (Int32.ofNat pcs.length), lU] [(.int ((Int32.ofNat pcs.length) + (Int32.ofNat (own_txt p1).length)))]))
  rw [own_lenapp pcs (own_txt p1)]
  show Go _ _ _ _ (T2.setTop (mkF m 11 #[lR p0, lJ p1, lS, lI (Int32.ofNat pcs.length), lU] [(.int (Int32.ofNat (pcs ++ own_txt p1).length))]))
  refine Go.st (fun _ => XS.istore X2.here hx rfl (hb hby od32_11) rfl (l' := #[lR p0, lJ p1, lS, lI (Int32.ofNat pcs.length), lI (Int32.ofNat (pcs ++ own_txt p1).length)]) rfl) ?_
  show Go _ _ _ _ (T2.setTop (mkF m 13 #[lR p0, lJ p1, lS, lI (Int32.ofNat pcs.length), lI (Int32.ofNat (pcs ++ own_txt p1).length)] []))
  refine Go.st (fun _ => XS.aloadN X2.here hx rfl (hb hby od32_13) rfl rfl) ?_
  refine Go.st (fun _ => XS.iload X2.here hx rfl (hb hby od32_14) rfl) ?_
  show Go _ _ _ _ (T2.setTop (mkF m 16 #[lR p0, lJ p1, lS, lI (Int32.ofNat pcs.length), lI (Int32.ofNat (pcs ++ own_txt p1).length)] [(.int (Int32.ofNat (pcs ++ own_txt p1).length)), (.ref p0)]))
  obtain ⟨cq3, kq3, q3a, q3b, q3c⟩ := isOf hZ e2 hp0
  obtain ⟨_, _, ⟨T3, L3, k3, n3⟩, -, X3, ⟨Lc3, hQ3, l3, y3, z3⟩, st3⟩ := X2.virtualBack hx (y := (⟨"java/lang/AbstractStringBuilder", "ensureCapacityInternal", "(I)V"⟩ : MethodName)) (z := (⟨"java/lang/AbstractStringBuilder", "ensureCapacityInternal", "(I)V"⟩ : MethodName)) hown (mvT hZ (ow hw 95 rfl)) (mvT hZ (own_declares (ow hw 96 rfl) (ow hw 99 rfl))) (notFace_of_selects (args := #[]) (mvT hZ (ow hw 98 rfl))) (mvT hZ (ow hw 98 rfl)) (mvT hZ (ow hw 96 rfl)) (by decide) (backOf (W := 0) (rm_ensg l Z a0 hw [] g_CS S_CS nz_CS p0 (Int32.ofNat (pcs ++ own_txt p1).length) arr ka ((pcs.map StrChars.lo8).map Value.int) (Int32.ofNat pcs.length) h0 n0 X00 hp0 hp1 hp2 hp3 hp5 hp6 (own_grow hg1 hg2) (by rw [List.length_map, List.length_map]; exact hpl)) hZ (ow hw 99 rfl) (ow hw 64 rfl) (by decide) (by decide)) q3a q3c (g := (mkF m 16 #[lR p0, lJ p1, lS, lI (Int32.ofNat pcs.length), lI (Int32.ofNat (pcs ++ own_txt p1).length)] [(.int (Int32.ofNat (pcs ++ own_txt p1).length)), (.ref p0)])) rfl (by rw [hml]; rfl) (Steps.refl _) (argsL := [(.int (Int32.ofNat (pcs ++ own_txt p1).length))]) (rest := []) (lenOf own_pd4 rfl) rfl (by show 2 * 0 + _ ≤ _; exact Nat.le_of_eq rfl) (hb hby od32_16) (fun _ _ => ⟨rfl, e2, (by decide : 0 + 1 ≤ _), (by decide : 0 + 34 ≤ _)⟩)
  dsimp only [Pt.U, Pt.locs, Pt.cells, Pt.slots] at X3 l3 y3 z3 st3 hQ3
  subst y3 z3
  refine Go.tr st3 ?_
  obtain ⟨ob_4, kb_5, rfl, N3q, K3q, q3_0, q3_1, q3_2, q3_3, q3_4, q3_5, q3_6⟩ := hQ3
  have N3 : Fr n0 L3 := by rw [l3]; exact Fr.app N0 N3q
  have O3 := X00.keep K3q (allS hp6 all0)
  have K3 : Keep h0 T3.heap [p0] := (Keep.refl h0 [p0]).trans K3q (allS (Or.inl (List.mem_of_getElem? (i := 0) rfl)) all0)
  have sz_ob_4 : h0.size ≤ ob_4 := Nat.le_trans (Keep.refl h0 [p0]).1 q3_0
  have g_ob_4 : n0 ≤ ob_4 := Nat.le_trans (own_oldsz X00) sz_ob_4
  show Go _ _ _ _ (T3.setTop (mkF m 19 #[lR p0, lJ p1, lS, lI (Int32.ofNat pcs.length), lI (Int32.ofNat (pcs ++ own_txt p1).length)] []))
  refine Go.st (fun _ => XS.aloadN X3.here hx rfl (hb hby od32_19) rfl rfl) ?_
  show Go _ _ _ _ (T3.setTop (mkF m 20 #[lR p0, lJ p1, lS, lI (Int32.ofNat pcs.length), lI (Int32.ofNat (pcs ++ own_txt p1).length)] [(.ref p0)]))
  obtain ⟨cq6, kq6, q6a, q6b, q6c⟩ := isOf hZ rfl q3_1
  obtain ⟨_, _, ⟨T6, L6, k6, n6⟩, -, X6, ⟨Lc6, hQ6, l6, y6, z6⟩, st6⟩ := X3.virtualBack hx (y := (⟨"java/lang/AbstractStringBuilder", "isLatin1", "()Z"⟩ : MethodName)) (z := (⟨"java/lang/AbstractStringBuilder", "isLatin1", "()Z"⟩ : MethodName)) hown (mvT hZ (ow hw 159 rfl)) (mvT hZ (ow hw 160 rfl)) (notFace_of_selects (args := #[]) (mvT hZ (ow hw 162 rfl))) (mvT hZ (ow hw 162 rfl)) (mvT hZ (ow hw 161 rfl)) (by decide) (backOf (W := 0) (rm_isl1 l Z a0 hw [] g_CS S_CS nz_CS p0 T3.heap n0 O3 q3_3) hZ (ow hw 163 rfl) (ow hw 64 rfl) (by decide) (by decide)) q6a q6c (g := (mkF m 20 #[lR p0, lJ p1, lS, lI (Int32.ofNat pcs.length), lI (Int32.ofNat (pcs ++ own_txt p1).length)] [(.ref p0)])) rfl (by rw [hml]; rfl) (Steps.refl _) (argsL := []) (rest := []) (lenOf own_pd18 rfl) rfl (by show 2 * 0 + _ ≤ _; exact Nat.le_of_eq rfl) (hb hby od32_20) (fun _ _ => ⟨rfl, rfl, (by decide : 1 + 0 ≤ _), (by decide : 34 + 0 ≤ _)⟩)
  dsimp only [Pt.U, Pt.locs, Pt.cells, Pt.slots] at X6 l6 y6 z6 st6 hQ6
  subst y6 z6
  refine Go.tr st6 ?_
  obtain ⟨rfl, N6q, e6⟩ := hQ6
  have N6 : Fr n0 L6 := by rw [l6]; exact Fr.app N3 N6q
  show Go _ _ _ _ (T6.setTop (mkF m 23 #[lR p0, lJ p1, lS, lI (Int32.ofNat pcs.length), lI (Int32.ofNat (pcs ++ own_txt p1).length)] [(.int 1)]))
  refine Go.st (fun _ => XS.ifNo X6.here hx rfl (hb hby od32_23) rfl ((if0 _ _).trans (feq (by decide)).1)) ?_
  show Go _ _ _ _ (T6.setTop (mkF m 26 #[lR p0, lJ p1, lS, lI (Int32.ofNat pcs.length), lI (Int32.ofNat (pcs ++ own_txt p1).length)] []))
  refine Go.st (fun _ => XS.lloadN X6.here hx rfl (hb hby od32_26) rfl) ?_
  refine Go.st (fun _ => XS.iload X6.here hx rfl (hb hby od32_27) rfl) ?_
  refine Go.st (fun _ => XS.aloadN X6.here hx rfl (hb hby od32_29) rfl rfl) ?_
  show Go _ _ _ _ (T6.setTop (mkF m 30 #[lR p0, lJ p1, lS, lI (Int32.ofNat pcs.length), lI (Int32.ofNat (pcs ++ own_txt p1).length)] [(.ref p0), (.int (Int32.ofNat (pcs ++ own_txt p1).length)), (.long p1)]))
  obtain ⟨T7, X7, e7, st7⟩ := getF X6 hx hZ hown (host := "") (Or.inl (ow hw 68 rfl)) Via.refl e6 q3_2 (g := (mkF m 30 #[lR p0, lJ p1, lS, lI (Int32.ofNat pcs.length), lI (Int32.ofNat (pcs ++ own_txt p1).length)] [(.ref p0), (.int (Int32.ofNat (pcs ++ own_txt p1).length)), (.long p1)])) rfl rfl (hb hby od32_30)
  refine Go.st st7 ?_
  show Go _ _ _ _ (T7.setTop (mkF m 33 #[lR p0, lJ p1, lS, lI (Int32.ofNat pcs.length), lI (Int32.ofNat (pcs ++ own_txt p1).length)] [(.ref ob_4), (.int (Int32.ofNat (pcs ++ own_txt p1).length)), (.long p1)]))
  have c9 := (hp4.keep K3q)
  obtain ⟨T8, L8, v8, X8, N8d, K8q, A8, st8⟩ := own_getchars X7 hx hZ e7 hown (mvT hZ (ow hw 164 rfl)) (mvT hZ (ow hw 165 rfl)) (mvT hZ (ow hw 132 rfl)) (own_gcTab Z a0 hw hZ) (mvT hZ (ow hw 166 rfl)) O3.2 T_1 T_2 O_1 O_2 (Ne.symm (X00.ne lt_st g_ob_4)) (Ne.symm (X00.ne lt_d1 g_ob_4)) (Ne.symm (X00.ne lt_d2 g_ob_4)) q3_6 (x := p1) (jx := (Int32.ofNat (pcs ++ own_txt p1).length)) rfl (Nat.le_of_lt hg2) (g := (mkF m 33 #[lR p0, lJ p1, lS, lI (Int32.ofNat pcs.length), lI (Int32.ofNat (pcs ++ own_txt p1).length)] [(.ref ob_4), (.int (Int32.ofNat (pcs ++ own_txt p1).length)), (.long p1)])) rfl (by rw [hml]; rfl) rfl (hb hby od32_33) (W := 0) (by show 2 * 0 + _ ≤ _; exact Nat.le_of_eq rfl) (by decide) (by decide) (by decide : 1 ≤ _) (by decide : 34 ≤ _)
  refine Go.st st8 ?_
  have N8 := Fr.app N6 (N8d _ g_ob_4)
  have O8 := O3.keep K8q (allS g_ob_4 all0)
  have K8 : Keep h0 T8.heap [p0] := K3.trans K8q (allS (Or.inr sz_ob_4) all0)
  show Go _ _ _ _ (T8.setTop (mkF m 36 #[lR p0, lJ p1, lS, lI (Int32.ofNat pcs.length), lI (Int32.ofNat (pcs ++ own_txt p1).length)] [(.int v8)]))
  refine Go.st (fun _ => XS.pop X8.here hx rfl (hb hby od32_36) rfl rfl) ?_
  show Go _ _ _ _ (T8.setTop (mkF m 37 #[lR p0, lJ p1, lS, lI (Int32.ofNat pcs.length), lI (Int32.ofNat (pcs ++ own_txt p1).length)] []))
  refine Go.st (fun _ => XS.goto X8.here hx rfl (pc0 := 37) (pc' := 52) rfl (hb hby od32_37) (by decide) (by decide)) ?_
  show Go _ _ _ _ (T8.setTop (mkF m 52 #[lR p0, lJ p1, lS, lI (Int32.ofNat pcs.length), lI (Int32.ofNat (pcs ++ own_txt p1).length)] []))
  refine Go.st (fun _ => XS.aloadN X8.here hx rfl (hb hby od32_52) rfl rfl) ?_
  refine Go.st (fun _ => XS.iload X8.here hx rfl (hb hby od32_53) rfl) ?_
  show Go _ _ _ _ (T8.setTop (mkF m 55 #[lR p0, lJ p1, lS, lI (Int32.ofNat pcs.length), lI (Int32.ofNat (pcs ++ own_txt p1).length)] [(.int (Int32.ofNat (pcs ++ own_txt p1).length)), (.ref p0)]))
  have c10 := (q3_4.keep K8q (ninS (Nat.ne_of_lt (Nat.lt_of_lt_of_le hp0.lt q3_0)) nin0))
  have c11 := (q3_1.keep K8q)
  obtain ⟨T12, h12, X12, e12, W12, st12⟩ := putF X8 hx hZ hown (host := "") (Or.inl (ow hw 93 rfl)) Via.refl rfl c10 c11 (Or.inl (ow hw 94 rfl)) (ow hw 55 rfl) (ty := .int) (by decide) rfl rfl (g := (mkF m 55 #[lR p0, lJ p1, lS, lI (Int32.ofNat pcs.length), lI (Int32.ofNat (pcs ++ own_txt p1).length)] [(.int (Int32.ofNat (pcs ++ own_txt p1).length)), (.ref p0)])) rfl rfl (hb hby od32_55)
  refine Go.st st12 ?_
  have K12 : Keep h0 h12 [p0] := K8.wr W12 (Or.inl (List.mem_of_getElem? (i := 0) rfl))
  have O12 := O8.wr W12 hp6
  have N12 := Fr.snoc X12 N8 hp6
  have F12 := c10.same W12
  show Go _ _ _ _ (T12.setTop (mkF m 58 #[lR p0, lJ p1, lS, lI (Int32.ofNat pcs.length), lI (Int32.ofNat (pcs ++ own_txt p1).length)] []))
  refine Go.st (fun _ => XS.aloadN X12.here hx rfl (hb hby od32_58) rfl rfl) ?_
  show Go _ _ _ _ (T12.setTop (mkF m 59 #[lR p0, lJ p1, lS, lI (Int32.ofNat pcs.length), lI (Int32.ofNat (pcs ++ own_txt p1).length)] [(.ref p0)]))
  obtain ⟨fs, hr, hrun, hended, hW, hsame⟩ := X12.leave (v := some (.ref p0)) (fun h => by rw [Bd.returns] at h; cases h)
  refine ⟨_, ?_, hPend _ _ hrun hended ⟨_, _, rfl, ?_, ⟨_, rfl⟩, hW, hsame.mono (by decide) (by decide)⟩⟩
  · exact retOut X12 hx (t := (.object "java/lang/AbstractStringBuilder")) Bd.returns rfl (Or.inr (Or.inr (Or.inr (Or.inr ⟨rfl, rfl, rfl⟩)))) (hb hby od32_59) hr
  · show Q_rm_ajg Z _ _ _ _ _ _ _ _ _ h0 n0 _ T12.heap _
    rw [e12]
    have c13 := (c11.wr W12)
    have c14 := ((q3_2.keep K8q (ninS (Nat.ne_of_lt (Nat.lt_of_lt_of_le hp0.lt q3_0)) nin0)).other W12 (Or.inr (slot_ne (Or.inl (ow hw 69 rfl)) (Or.inl (ow hw 94 rfl)) (by decide) (t := (.array .byte)) (t' := .int) (by decide) (by decide))))
    have c15 := ((q3_3.keep K8q (ninS (Nat.ne_of_lt (Nat.lt_of_lt_of_le hp0.lt q3_0)) nin0)).other W12 (Or.inr (slot_ne (Or.inl (ow hw 71 rfl)) (Or.inl (ow hw 94 rfl)) (by decide) (t := .byte) (t' := .int) (by decide) (by decide))))
    have c16 := ((q3_5.keep K8q).wr W12)
    have c17 := (A8.other W12 (Ne.symm (Nat.ne_of_lt (Nat.lt_of_lt_of_le hp0.lt q3_0))))
    exact ⟨ob_4, kb_5, rfl, N12, K12, sz_ob_4, c13, c14, c15, F12, c16, c17⟩
theorem own_ef_rm_sjg (m : MethodId) (x0 : Addr) (x1 : Int64) : entryFrame m #[(.ref x0), (.long x1)] 3 = mkF m 0 #[.val (.ref x0), .val (.long x1), .second] [] := by first | (simp [entryFrame, mkF, argsToLocals, Value.category]; done) | rfl
def Q_rm_sjg (Z : State) (w_st : Addr) (w_d1 : Addr) (w_d2 : Addr) (g_CS : Int32) (p0 : Addr) (p1 : Int64) (pcs : List Int32) (arr : Addr) (ka : ClassId) (h0 : Heap) (n0 : Nat) (v : Option Value) (h : Heap) (L : List Loc) : Prop := ∃ (ob : Addr) (kb : ClassId), v = some (.ref p0) ∧ Fr n0 L ∧ Keep h0 h [p0] ∧ h0.size ≤ ob ∧ Exa Z h p0 "java/lang/StringBuilder" ∧ Fld Z h p0 "java/lang/AbstractStringBuilder" "value" "[B" (.ref ob) ∧ Fld Z h p0 "java/lang/AbstractStringBuilder" "coder" "B" (.int 0) ∧ Fld Z h p0 "java/lang/AbstractStringBuilder" "count" "I" (.int (Int32.ofNat (pcs ++ own_txt p1).length)) ∧ Exa Z h ob "[B" ∧ Arv Z h ob kb .byte (34 : Int32) (((pcs ++ own_txt p1).map StrChars.lo8).map Value.int) (.int 0)
set_option maxRecDepth 65536 in
set_option maxHeartbeats 40000000 in
theorem rm_sjg (l : Launch) (Z : State) (a0 : Array Value) (hw : ∀ d ∈ tables_1, d.before a0 Z = true) (ws : List Jvm.Cond) (w_st : Addr) (w_d1 : Addr) (w_d2 : Addr) (D1c : Cell) (D2c : Cell) (T_1 : Jvm.Free.SBG.Tbl Z "DigitOnes" w_st w_d1 D1c) (T_2 : Jvm.Free.SBG.Tbl Z "DigitTens" w_st w_d2 D2c) (O_1 : Jvm.Free.SBG.Ones D1c) (O_2 : Jvm.Free.SBG.Tens D2c) (lt_st : w_st < Z.heap.size) (lt_d1 : w_d1 < Z.heap.size) (lt_d2 : w_d2 < Z.heap.size) (g_CS : Int32) (S_CS : Sta Z Z.heap "java/lang/String" "COMPACT_STRINGS" "Z" (.int g_CS)) (nz_CS : ¬ (g_CS = (0 : Int32))) (p0 : Addr) (p1 : Int64) (pcs : List Int32) (arr : Addr) (ka : ClassId) (h0 : Heap) (n0 : Nat) (X00 : Old Z n0 h0) (hp0 : Exa Z h0 p0 "java/lang/StringBuilder") (hp1 : Fld Z h0 p0 "java/lang/AbstractStringBuilder" "value" "[B" (.ref arr)) (hp2 : Fld Z h0 p0 "java/lang/AbstractStringBuilder" "coder" "B" (.int 0)) (hp3 : Fld Z h0 p0 "java/lang/AbstractStringBuilder" "count" "I" (.int (Int32.ofNat pcs.length))) (hp4 : Exa Z h0 arr "[B") (hp5 : Arv Z h0 arr ka .byte (16 : Int32) ((pcs.map StrChars.lo8).map Value.int) (.int 0)) (hp6 : n0 ≤ p0) (hp7 : n0 ≤ arr) (hpl : pcs.length ≤ 16) (hg1 : 16 < (pcs ++ own_txt p1).length) (hg2 : (pcs ++ own_txt p1).length < 34) :
    MetFree l (⟨"java/lang/StringBuilder", "append", "(J)Ljava/lang/StringBuilder;"⟩ : MethodName) (head1 (Jvm.Cond.code (⟨"java/lang/StringBuilder", "append", "(J)Ljava/lang/StringBuilder;"⟩ : MethodName) jdk_67_method_16_code 3 (some (.object "java/lang/StringBuilder")) :: ws) ({ frames := 5, cells := 1, slots := 34, locals := 118 } : Room)) (fun a U => a = #[(.ref p0), (.long p1)] ∧ Z.Warmed39 U.vm ∧ U.heap = h0) (fun _ _ _ _ _ => True) (fun _ U o U' => ∃ v L, o = .returned v ∧ Q_rm_sjg Z w_st w_d1 w_d2 g_CS p0 p1 pcs arr ka h0 n0 v U'.heap L ∧ FrameEnd U o U' L ({ frames := 5, cells := 1, slots := 34, locals := 118 } : Room).cells ({ frames := 5, cells := 1, slots := 34, locals := 118 } : Room).slots) := by
  refine MetFree.of_bodySF (plainFor_of_name own_pn5) hisR ?_
  intro p e s m args below meth c s₁ Bd hml0 hP hK
  obtain ⟨rfl, hZ, hh⟩ := hP
  have hx := Bd.exec
  have hby := Bd.bytes
  have hml : c.maxLocals = 3 := hml0
  have hown : s.vm.findClass "java/lang/StringBuilder" = some m.cls := findClass_of_methodNamed Bd.named
  have hnm := (name_of_methodNamed Bd.named Bd.method).1
  have X0 : Stand p l e ({ frames := 5, cells := 1, slots := 34, locals := 118 } : Room) s m #[(.ref p0), (.long p1)] below meth c s₁ [] 0 0 := Stand.of_body Bd
  have e0 : s₁.heap = h0 := by rw [← hh, Bd.state]; rfl
  have N0 := Fr.nil n0
  refine Go.start fun P hPend => ?_
  refine Go.st (fun _ k => castTop (own_ef_rm_sjg m p0 p1) k) ?_
  show Go _ _ _ _ (s₁.setTop (mkF m 0 #[lR p0, lJ p1, lS] []))
  refine Go.st (fun _ => XS.aloadN X0.here hx rfl (hb hby od33_0) rfl rfl) ?_
  refine Go.st (fun _ => XS.lloadN X0.here hx rfl (hb hby od33_1) rfl) ?_
  show Go _ _ _ _ (s₁.setTop (mkF m 2 #[lR p0, lJ p1, lS] [(.long p1), (.ref p0)]))
  obtain ⟨_, _, ⟨T1, L1, k1, n1⟩, -, X1, ⟨Lc1, hQ1, l1, y1, z1⟩, st1⟩ := superBack X0 hx hZ (y := (⟨"java/lang/AbstractStringBuilder", "append", "(J)Ljava/lang/AbstractStringBuilder;"⟩ : MethodName)) hown (ow hw 126 rfl) (own_sameself (ow hw 127 rfl) (ow hw 98 rfl) rfl (by decide)) (ow hw 127 rfl) (ow hw 80 rfl) (by decide) (backOf (W := 0) (rm_ajg l Z a0 hw [] w_st w_d1 w_d2 D1c D2c T_1 T_2 O_1 O_2 lt_st lt_d1 lt_d2 g_CS S_CS nz_CS p0 p1 pcs arr ka h0 n0 X00 hp0 hp1 hp2 hp3 hp4 hp5 hp6 hp7 hpl hg1 hg2) hZ (ow hw 129 rfl) (ow hw 64 rfl) (by decide) (by decide)) e0 (Ins.self hp0) (g := (mkF m 2 #[lR p0, lJ p1, lS] [(.long p1), (.ref p0)])) rfl (by rw [hml]; rfl) (ow hw 129 rfl) (argsL := [(.long p1)]) (rest := []) (lenOf own_pd21 rfl) rfl (by show 2 * 0 + _ ≤ _; exact Nat.le_of_eq rfl) (hb hby od33_2) (fun _ _ => ⟨rfl, e0, (by decide : 0 + 1 ≤ _), (by decide : 0 + 34 ≤ _)⟩)
  dsimp only [Pt.U, Pt.locs, Pt.cells, Pt.slots] at X1 l1 y1 z1 st1 hQ1
  subst y1 z1
  refine Go.tr st1 ?_
  obtain ⟨ob_2, kb_3, rfl, N1q, K1q, q1_0, q1_1, q1_2, q1_3, q1_4, q1_5, q1_6⟩ := hQ1
  have N1 : Fr n0 L1 := by rw [l1]; exact Fr.app N0 N1q
  have O1 := X00.keep K1q (allS hp6 all0)
  have K1 : Keep h0 T1.heap [p0] := (Keep.refl h0 [p0]).trans K1q (allS (Or.inl (List.mem_of_getElem? (i := 0) rfl)) all0)
  have sz_ob_2 : h0.size ≤ ob_2 := Nat.le_trans (Keep.refl h0 [p0]).1 q1_0
  have g_ob_2 : n0 ≤ ob_2 := Nat.le_trans (own_oldsz X00) sz_ob_2
  show Go _ _ _ _ (T1.setTop (mkF m 5 #[lR p0, lJ p1, lS] [(.ref p0)]))
  refine Go.st (fun _ => XS.pop X1.here hx rfl (hb hby od33_5) rfl rfl) ?_
  show Go _ _ _ _ (T1.setTop (mkF m 6 #[lR p0, lJ p1, lS] []))
  refine Go.st (fun _ => XS.aloadN X1.here hx rfl (hb hby od33_6) rfl rfl) ?_
  show Go _ _ _ _ (T1.setTop (mkF m 7 #[lR p0, lJ p1, lS] [(.ref p0)]))
  obtain ⟨fs, hr, hrun, hended, hW, hsame⟩ := X1.leave (v := some (.ref p0)) (fun h => by rw [Bd.returns] at h; cases h)
  refine ⟨_, ?_, hPend _ _ hrun hended ⟨_, _, rfl, ?_, ⟨_, rfl⟩, hW, hsame.mono (by decide) (by decide)⟩⟩
  · exact retOut X1 hx (t := (.object "java/lang/StringBuilder")) Bd.returns rfl (Or.inr (Or.inr (Or.inr (Or.inr ⟨rfl, rfl, rfl⟩)))) (hb hby od33_7) hr
  · show Q_rm_sjg Z _ _ _ _ _ _ _ _ _ h0 n0 _ T1.heap _
    exact ⟨ob_2, kb_3, rfl, N1, K1, sz_ob_2, q1_1, q1_2, q1_3, q1_4, q1_5, q1_6⟩
theorem own_ef_rm_cinit (m : MethodId) (x0 : Addr) (x1 : Addr) (x2 : Int64) : entryFrame m #[(.ref x0), (.ref x1), (.long x2)] 4 = mkF m 0 #[.val (.ref x0), .val (.ref x1), .val (.long x2), .second] [] := by first | (simp [entryFrame, mkF, argsToLocals, Value.category]; done) | rfl
theorem own_pn8 : plainName "com/example/strikeboard/strikeboard/engine/Explanation$Column" = true := by first | (simp [plainName, overriddenIn]; done) | decide +kernel
theorem od34_0 : decode prog_18_method_1_code 0 = .ok (.aload_n 0, 1) := by decide +kernel
theorem od34_1 : decode prog_18_method_1_code 1 = .ok (.invokespecial 1, 3) := by decide +kernel
theorem own_pd22 : parseMethodDescriptor "()V" = some ⟨[], none⟩ := by decide +kernel
theorem od34_4 : decode prog_18_method_1_code 4 = .ok (.aload_n 1, 1) := by decide +kernel
theorem od34_5 : decode prog_18_method_1_code 5 = .ok (.ldc 7, 2) := by decide +kernel
theorem od34_7 : decode prog_18_method_1_code 7 = .ok (.invokestatic 9, 3) := by decide +kernel
theorem own_pd23 : parseMethodDescriptor "(Ljava/lang/Object;Ljava/lang/String;)Ljava/lang/Object;" = some ⟨[(.object "java/lang/Object"), (.object "java/lang/String")], some (.object "java/lang/Object")⟩ := by decide +kernel
theorem od34_10 : decode prog_18_method_1_code 10 = .ok (.pop, 1) := by decide +kernel
theorem od34_11 : decode prog_18_method_1_code 11 = .ok (.aload_n 0, 1) := by decide +kernel
theorem od34_12 : decode prog_18_method_1_code 12 = .ok (.aload_n 1, 1) := by decide +kernel
theorem od34_13 : decode prog_18_method_1_code 13 = .ok (.putfield 15, 3) := by decide +kernel
theorem od34_16 : decode prog_18_method_1_code 16 = .ok (.aload_n 0, 1) := by decide +kernel
theorem od34_17 : decode prog_18_method_1_code 17 = .ok (.lload_n 2, 1) := by decide +kernel
theorem od34_18 : decode prog_18_method_1_code 18 = .ok (.putfield 20, 3) := by decide +kernel
theorem od34_21 : decode prog_18_method_1_code 21 = .ok (.return_, 1) := by decide +kernel
def Q_rm_cinit (Z : State) (p0 : Addr) (p1 : Addr) (p2 : Int64) (h0 : Heap) (n0 : Nat) (v : Option Value) (h : Heap) (L : List Loc) : Prop := v = none ∧ Fr n0 L ∧ Keep h0 h [p0] ∧ Exa Z h p0 "com/example/strikeboard/strikeboard/engine/Explanation$Column" ∧ Fld Z h p0 "com/example/strikeboard/strikeboard/engine/Explanation$Column" "offence" "Ljava/lang/String;" (.ref p1) ∧ Fld Z h p0 "com/example/strikeboard/strikeboard/engine/Explanation$Column" "column" "J" (.long p2)
set_option maxRecDepth 65536 in
set_option maxHeartbeats 40000000 in
theorem rm_cinit (l : Launch) (Z : State) (a0 : Array Value) (hw : ∀ d ∈ tables_1, d.before a0 Z = true) (ws : List Jvm.Cond) (p0 : Addr) (p1 : Addr) (p2 : Int64) (h0 : Heap) (n0 : Nat) (X00 : Old Z n0 h0) (hp0 : Exa Z h0 p0 "com/example/strikeboard/strikeboard/engine/Explanation$Column") (hp1 : Fld Z h0 p0 "com/example/strikeboard/strikeboard/engine/Explanation$Column" "offence" "Ljava/lang/String;" .null) (hp2 : Fld Z h0 p0 "com/example/strikeboard/strikeboard/engine/Explanation$Column" "column" "J" (.long (0 : Int64))) (hp3 : n0 ≤ p0) :
    MetFree l (⟨"com/example/strikeboard/strikeboard/engine/Explanation$Column", "<init>", "(Ljava/lang/String;J)V"⟩ : MethodName) (head1 (Jvm.Cond.code (⟨"com/example/strikeboard/strikeboard/engine/Explanation$Column", "<init>", "(Ljava/lang/String;J)V"⟩ : MethodName) prog_18_method_1_code 4 none :: ws) ({ frames := 2, cells := 2, slots := 32, locals := 24 } : Room)) (fun a U => a = #[(.ref p0), (.ref p1), (.long p2)] ∧ Z.Warmed39 U.vm ∧ U.heap = h0 ∧ CHv Z consts_1 U.vm h0) (fun _ _ _ _ _ => True) (fun _ U o U' => ∃ v L, o = .returned v ∧ Q_rm_cinit Z p0 p1 p2 h0 n0 v U'.heap L ∧ CHr Z consts_1 U.vm U.heap U'.vm U'.heap ∧ ReturnedEndW U o U' L ({ frames := 2, cells := 2, slots := 32, locals := 24 } : Room).cells ({ frames := 2, cells := 2, slots := 32, locals := 24 } : Room).slots) := by
  refine MetFree.of_bodySF (plainFor_of_name own_pn8) hisR ?_
  intro p e s m args below meth c s₁ Bd hml0 hP hK
  obtain ⟨rfl, hZ, hh, hCH⟩ := hP
  have hEL := own_EW Z a0 hw
  have CR0 : CHr Z consts_1 s.vm h0 s.vm h0 := CHr.refl hCH
  have hx := Bd.exec
  have hby := Bd.bytes
  have hml : c.maxLocals = 4 := hml0
  have hown : s.vm.findClass "com/example/strikeboard/strikeboard/engine/Explanation$Column" = some m.cls := findClass_of_methodNamed Bd.named
  have hnm := (name_of_methodNamed Bd.named Bd.method).1
  have X0 : Stand p l e ({ frames := 2, cells := 2, slots := 32, locals := 24 } : Room) (s.setVm s.vm) m #[(.ref p0), (.ref p1), (.long p2)] below meth c s₁ [] 0 0 := Stand.of_body Bd
  have e0 : s₁.heap = h0 := by rw [← hh, Bd.state]; rfl
  have N0 := Fr.nil n0
  have hS0 : s.Since s.vm 0 := own_since s
  have hk0 : 0 ≤ h0.size := Nat.zero_le _
  have hZ : Z.Warmed39 (s.setVm s.vm).vm := hZ
  have hown : (s.setVm s.vm).vm.findClass "com/example/strikeboard/strikeboard/engine/Explanation$Column" = some m.cls := hown
  refine Go.start fun P hPend => ?_
  refine Go.st (fun _ k => castTop (own_ef_rm_cinit m p0 p1 p2) k) ?_
  show Go _ _ _ _ (s₁.setTop (mkF m 0 #[lR p0, lR p1, lJ p2, lS] []))
  refine Go.st (fun _ => XS.aloadN X0.here hx rfl (hb hby od34_0) rfl rfl) ?_
  show Go _ _ _ _ (s₁.setTop (mkF m 1 #[lR p0, lR p1, lJ p2, lS] [(.ref p0)]))
  obtain ⟨_, _, ⟨T1, L1, k1, n1⟩, -, X1, ⟨Lc1, hQ1, l1, y1, z1⟩, st1⟩ := X0.specialBack hx (y := (⟨"java/lang/Record", "<init>", "()V"⟩ : MethodName)) rfl hown (mvT hZ (ow hw 32 rfl)) (mvT hZ (ow hw 33 rfl)) (mvT hZ (ow hw 36 rfl)) (by decide) (backOf (W := 0) (rm_rec l Z a0 hw [] p0 h0 n0 X00 ) hZ (ow hw 36 rfl) (ow hw 35 rfl) (by decide) (by decide)) (g := (mkF m 1 #[lR p0, lR p1, lJ p2, lS] [(.ref p0)])) rfl (by rw [hml]; rfl) (Steps.refl _) (a := p0) (argsL := []) (rest := []) (lenOf own_pd22 rfl) rfl (by show 2 * 0 + _ ≤ _; exact Nat.le_of_eq rfl) (hb hby od34_1) (fun _ _ => ⟨rfl, e0, (by decide : 0 + 0 ≤ _), (by decide : 0 + 0 ≤ _)⟩)
  dsimp only [Pt.U, Pt.locs, Pt.cells, Pt.slots] at X1 l1 y1 z1 st1 hQ1
  subst y1 z1
  refine Go.tr st1 ?_
  obtain ⟨rfl, N1q, e1⟩ := hQ1
  have N1 : Fr n0 L1 := by rw [l1]; exact Fr.app N0 N1q
  show Go _ _ _ _ (T1.setTop (mkF m 4 #[lR p0, lR p1, lJ p2, lS] []))
  refine Go.st (fun _ => XS.aloadN X1.here hx rfl (hb hby od34_4) rfl rfl) ?_
  show Go _ _ _ _ (T1.setTop (mkF m 5 #[lR p0, lR p1, lJ p2, lS] [(.ref p1)]))
  obtain ⟨a2, T2, h2, kk2, X2, e2, E2, hS2, hk2, hZ2, hown2, hCR2, Li2, st2⟩ := ldcOH X1 hx hZ hown (ow hw 38 rfl) (fun a ha => hw a (own_strAtoms a ha)) e1 hS0 hk0 hEL CR0.1 (g := (mkF m 5 #[lR p0, lR p1, lJ p2, lS] [(.ref p1)])) rfl (hb hby od34_5) (n := 28) (by decide +kernel) (by decide) (by decide) (by decide)
  refine Go.st st2 ?_
  have K2 : Keep h0 h2 [p0] := (Keep.refl h0 [p0]).ext E2
  have O2 := X00.ext E2
  have CR2 := CR0.trans hCR2
  show Go _ _ _ _ (T2.setTop (mkF m 7 #[lR p0, lR p1, lJ p2, lS] [(.ref a2), (.ref p1)]))
  obtain ⟨_, _, ⟨T3, L3, k3, n3⟩, -, X3, ⟨Lc3, hQ3, l3, y3, z3⟩, st3⟩ := Jvm.LawKit.callS X2 hx (y := (⟨"java/util/Objects", "requireNonNull", "(Ljava/lang/Object;Ljava/lang/String;)Ljava/lang/Object;"⟩ : MethodName)) hown2 (mvT hZ2 (ow hw 41 rfl)) (mvT hZ2 (ow hw 42 rfl)) (mvT hZ2 (ow hw 43 rfl)) (mvT hZ2 (ow hw 44 rfl)) (by decide) (backOf (W := 0) (rm_rnn l Z a0 hw [] p1 a2 h2 n0 O2 ) hZ2 (ow hw 44 rfl) (ow hw 43 rfl) (by decide) (by decide)) (g := (mkF m 7 #[lR p0, lR p1, lJ p2, lS] [(.ref a2), (.ref p1)])) rfl (by rw [hml]; rfl) (argsL := [(.ref p1), (.ref a2)]) (rest := []) (lenOf own_pd23 rfl) rfl (by show 2 * 0 + _ ≤ _; exact Nat.le_of_eq rfl) (hb hby od34_7) (fun _ _ => ⟨rfl, e2, (by decide : 2 + 0 ≤ _), (by decide : 32 + 0 ≤ _)⟩)
  dsimp only [Pt.U, Pt.locs, Pt.cells, Pt.slots] at X3 l3 y3 z3 st3 hQ3
  subst y3 z3
  refine Go.st st3 ?_
  obtain ⟨rfl, N3q, e3⟩ := hQ3
  have N3 : Fr n0 L3 := by rw [l3]; exact Fr.app N1 N3q
  show Go _ _ _ _ (T3.setTop (mkF m 10 #[lR p0, lR p1, lJ p2, lS] [(.ref p1)]))
  refine Go.st (fun _ => XS.pop X3.here hx rfl (hb hby od34_10) rfl rfl) ?_
  show Go _ _ _ _ (T3.setTop (mkF m 11 #[lR p0, lR p1, lJ p2, lS] []))
  refine Go.st (fun _ => XS.aloadN X3.here hx rfl (hb hby od34_11) rfl rfl) ?_
  refine Go.st (fun _ => XS.aloadN X3.here hx rfl (hb hby od34_12) rfl rfl) ?_
  show Go _ _ _ _ (T3.setTop (mkF m 13 #[lR p0, lR p1, lJ p2, lS] [(.ref p1), (.ref p0)]))
  have c5 := (hp0.ext E2)
  have sf4 : Safe Z consts_1 T2.vm h2 p0 := (Safe.exa hZ2.alike c5 (by decide) (by decide))
  have c6 := (hp1.ext E2)
  obtain ⟨T7, h7, X7, e7, W7, st7⟩ := putF X3 hx hZ2 hown2 (host := "") (Or.inl (ow hw 45 rfl)) Via.refl e3 c6 c5 (Or.inr ⟨(ow hw 46 rfl), rfl, hnm⟩) (ow hw 27 rfl) (ty := (.object "java/lang/String")) (by decide) rfl rfl (g := (mkF m 13 #[lR p0, lR p1, lJ p2, lS] [(.ref p1), (.ref p0)])) rfl rfl (hb hby od34_13)
  refine Go.st st7 ?_
  have sf8 := Safe.wr W7 sf4 CR2.1 sf4
  have CR7 := CR2.trans (CHr.wr W7 sf4 CR2.1)
  have K7 : Keep h0 h7 [p0] := K2.wr W7 (Or.inl (List.mem_of_getElem? (i := 0) rfl))
  have O7 := O2.wr W7 hp3
  have N7 := Fr.snoc X7 N3 hp3
  have F7 := c6.same W7
  show Go _ _ _ _ (T7.setTop (mkF m 16 #[lR p0, lR p1, lJ p2, lS] []))
  refine Go.st (fun _ => XS.aloadN X7.here hx rfl (hb hby od34_16) rfl rfl) ?_
  refine Go.st (fun _ => XS.lloadN X7.here hx rfl (hb hby od34_17) rfl) ?_
  show Go _ _ _ _ (T7.setTop (mkF m 18 #[lR p0, lR p1, lJ p2, lS] [(.long p2), (.ref p0)]))
  have c9 := ((hp2.ext E2).other W7 (Or.inr (slot_ne (Or.inr (ow hw 48 rfl)) (Or.inr (ow hw 46 rfl)) (by decide) (t := .long) (t' := (.object "java/lang/String")) (by decide) (by decide))))
  have c10 := (c5.wr W7)
  obtain ⟨T11, h11, X11, e11, W11, st11⟩ := putF X7 hx hZ2 hown2 (host := "") (Or.inl (ow hw 47 rfl)) Via.refl e7 c9 c10 (Or.inr ⟨(ow hw 48 rfl), rfl, hnm⟩) (ow hw 27 rfl) (ty := .long) (by decide) rfl rfl (g := (mkF m 18 #[lR p0, lR p1, lJ p2, lS] [(.long p2), (.ref p0)])) rfl rfl (hb hby od34_18)
  refine Go.st st11 ?_
  have sf12 := Safe.wr W11 sf8 CR7.1 sf8
  have CR11 := CR7.trans (CHr.wr W11 sf8 CR7.1)
  have K11 : Keep h0 h11 [p0] := K7.wr W11 (Or.inl (List.mem_of_getElem? (i := 0) rfl))
  have O11 := O7.wr W11 hp3
  have N11 := Fr.snoc X11 N7 hp3
  have F11 := c9.same W11
  show Go _ _ _ _ (T11.setTop (mkF m 21 #[lR p0, lR p1, lJ p2, lS] []))
  obtain ⟨fs, hr, hrun, hended, -, hW, hpair, hsame⟩ := X11.leaveW hS2 (by rw [e11]; exact (Nat.le_trans (Nat.le_trans hk2 (Keep.of_wr W7).1) (Keep.of_wr W11).1)) (v := none) (fun _ => rfl)
  have hCRe := CR11.trans (CHv.at X11 hZ2 hEL CR11.1)
  refine ⟨_, ?_, hPend _ _ hrun hended ⟨_, _, rfl, ?_, ?_, ⟨_, rfl⟩, hW, hpair, hsame.mono (by decide) (by decide)⟩⟩
  · exact X11.returnOut hx Bd.returns (hb hby od34_21) hr
  · show Q_rm_cinit Z _ _ _ h0 n0 _ T11.heap _
    rw [e11]
    have c13 := (c10.wr W11)
    have c14 := (F7.other W11 (Or.inr (slot_ne (Or.inr (ow hw 46 rfl)) (Or.inr (ow hw 48 rfl)) (by decide) (t := (.object "java/lang/String")) (t' := .long) (by decide) (by decide))))
    exact ⟨rfl, N11, K11, c13, c14, F11⟩
  · show CHr Z consts_1 s.vm s.heap T11.vm T11.heap
    rw [hh, e11]
    exact hCRe
theorem own_ef_rm_ctos (m : MethodId) (x0 : Addr) : entryFrame m #[(.ref x0)] 1 = mkF m 0 #[.val (.ref x0)] [] := by first | (simp [entryFrame, mkF, argsToLocals, Value.category]; done) | rfl
theorem od35_0 : decode prog_18_method_2_code 0 = .ok (.new 24, 3) := by decide +kernel
theorem od35_3 : decode prog_18_method_2_code 3 = .ok (.dup, 1) := by decide +kernel
theorem od35_4 : decode prog_18_method_2_code 4 = .ok (.invokespecial 26, 3) := by decide +kernel
theorem od35_7 : decode prog_18_method_2_code 7 = .ok (.ldc 27, 2) := by decide +kernel
theorem od35_9 : decode prog_18_method_2_code 9 = .ok (.invokevirtual 29, 3) := by decide +kernel
theorem own_pd24 : parseMethodDescriptor "(Ljava/lang/String;)Ljava/lang/StringBuilder;" = some ⟨[(.object "java/lang/String")], some (.object "java/lang/StringBuilder")⟩ := by decide +kernel
theorem od35_12 : decode prog_18_method_2_code 12 = .ok (.aload_n 0, 1) := by decide +kernel
theorem od35_13 : decode prog_18_method_2_code 13 = .ok (.getfield 15, 3) := by decide +kernel
theorem od35_16 : decode prog_18_method_2_code 16 = .ok (.invokevirtual 29, 3) := by decide +kernel
theorem od35_19 : decode prog_18_method_2_code 19 = .ok (.ldc 33, 2) := by decide +kernel
theorem od35_21 : decode prog_18_method_2_code 21 = .ok (.invokevirtual 29, 3) := by decide +kernel
theorem od35_24 : decode prog_18_method_2_code 24 = .ok (.aload_n 0, 1) := by decide +kernel
theorem od35_25 : decode prog_18_method_2_code 25 = .ok (.getfield 20, 3) := by decide +kernel
theorem od35_28 : decode prog_18_method_2_code 28 = .ok (.invokevirtual 35, 3) := by decide +kernel
theorem own_pd25 : parseMethodDescriptor "(J)Ljava/lang/StringBuilder;" = some ⟨[.long], some (.object "java/lang/StringBuilder")⟩ := by decide +kernel
theorem od35_31 : decode prog_18_method_2_code 31 = .ok (.invokevirtual 38, 3) := by decide +kernel
theorem own_pd26 : parseMethodDescriptor "()Ljava/lang/String;" = some ⟨[], some (.object "java/lang/String")⟩ := by decide +kernel
theorem od35_34 : decode prog_18_method_2_code 34 = .ok (.areturn, 1) := by decide +kernel
def Q_rm_ctos (Z : State) (w_st : Addr) (w_d1 : Addr) (w_d2 : Addr) (g_CS : Int32) (p0 : Addr) (so : Addr) (cx : Int64) (ocs : List Int32) (ov : Addr) (ok : ClassId) (h0 : Heap) (n0 : Nat) (v : Option Value) (h : Heap) (L : List Loc) : Prop := ∃ (os : Addr) (ob : Addr) (kb : ClassId), v = some (.ref os) ∧ Fr n0 L ∧ Keep h0 h [] ∧ h0.size ≤ os ∧ Exa Z h os "java/lang/String" ∧ Fld Z h os "java/lang/String" "coder" "B" (.int 0) ∧ Fld Z h os "java/lang/String" "value" "[B" (.ref ob) ∧ Arv Z h ob kb .byte (Int32.ofNat (own_RC ocs cx).length) (((own_RC ocs cx).map StrChars.lo8).map Value.int) (.int 0)
set_option maxRecDepth 65536 in
set_option maxHeartbeats 40000000 in
theorem rm_ctos (l : Launch) (Z : State) (a0 : Array Value) (hw : ∀ d ∈ tables_1, d.before a0 Z = true) (ws : List Jvm.Cond) (w_st : Addr) (w_d1 : Addr) (w_d2 : Addr) (D1c : Cell) (D2c : Cell) (T_1 : Jvm.Free.SBG.Tbl Z "DigitOnes" w_st w_d1 D1c) (T_2 : Jvm.Free.SBG.Tbl Z "DigitTens" w_st w_d2 D2c) (O_1 : Jvm.Free.SBG.Ones D1c) (O_2 : Jvm.Free.SBG.Tens D2c) (lt_st : w_st < Z.heap.size) (lt_d1 : w_d1 < Z.heap.size) (lt_d2 : w_d2 < Z.heap.size) (g_CS : Int32) (S_CS : Sta Z Z.heap "java/lang/String" "COMPACT_STRINGS" "Z" (.int g_CS)) (nz_CS : ¬ (g_CS = (0 : Int32))) (p0 : Addr) (so : Addr) (cx : Int64) (ocs : List Int32) (ov : Addr) (ok : ClassId) (h0 : Heap) (n0 : Nat) (X00 : Old Z n0 h0) (hp0 : Exa Z h0 p0 "com/example/strikeboard/strikeboard/engine/Explanation$Column") (hp1 : Fld Z h0 p0 "com/example/strikeboard/strikeboard/engine/Explanation$Column" "offence" "Ljava/lang/String;" (.ref so)) (hp2 : Fld Z h0 p0 "com/example/strikeboard/strikeboard/engine/Explanation$Column" "column" "J" (.long cx)) (hp3 : Exa Z h0 so "java/lang/String") (hp4 : Fld Z h0 so "java/lang/String" "coder" "B" (.int 0)) (hp5 : Fld Z h0 so "java/lang/String" "value" "[B" (.ref ov)) (hp6 : Arv Z h0 ov ok .byte (Int32.ofNat ocs.length) ((ocs.map StrChars.lo8).map Value.int) (.int 0)) (hpco : ∀ c ∈ ocs, ¬ c < 0 ∧ ¬ (255 : Int32) < c) (hleo : ocs.length ≤ 4000) (hlo : ocs.length ≤ 3) :
    MetFree l (⟨"com/example/strikeboard/strikeboard/engine/Explanation$Column", "toString", "()Ljava/lang/String;"⟩ : MethodName) (head1 (Jvm.Cond.code (⟨"com/example/strikeboard/strikeboard/engine/Explanation$Column", "toString", "()Ljava/lang/String;"⟩ : MethodName) prog_18_method_2_code 1 (some (.object "java/lang/String")) :: ws) ({ frames := 6, cells := 9, slots := 162, locals := 132 } : Room)) (fun a U => a = #[(.ref p0)] ∧ Z.Warmed39 U.vm ∧ U.heap = h0 ∧ CHv Z consts_1 U.vm h0) (fun _ _ _ _ _ => True) (fun _ U o U' => ∃ v L, o = .returned v ∧ Q_rm_ctos Z w_st w_d1 w_d2 g_CS p0 so cx ocs ov ok h0 n0 v U'.heap L ∧ CHr Z consts_1 U.vm U.heap U'.vm U'.heap ∧ ReturnedEndW U o U' L ({ frames := 6, cells := 9, slots := 162, locals := 132 } : Room).cells ({ frames := 6, cells := 9, slots := 162, locals := 132 } : Room).slots) := by
  refine MetFree.of_bodySF (plainFor_of_name own_pn8) hisR ?_
  intro p e s m args below meth c s₁ Bd hml0 hP hK
  obtain ⟨rfl, hZ, hh, hCH⟩ := hP
  have hEL := own_EW Z a0 hw
  have CR0 : CHr Z consts_1 s.vm h0 s.vm h0 := CHr.refl hCH
  have hx := Bd.exec
  have hby := Bd.bytes
  have hml : c.maxLocals = 1 := hml0
  have hown : s.vm.findClass "com/example/strikeboard/strikeboard/engine/Explanation$Column" = some m.cls := findClass_of_methodNamed Bd.named
  have hnm := (name_of_methodNamed Bd.named Bd.method).1
  have X0 : Stand p l e ({ frames := 6, cells := 9, slots := 162, locals := 132 } : Room) (s.setVm s.vm) m #[(.ref p0)] below meth c s₁ [] 0 0 := Stand.of_body Bd
  have e0 : s₁.heap = h0 := by rw [← hh, Bd.state]; rfl
  have N0 := Fr.nil n0
  have hS0 : s.Since s.vm 0 := own_since s
  have hk0 : 0 ≤ h0.size := Nat.zero_le _
  have hZ : Z.Warmed39 (s.setVm s.vm).vm := hZ
  have hown : (s.setVm s.vm).vm.findClass "com/example/strikeboard/strikeboard/engine/Explanation$Column" = some m.cls := hown
  refine Go.start fun P hPend => ?_
  refine Go.st (fun _ k => castTop (own_ef_rm_ctos m p0) k) ?_
  show Go _ _ _ _ (s₁.setTop (mkF m 0 #[lR p0] []))
  obtain ⟨T1, h1, X1, e1, E1, A1, D1, -, st1⟩ := newO X0 hx hZ hown (ow hw 54 rfl) (ow hw 55 rfl) (ow hw 56 rfl) e0 (g := (mkF m 0 #[lR p0] [])) rfl (hb hby od35_0) (by decide) (by decide)
  obtain ⟨b1, g1⟩ : ∃ z, z = h0.size := ⟨_, rfl⟩
  rw [← g1] at A1 D1 st1
  refine Go.st st1 ?_
  have g_b1 : n0 ≤ b1 := Nat.le_trans (own_oldsz X00) (Nat.le_of_eq g1.symm)
  have sz_b1 : h0.size ≤ b1 := Nat.le_trans (Keep.refl h0 []).1 (Nat.le_of_eq g1.symm)
  have K1 : Keep h0 h1 [] := (Keep.refl h0 []).ext E1
  have O1 := X00.ext E1
  have SF_b1 : Safe Z consts_1 s.vm h1 b1 := Safe.ext E1 CR0.1 (Safe.new (Nat.le_of_eq g1.symm))
  have CR1 := CR0.trans (CHr.ext E1 CR0.1)
  have F2 : Fld Z h1 b1 "java/lang/AbstractStringBuilder" "value" "[B" .null := D1 (Or.inl (ow hw 69 rfl)) (ty := (.array .byte)) (by decide)
  have F3 : Fld Z h1 b1 "java/lang/AbstractStringBuilder" "coder" "B" (.int 0) := D1 (Or.inl (ow hw 71 rfl)) (ty := .byte) (by decide)
  have F4 : Fld Z h1 b1 "java/lang/AbstractStringBuilder" "count" "I" (.int 0) := D1 (Or.inl (ow hw 94 rfl)) (ty := .int) (by decide)
  show Go _ _ _ _ (T1.setTop (mkF m 3 #[lR p0] [(.ref b1)]))
  refine Go.st (fun _ => XS.dup X1.here hx rfl (hb hby od35_3) rfl rfl) ?_
  show Go _ _ _ _ (T1.setTop (mkF m 4 #[lR p0] [(.ref b1), (.ref b1)]))
  have c6 := (hp0.ext E1)
  have c7 := (hp3.ext E1)
  have c8 := (hp6.ext E1)
  obtain ⟨_, _, ⟨T5, L5, k5, n5⟩, -, X5, ⟨Lc5, hQ5, l5, y5, z5⟩, st5⟩ := X1.specialBack hx (y := (⟨"java/lang/StringBuilder", "<init>", "()V"⟩ : MethodName)) rfl hown (mvT hZ (ow hw 57 rfl)) (mvT hZ (ow hw 58 rfl)) (mvT hZ (ow hw 59 rfl)) (by decide) (backOf (W := 1) (rm_sbinit l Z a0 hw [] g_CS S_CS nz_CS b1 h1 n0 O1 A1 F2 F3 F4 g_b1) hZ (ow hw 59 rfl) (ow hw 56 rfl) (by decide) (by decide)) (g := (mkF m 4 #[lR p0] [(.ref b1), (.ref b1)])) rfl (by rw [hml]; rfl) (Steps.refl _) (a := b1) (argsL := []) (rest := [(.ref b1)]) (lenOf own_pd22 rfl) rfl (by show 2 * 0 + _ ≤ _; exact Nat.le_of_eq rfl) (hb hby od35_4) (fun _ _ => ⟨rfl, e1, (by decide : 1 + 1 ≤ _), (by decide : 4 + 16 ≤ _)⟩)
  dsimp only [Pt.U, Pt.locs, Pt.cells, Pt.slots] at X5 l5 y5 z5 st5 hQ5
  subst y5 z5
  refine Go.tr st5 ?_
  obtain ⟨ob_9, kb_10, rfl, N5q, K5q, q5_0, q5_1, q5_2, q5_3, q5_4, q5_5, q5_6⟩ := hQ5
  have N5 : Fr n0 L5 := by rw [l5]; exact Fr.app N0 N5q
  have SN5_0 : Safe Z consts_1 s.vm h1 ob_9 := Safe.new q5_0
  have O5 := O1.keep K5q (allS g_b1 all0)
  have K5 : Keep h0 T5.heap [] := K1.trans K5q (allS (Or.inr sz_b1) all0)
  have sf11 := Safe.keep K5q (sfS SF_b1 sf0) CR1.1 SF_b1
  have sf12 := Safe.keep K5q (sfS SF_b1 sf0) CR1.1 SN5_0
  have CR5 := CR1.trans (CHr.keep K5q (sfS SF_b1 sf0) CR1.1)
  have sz_ob_9 : h0.size ≤ ob_9 := Nat.le_trans K1.1 q5_0
  have g_ob_9 : n0 ≤ ob_9 := Nat.le_trans (own_oldsz X00) sz_ob_9
  show Go _ _ _ _ (T5.setTop (mkF m 7 #[lR p0] [(.ref b1)]))
  have c14 := (c6.keep K5q)
  have c15 := (c7.keep K5q)
  have c16 := (c8.keep K5q (ninS (Nat.ne_of_lt (Nat.lt_of_lt_of_le hp6.lt (Nat.le_of_eq g1.symm))) nin0))
  obtain ⟨a13, T13, h13, kk13, b13, kb13, X13, e13, E13, hS13, hk13, hZ13, hown13, Ea13, Ca13, Va13, Ab13, alt13, blt13, hCR13, Li13, hne13, st13⟩ := ldcCH X5 hx hZ hown (ow hw 72 rfl) (fun a ha => hw a (own_strAtoms a ha)) rfl hS0 (Nat.le_trans (Nat.le_trans hk0 E1.1) K5q.1) hEL (by decide +kernel) CR5.1 (vs := [(.int 99), (.int 111), (.int 108), (.int 117), (.int 109), (.int 110), (.int 32)]) (z := (7 : Int32)) (by decide +kernel) (by decide) rfl (g := (mkF m 7 #[lR p0] [(.ref b1)])) rfl (hb hby od35_7) (n := 28) (by decide +kernel) (by decide) (by decide) (by decide)
  refine Go.st st13 ?_
  have K13 : Keep h0 h13 [] := K5.ext E13
  have O13 := O5.ext E13
  have sf17 := hCR13.safe q5_1.lt sf11
  have sf18 := hCR13.safe q5_5.lt sf12
  have CR13 := CR5.trans hCR13
  have c19 := (c14.ext E13)
  have ne20 := hne13 p0 (Safe.exa hZ13.alike c19 (by decide) (by decide))
  have ne21 := hne13 b1 sf17
  have ne22 := hne13 ob_9 sf18
  show Go _ _ _ _ (T13.setTop (mkF m 9 #[lR p0] [(.ref a13), (.ref b1)]))
  have c24 := (q5_1.ext E13)
  have c25 := (q5_2.ext E13)
  have c26 := (q5_3.ext E13)
  have c27 := (q5_4.ext E13)
  have c28 := (q5_5.ext E13)
  have c29 := (q5_6.ext E13)
  have c30 := (c15.ext E13)
  have c31 := (c16.ext E13)
  obtain ⟨cq23, kq23, q23a, q23b, q23c⟩ := isOf hZ13 e13 c24
  obtain ⟨_, _, ⟨T23, L23, k23, n23⟩, -, X23, ⟨Lc23, hQ23, l23, y23, z23⟩, st23⟩ := X13.virtualBack hx (y := (⟨"java/lang/StringBuilder", "append", "(Ljava/lang/String;)Ljava/lang/StringBuilder;"⟩ : MethodName)) (z := (⟨"java/lang/StringBuilder", "append", "(Ljava/lang/String;)Ljava/lang/StringBuilder;"⟩ : MethodName)) hown13 (mvT hZ13 (ow hw 73 rfl)) (mvT hZ13 (ow hw 74 rfl)) (notFace_of_selects (args := #[]) (mvT hZ13 (ow hw 76 rfl))) (mvT hZ13 (ow hw 76 rfl)) (mvT hZ13 (ow hw 75 rfl)) (by decide) (backOf (W := 0) (rm_sapr l Z a0 hw [] g_CS S_CS nz_CS b1 a13 ([] : List Int32) ob_9 kb_10 (16 : Int32) ([99, 111, 108, 117, 109, 110, 32] : List Int32) b13 kb13 h13 n0 O13 c24 c25 c26 c27 c28 c29 g_b1 g_ob_9 Ea13 Ca13 Va13 (by rw [own_litU]; exact Ab13) (show ∀ c ∈ ([99, 111, 108, 117, 109, 110, 32] : List Int32), ¬ c < 0 ∧ ¬ (255 : Int32) < c by decide) (Nat.le_of_ble_eq_true rfl) (by rw [own_c16]; simp only [List.length_append, List.length_cons, List.length_nil]; omega)) hZ13 (ow hw 77 rfl) (ow hw 56 rfl) (by decide) (by decide)) q23a q23c (g := (mkF m 9 #[lR p0] [(.ref a13), (.ref b1)])) rfl (by rw [hml]; rfl) (Steps.refl _) (argsL := [(.ref a13)]) (rest := []) (lenOf own_pd24 rfl) rfl (by show 2 * 0 + _ ≤ _; exact Nat.le_of_eq rfl) (hb hby od35_9) (fun _ _ => ⟨rfl, e13, (by decide : 4 + 0 ≤ _), (by decide : 52 + 0 ≤ _)⟩)
  dsimp only [Pt.U, Pt.locs, Pt.cells, Pt.slots] at X23 l23 y23 z23 st23 hQ23
  subst y23 z23
  refine Go.tr st23 ?_
  obtain ⟨rfl, N23q, K23q, q23_0, q23_1, q23_2, q23_3, q23_4, q23_5⟩ := hQ23
  have N23 : Fr n0 L23 := by rw [l23]; exact Fr.app N5 N23q
  have O23 := O13.keep K23q (allS g_b1 (allS g_ob_9 all0))
  have K23 : Keep h0 T23.heap [] := K13.trans K23q (allS (Or.inr sz_b1) (allS (Or.inr sz_ob_9) all0))
  have sf32 := Safe.keep K23q (sfS sf17 (sfS sf18 sf0)) CR13.1 sf17
  have sf33 := Safe.keep K23q (sfS sf17 (sfS sf18 sf0)) CR13.1 sf18
  have CR23 := CR13.trans (CHr.keep K23q (sfS sf17 (sfS sf18 sf0)) CR13.1)
  show Go _ _ _ _ (T23.setTop (mkF m 12 #[lR p0] [(.ref b1)]))
  refine Go.st (fun _ => XS.aloadN X23.here hx rfl (hb hby od35_12) rfl rfl) ?_
  show Go _ _ _ _ (T23.setTop (mkF m 13 #[lR p0] [(.ref p0), (.ref b1)]))
  have c34 := ((((hp1.ext E1).keep K5q (ninS (Nat.ne_of_lt (Nat.lt_of_lt_of_le hp0.lt (Nat.le_of_eq g1.symm))) nin0)).ext E13).keep K23q (ninS (Nat.ne_of_lt (Nat.lt_of_lt_of_le hp0.lt (Nat.le_of_eq g1.symm))) (ninS (Nat.ne_of_lt (Nat.lt_of_lt_of_le c6.lt q5_0)) nin0)))
  obtain ⟨T35, X35, e35, st35⟩ := getF X23 hx hZ13 hown13 (host := "") (Or.inl (ow hw 45 rfl)) Via.refl rfl c34 (g := (mkF m 13 #[lR p0] [(.ref p0), (.ref b1)])) rfl rfl (hb hby od35_13)
  refine Go.st st35 ?_
  show Go _ _ _ _ (T35.setTop (mkF m 16 #[lR p0] [(.ref so), (.ref b1)]))
  have c37 := (c30.keep K23q)
  have c38 := ((((hp4.ext E1).keep K5q (ninS (Nat.ne_of_lt (Nat.lt_of_lt_of_le hp3.lt (Nat.le_of_eq g1.symm))) nin0)).ext E13).keep K23q (ninS (Nat.ne_of_lt (Nat.lt_of_lt_of_le hp3.lt (Nat.le_of_eq g1.symm))) (ninS (Nat.ne_of_lt (Nat.lt_of_lt_of_le c7.lt q5_0)) nin0)))
  have c39 := ((((hp5.ext E1).keep K5q (ninS (Nat.ne_of_lt (Nat.lt_of_lt_of_le hp3.lt (Nat.le_of_eq g1.symm))) nin0)).ext E13).keep K23q (ninS (Nat.ne_of_lt (Nat.lt_of_lt_of_le hp3.lt (Nat.le_of_eq g1.symm))) (ninS (Nat.ne_of_lt (Nat.lt_of_lt_of_le c7.lt q5_0)) nin0)))
  have c40 := (c31.keep K23q (ninS (Nat.ne_of_lt (Nat.lt_of_lt_of_le hp6.lt (Nat.le_of_eq g1.symm))) (ninS (Nat.ne_of_lt (Nat.lt_of_lt_of_le c8.lt q5_0)) nin0)))
  have c41 := (c19.keep K23q)
  have c42 := (Ea13.keep K23q)
  have c43 := (Ab13.keep K23q (ninS (Ne.symm ne21.2) (ninS (Ne.symm ne22.2) nin0)))
  obtain ⟨cq36, kq36, q36a, q36b, q36c⟩ := isOf hZ13 e35 q23_0
  obtain ⟨_, _, ⟨T36, L36, k36, n36⟩, -, X36, ⟨Lc36, hQ36, l36, y36, z36⟩, st36⟩ := X35.virtualBack hx (y := (⟨"java/lang/StringBuilder", "append", "(Ljava/lang/String;)Ljava/lang/StringBuilder;"⟩ : MethodName)) (z := (⟨"java/lang/StringBuilder", "append", "(Ljava/lang/String;)Ljava/lang/StringBuilder;"⟩ : MethodName)) hown13 (mvT hZ13 (ow hw 73 rfl)) (mvT hZ13 (ow hw 74 rfl)) (notFace_of_selects (args := #[]) (mvT hZ13 (ow hw 76 rfl))) (mvT hZ13 (ow hw 76 rfl)) (mvT hZ13 (ow hw 75 rfl)) (by decide) (backOf (W := 0) (rm_sapr l Z a0 hw [] g_CS S_CS nz_CS b1 so (([] : List Int32) ++ ([99, 111, 108, 117, 109, 110, 32] : List Int32)) ob_9 kb_10 (16 : Int32) ocs ov ok T23.heap n0 O23 q23_0 q23_1 q23_2 q23_3 q23_4 q23_5 g_b1 g_ob_9 c37 c38 c39 c40 hpco hleo (by rw [own_c16]; simp only [List.length_append, List.length_cons, List.length_nil]; omega)) hZ13 (ow hw 77 rfl) (ow hw 56 rfl) (by decide) (by decide)) q36a q36c (g := (mkF m 16 #[lR p0] [(.ref so), (.ref b1)])) rfl (by rw [hml]; rfl) (Steps.refl _) (argsL := [(.ref so)]) (rest := []) (lenOf own_pd24 rfl) rfl (by show 2 * 0 + _ ≤ _; exact Nat.le_of_eq rfl) (hb hby od35_16) (fun _ _ => ⟨rfl, e35, (by decide : 4 + 0 ≤ _), (by decide : 52 + 0 ≤ _)⟩)
  dsimp only [Pt.U, Pt.locs, Pt.cells, Pt.slots] at X36 l36 y36 z36 st36 hQ36
  subst y36 z36
  refine Go.tr st36 ?_
  obtain ⟨rfl, N36q, K36q, q36_0, q36_1, q36_2, q36_3, q36_4, q36_5⟩ := hQ36
  have N36 : Fr n0 L36 := by rw [l36]; exact Fr.app N23 N36q
  have O36 := O23.keep K36q (allS g_b1 (allS g_ob_9 all0))
  have K36 : Keep h0 T36.heap [] := K23.trans K36q (allS (Or.inr sz_b1) (allS (Or.inr sz_ob_9) all0))
  have sf44 := Safe.keep K36q (sfS sf32 (sfS sf33 sf0)) CR23.1 sf32
  have sf45 := Safe.keep K36q (sfS sf32 (sfS sf33 sf0)) CR23.1 sf33
  have CR36 := CR23.trans (CHr.keep K36q (sfS sf32 (sfS sf33 sf0)) CR23.1)
  show Go _ _ _ _ (T36.setTop (mkF m 19 #[lR p0] [(.ref b1)]))
  have c47 := (c41.keep K36q)
  have c48 := (c37.keep K36q)
  have c49 := (c40.keep K36q (ninS (Nat.ne_of_lt (Nat.lt_of_lt_of_le hp6.lt (Nat.le_of_eq g1.symm))) (ninS (Nat.ne_of_lt (Nat.lt_of_lt_of_le c8.lt q5_0)) nin0)))
  have c50 := (c42.keep K36q)
  have c51 := (c43.keep K36q (ninS (Ne.symm ne21.2) (ninS (Ne.symm ne22.2) nin0)))
  obtain ⟨a46, T46, h46, kk46, b46, kb46, X46, e46, E46, hS46, hk46, hZ46, hown46, Ea46, Ca46, Va46, Ab46, alt46, blt46, hCR46, Li46, hne46, st46⟩ := ldcCH X36 hx hZ13 hown13 (ow hw 120 rfl) (fun a ha => hw a (own_strAtoms a ha)) rfl hS13 (Nat.le_trans (Nat.le_trans hk13 K23q.1) K36q.1) hEL (by decide +kernel) CR36.1 (vs := [(.int 32)]) (z := (1 : Int32)) (by decide +kernel) (by decide) rfl (g := (mkF m 19 #[lR p0] [(.ref b1)])) rfl (hb hby od35_19) (n := 4) (by decide +kernel) (by decide) (by decide) (by decide)
  refine Go.st st46 ?_
  have K46 : Keep h0 h46 [] := K36.ext E46
  have O46 := O36.ext E46
  have sf52 := hCR46.safe q36_0.lt sf44
  have sf53 := hCR46.safe q36_4.lt sf45
  have CR46 := CR36.trans hCR46
  have c54 := (c47.ext E46)
  have ne55 := hne46 p0 (Safe.exa hZ46.alike c54 (by decide) (by decide))
  have ne56 := hne46 b1 sf52
  have ne57 := hne46 ob_9 sf53
  show Go _ _ _ _ (T46.setTop (mkF m 21 #[lR p0] [(.ref a46), (.ref b1)]))
  have c59 := (q36_0.ext E46)
  have c60 := (q36_1.ext E46)
  have c61 := (q36_2.ext E46)
  have c62 := (q36_3.ext E46)
  have c63 := (q36_4.ext E46)
  have c64 := (q36_5.ext E46)
  have c65 := (c48.ext E46)
  have c66 := (c49.ext E46)
  have c67 := (c50.ext E46)
  have c68 := (c51.ext E46)
  obtain ⟨cq58, kq58, q58a, q58b, q58c⟩ := isOf hZ46 e46 c59
  obtain ⟨_, _, ⟨T58, L58, k58, n58⟩, -, X58, ⟨Lc58, hQ58, l58, y58, z58⟩, st58⟩ := X46.virtualBack hx (y := (⟨"java/lang/StringBuilder", "append", "(Ljava/lang/String;)Ljava/lang/StringBuilder;"⟩ : MethodName)) (z := (⟨"java/lang/StringBuilder", "append", "(Ljava/lang/String;)Ljava/lang/StringBuilder;"⟩ : MethodName)) hown46 (mvT hZ46 (ow hw 73 rfl)) (mvT hZ46 (ow hw 74 rfl)) (notFace_of_selects (args := #[]) (mvT hZ46 (ow hw 76 rfl))) (mvT hZ46 (ow hw 76 rfl)) (mvT hZ46 (ow hw 75 rfl)) (by decide) (backOf (W := 0) (rm_sapr l Z a0 hw [] g_CS S_CS nz_CS b1 a46 ((([] : List Int32) ++ ([99, 111, 108, 117, 109, 110, 32] : List Int32)) ++ ocs) ob_9 kb_10 (16 : Int32) ([32] : List Int32) b46 kb46 h46 n0 O46 c59 c60 c61 c62 c63 c64 g_b1 g_ob_9 Ea46 Ca46 Va46 (by rw [own_litS]; exact Ab46) (show ∀ c ∈ ([32] : List Int32), ¬ c < 0 ∧ ¬ (255 : Int32) < c by decide) (Nat.le_of_ble_eq_true rfl) (by rw [own_c16]; simp only [List.length_append, List.length_cons, List.length_nil]; omega)) hZ46 (ow hw 77 rfl) (ow hw 56 rfl) (by decide) (by decide)) q58a q58c (g := (mkF m 21 #[lR p0] [(.ref a46), (.ref b1)])) rfl (by rw [hml]; rfl) (Steps.refl _) (argsL := [(.ref a46)]) (rest := []) (lenOf own_pd24 rfl) rfl (by show 2 * 0 + _ ≤ _; exact Nat.le_of_eq rfl) (hb hby od35_21) (fun _ _ => ⟨rfl, e46, (by decide : 6 + 0 ≤ _), (by decide : 60 + 0 ≤ _)⟩)
  dsimp only [Pt.U, Pt.locs, Pt.cells, Pt.slots] at X58 l58 y58 z58 st58 hQ58
  subst y58 z58
  refine Go.tr st58 ?_
  obtain ⟨rfl, N58q, K58q, q58_0, q58_1, q58_2, q58_3, q58_4, q58_5⟩ := hQ58
  have N58 : Fr n0 L58 := by rw [l58]; exact Fr.app N36 N58q
  have O58 := O46.keep K58q (allS g_b1 (allS g_ob_9 all0))
  have K58 : Keep h0 T58.heap [] := K46.trans K58q (allS (Or.inr sz_b1) (allS (Or.inr sz_ob_9) all0))
  have sf69 := Safe.keep K58q (sfS sf52 (sfS sf53 sf0)) CR46.1 sf52
  have sf70 := Safe.keep K58q (sfS sf52 (sfS sf53 sf0)) CR46.1 sf53
  have CR58 := CR46.trans (CHr.keep K58q (sfS sf52 (sfS sf53 sf0)) CR46.1)
  show Go _ _ _ _ (T58.setTop (mkF m 24 #[lR p0] [(.ref b1)]))
  refine Go.st (fun _ => XS.aloadN X58.here hx rfl (hb hby od35_24) rfl rfl) ?_
  show Go _ _ _ _ (T58.setTop (mkF m 25 #[lR p0] [(.ref p0), (.ref b1)]))
  have c71 := (((((((hp2.ext E1).keep K5q (ninS (Nat.ne_of_lt (Nat.lt_of_lt_of_le hp0.lt (Nat.le_of_eq g1.symm))) nin0)).ext E13).keep K23q (ninS (Nat.ne_of_lt (Nat.lt_of_lt_of_le hp0.lt (Nat.le_of_eq g1.symm))) (ninS (Nat.ne_of_lt (Nat.lt_of_lt_of_le c6.lt q5_0)) nin0))).keep K36q (ninS (Nat.ne_of_lt (Nat.lt_of_lt_of_le hp0.lt (Nat.le_of_eq g1.symm))) (ninS (Nat.ne_of_lt (Nat.lt_of_lt_of_le c6.lt q5_0)) nin0))).ext E46).keep K58q (ninS (Nat.ne_of_lt (Nat.lt_of_lt_of_le hp0.lt (Nat.le_of_eq g1.symm))) (ninS (Nat.ne_of_lt (Nat.lt_of_lt_of_le c6.lt q5_0)) nin0)))
  obtain ⟨T72, X72, e72, st72⟩ := getF X58 hx hZ46 hown46 (host := "") (Or.inl (ow hw 47 rfl)) Via.refl rfl c71 (g := (mkF m 25 #[lR p0] [(.ref p0), (.ref b1)])) rfl rfl (hb hby od35_25)
  refine Go.st st72 ?_
  show Go _ _ _ _ (T72.setTop (mkF m 28 #[lR p0] [(.long cx), (.ref b1)]))
  by_cases hg5 : 8 + ocs.length + (own_txt cx).length ≤ 16
  · skip
    show Go _ _ _ _ (T72.setTop (mkF m 28 #[lR p0] [(.long cx), (.ref b1)]))
    have c74 := (c54.keep K58q)
    have c75 := (c65.keep K58q)
    have c76 := (c66.keep K58q (ninS (Nat.ne_of_lt (Nat.lt_of_lt_of_le hp6.lt (Nat.le_of_eq g1.symm))) (ninS (Nat.ne_of_lt (Nat.lt_of_lt_of_le c8.lt q5_0)) nin0)))
    have c77 := (c67.keep K58q)
    have c78 := (c68.keep K58q (ninS (Ne.symm ne21.2) (ninS (Ne.symm ne22.2) nin0)))
    have c79 := (Ea46.keep K58q)
    have c80 := (Ab46.keep K58q (ninS (Ne.symm ne56.2) (ninS (Ne.symm ne57.2) nin0)))
    obtain ⟨cq73, kq73, q73a, q73b, q73c⟩ := isOf hZ46 e72 q58_0
    obtain ⟨_, _, ⟨T73, L73, k73, n73⟩, -, X73, ⟨Lc73, hQ73, l73, y73, z73⟩, st73⟩ := X72.virtualBack hx (y := (⟨"java/lang/StringBuilder", "append", "(J)Ljava/lang/StringBuilder;"⟩ : MethodName)) (z := (⟨"java/lang/StringBuilder", "append", "(J)Ljava/lang/StringBuilder;"⟩ : MethodName)) hown46 (mvT hZ46 (ow hw 121 rfl)) (mvT hZ46 (ow hw 122 rfl)) (notFace_of_selects (args := #[]) (mvT hZ46 (ow hw 124 rfl))) (mvT hZ46 (ow hw 124 rfl)) (mvT hZ46 (ow hw 123 rfl)) (by decide) (backOf (W := 0) (rm_sjr l Z a0 hw [] w_st w_d1 w_d2 D1c D2c T_1 T_2 O_1 O_2 lt_st lt_d1 lt_d2 g_CS S_CS nz_CS b1 cx (((([] : List Int32) ++ ([99, 111, 108, 117, 109, 110, 32] : List Int32)) ++ ocs) ++ ([32] : List Int32)) ob_9 kb_10 (16 : Int32) T58.heap n0 O58 q58_0 q58_1 q58_2 q58_3 q58_4 q58_5 g_b1 g_ob_9 (by rw [own_c16]; simp only [List.length_append, List.length_cons, List.length_nil]; omega)) hZ46 (ow hw 125 rfl) (ow hw 56 rfl) (by decide) (by decide)) q73a q73c (g := (mkF m 28 #[lR p0] [(.long cx), (.ref b1)])) rfl (by rw [hml]; rfl) (Steps.refl _) (argsL := [(.long cx)]) (rest := []) (lenOf own_pd25 rfl) rfl (by show 2 * 0 + _ ≤ _; exact Nat.le_of_eq rfl) (hb hby od35_28) (fun _ _ => ⟨rfl, e72, (by decide : 6 + 0 ≤ _), (by decide : 60 + 0 ≤ _)⟩)
    dsimp only [Pt.U, Pt.locs, Pt.cells, Pt.slots] at X73 l73 y73 z73 st73 hQ73
    subst y73 z73
    refine Go.tr st73 ?_
    obtain ⟨rfl, N73q, K73q, q73_0, q73_1, q73_2, q73_3, q73_4, q73_5⟩ := hQ73
    have N73 : Fr n0 L73 := by rw [l73]; exact Fr.app N58 N73q
    have O73 := O58.keep K73q (allS g_b1 (allS g_ob_9 all0))
    have K73 : Keep h0 T73.heap [] := K58.trans K73q (allS (Or.inr sz_b1) (allS (Or.inr sz_ob_9) all0))
    have sf81 := Safe.keep K73q (sfS sf69 (sfS sf70 sf0)) CR58.1 sf69
    have sf82 := Safe.keep K73q (sfS sf69 (sfS sf70 sf0)) CR58.1 sf70
    have CR73 := CR58.trans (CHr.keep K73q (sfS sf69 (sfS sf70 sf0)) CR58.1)
    show Go _ _ _ _ (T73.setTop (mkF m 31 #[lR p0] [(.ref b1)]))
    have c84 := (c74.keep K73q)
    have c85 := (c75.keep K73q)
    have c86 := (c76.keep K73q (ninS (Nat.ne_of_lt (Nat.lt_of_lt_of_le hp6.lt (Nat.le_of_eq g1.symm))) (ninS (Nat.ne_of_lt (Nat.lt_of_lt_of_le c8.lt q5_0)) nin0)))
    have c87 := (c77.keep K73q)
    have c88 := (c78.keep K73q (ninS (Ne.symm ne21.2) (ninS (Ne.symm ne22.2) nin0)))
    have c89 := (c79.keep K73q)
    have c90 := (c80.keep K73q (ninS (Ne.symm ne56.2) (ninS (Ne.symm ne57.2) nin0)))
    obtain ⟨cq83, kq83, q83a, q83b, q83c⟩ := isOf hZ46 rfl q73_0
    obtain ⟨_, _, ⟨T83, L83, k83, n83⟩, -, X83, ⟨Lc83, hQ83, l83, y83, z83⟩, st83⟩ := X73.virtualBack hx (y := (⟨"java/lang/StringBuilder", "toString", "()Ljava/lang/String;"⟩ : MethodName)) (z := (⟨"java/lang/StringBuilder", "toString", "()Ljava/lang/String;"⟩ : MethodName)) hown46 (mvT hZ46 (ow hw 172 rfl)) (mvT hZ46 (ow hw 173 rfl)) (notFace_of_selects (args := #[]) (mvT hZ46 (ow hw 175 rfl))) (mvT hZ46 (ow hw 175 rfl)) (mvT hZ46 (ow hw 174 rfl)) (by decide) (backOf (W := 0) (rm_tostr l Z a0 hw [] g_CS S_CS nz_CS b1 ((((([] : List Int32) ++ ([99, 111, 108, 117, 109, 110, 32] : List Int32)) ++ ocs) ++ ([32] : List Int32)) ++ own_txt cx) ob_9 kb_10 (16 : Int32) T73.heap n0 O73 q73_0 q73_1 q73_2 q73_3 q73_4 q73_5 (by rw [own_c16]; have h20 := own_txt20 cx; simp only [List.length_append, List.length_cons, List.length_nil]; omega) (by have h20 := own_txt20 cx; simp only [List.length_append, List.length_cons, List.length_nil]; omega)) hZ46 (ow hw 176 rfl) (ow hw 56 rfl) (by decide) (by decide)) q83a q83c (g := (mkF m 31 #[lR p0] [(.ref b1)])) rfl (by rw [hml]; rfl) (Steps.refl _) (argsL := []) (rest := []) (lenOf own_pd26 rfl) rfl (by show 2 * 0 + _ ≤ _; exact Nat.le_of_eq rfl) (hb hby od35_31) (fun _ _ => ⟨rfl, rfl, (by decide : 6 + 2 ≤ _), (by decide : 60 + 68 ≤ _)⟩)
    dsimp only [Pt.U, Pt.locs, Pt.cells, Pt.slots] at X83 l83 y83 z83 st83 hQ83
    subst y83 z83
    refine Go.tr st83 ?_
    obtain ⟨os_91, ob_92, kb_93, rfl, N83q, K83q, q83_0, q83_1, q83_2, q83_3, q83_4, q83_5⟩ := hQ83
    have N83 : Fr n0 L83 := by rw [l83]; exact Fr.app N73 N83q
    have SN83_0 : Safe Z consts_1 T46.vm T73.heap os_91 := Safe.new q83_0
    have SN83_1 : Safe Z consts_1 T46.vm T73.heap ob_92 := Safe.new q83_1
    have O83 := O73.keep K83q all0
    have K83 : Keep h0 T83.heap [] := K73.trans K83q all0
    have sf94 := Safe.keep K83q sf0 CR73.1 sf81
    have sf95 := Safe.keep K83q sf0 CR73.1 sf82
    have sf96 := Safe.keep K83q sf0 CR73.1 SN83_0
    have sf97 := Safe.keep K83q sf0 CR73.1 SN83_1
    have CR83 := CR73.trans (CHr.keep K83q sf0 CR73.1)
    have sz_os_91 : h0.size ≤ os_91 := Nat.le_trans K73.1 q83_0
    have g_os_91 : n0 ≤ os_91 := Nat.le_trans (own_oldsz X00) sz_os_91
    have sz_ob_92 : h0.size ≤ ob_92 := Nat.le_trans K73.1 q83_1
    have g_ob_92 : n0 ≤ ob_92 := Nat.le_trans (own_oldsz X00) sz_ob_92
    show Go _ _ _ _ (T83.setTop (mkF m 34 #[lR p0] [(.ref os_91)]))
    obtain ⟨fs, hr, hrun, hended, -, hW, hpair, hsame⟩ := X83.leaveW hS46 (Nat.le_trans (Nat.le_trans (Nat.le_trans hk46 K58q.1) K73q.1) K83q.1) (v := some (.ref os_91)) (fun h => by rw [Bd.returns] at h; cases h)
    have hCRe := CR83.trans (CHv.at X83 hZ46 hEL CR83.1)
    refine ⟨_, ?_, hPend _ _ hrun hended ⟨_, _, rfl, ?_, ?_, ⟨_, rfl⟩, hW, hpair, hsame.mono (by decide) (by decide)⟩⟩
    · exact retOut X83 hx (t := (.object "java/lang/String")) Bd.returns rfl (Or.inr (Or.inr (Or.inr (Or.inr ⟨rfl, rfl, rfl⟩)))) (hb hby od35_34) hr
    · show Q_rm_ctos Z _ _ _ _ _ _ _ _ _ _ h0 n0 _ T83.heap _
      exact ⟨os_91, ob_92, kb_93, rfl, N83, K83, sz_os_91, q83_2, q83_3, q83_4, q83_5⟩
    · show CHr Z consts_1 s.vm s.heap T83.vm T83.heap
      rw [hh]
      exact hCRe
  · skip
    show Go _ _ _ _ (T72.setTop (mkF m 28 #[lR p0] [(.long cx), (.ref b1)]))
    have c99 := (c54.keep K58q)
    have c100 := (c65.keep K58q)
    have c101 := (c66.keep K58q (ninS (Nat.ne_of_lt (Nat.lt_of_lt_of_le hp6.lt (Nat.le_of_eq g1.symm))) (ninS (Nat.ne_of_lt (Nat.lt_of_lt_of_le c8.lt q5_0)) nin0)))
    have c102 := (c67.keep K58q)
    have c103 := (c68.keep K58q (ninS (Ne.symm ne21.2) (ninS (Ne.symm ne22.2) nin0)))
    have c104 := (Ea46.keep K58q)
    have c105 := (Ab46.keep K58q (ninS (Ne.symm ne56.2) (ninS (Ne.symm ne57.2) nin0)))
    obtain ⟨cq98, kq98, q98a, q98b, q98c⟩ := isOf hZ46 e72 q58_0
    obtain ⟨_, _, ⟨T98, L98, k98, n98⟩, -, X98, ⟨Lc98, hQ98, l98, y98, z98⟩, st98⟩ := X72.virtualBack hx (y := (⟨"java/lang/StringBuilder", "append", "(J)Ljava/lang/StringBuilder;"⟩ : MethodName)) (z := (⟨"java/lang/StringBuilder", "append", "(J)Ljava/lang/StringBuilder;"⟩ : MethodName)) hown46 (mvT hZ46 (ow hw 121 rfl)) (mvT hZ46 (ow hw 122 rfl)) (notFace_of_selects (args := #[]) (mvT hZ46 (ow hw 124 rfl))) (mvT hZ46 (ow hw 124 rfl)) (mvT hZ46 (ow hw 123 rfl)) (by decide) (backOf (W := 0) (rm_sjg l Z a0 hw [] w_st w_d1 w_d2 D1c D2c T_1 T_2 O_1 O_2 lt_st lt_d1 lt_d2 g_CS S_CS nz_CS b1 cx (((([] : List Int32) ++ ([99, 111, 108, 117, 109, 110, 32] : List Int32)) ++ ocs) ++ ([32] : List Int32)) ob_9 kb_10 T58.heap n0 O58 q58_0 q58_1 q58_2 q58_3 q58_4 q58_5 g_b1 g_ob_9 (by simp only [List.length_append, List.length_cons, List.length_nil]; omega) (by simp only [List.length_append, List.length_cons, List.length_nil]; omega) (by have h20 := own_txt20 cx; simp only [List.length_append, List.length_cons, List.length_nil]; omega)) hZ46 (ow hw 125 rfl) (ow hw 56 rfl) (by decide) (by decide)) q98a q98c (g := (mkF m 28 #[lR p0] [(.long cx), (.ref b1)])) rfl (by rw [hml]; rfl) (Steps.refl _) (argsL := [(.long cx)]) (rest := []) (lenOf own_pd25 rfl) rfl (by show 2 * 0 + _ ≤ _; exact Nat.le_of_eq rfl) (hb hby od35_28) (fun _ _ => ⟨rfl, e72, (by decide : 6 + 1 ≤ _), (by decide : 60 + 34 ≤ _)⟩)
    dsimp only [Pt.U, Pt.locs, Pt.cells, Pt.slots] at X98 l98 y98 z98 st98 hQ98
    subst y98 z98
    refine Go.tr st98 ?_
    obtain ⟨ob_106, kb_107, rfl, N98q, K98q, q98_0, q98_1, q98_2, q98_3, q98_4, q98_5, q98_6⟩ := hQ98
    have N98 : Fr n0 L98 := by rw [l98]; exact Fr.app N58 N98q
    have SN98_0 : Safe Z consts_1 T46.vm T58.heap ob_106 := Safe.new q98_0
    have O98 := O58.keep K98q (allS g_b1 all0)
    have K98 : Keep h0 T98.heap [] := K58.trans K98q (allS (Or.inr sz_b1) all0)
    have sf108 := Safe.keep K98q (sfS sf69 sf0) CR58.1 sf69
    have sf109 := Safe.keep K98q (sfS sf69 sf0) CR58.1 sf70
    have sf110 := Safe.keep K98q (sfS sf69 sf0) CR58.1 SN98_0
    have CR98 := CR58.trans (CHr.keep K98q (sfS sf69 sf0) CR58.1)
    have sz_ob_106 : h0.size ≤ ob_106 := Nat.le_trans K58.1 q98_0
    have g_ob_106 : n0 ≤ ob_106 := Nat.le_trans (own_oldsz X00) sz_ob_106
    show Go _ _ _ _ (T98.setTop (mkF m 31 #[lR p0] [(.ref b1)]))
    have c112 := (c99.keep K98q)
    have c113 := (c100.keep K98q)
    have c114 := (c101.keep K98q (ninS (Nat.ne_of_lt (Nat.lt_of_lt_of_le hp6.lt (Nat.le_of_eq g1.symm))) nin0))
    have c115 := (q58_4.keep K98q)
    have c116 := (c102.keep K98q)
    have c117 := (c103.keep K98q (ninS (Ne.symm ne21.2) nin0))
    have c118 := (c104.keep K98q)
    have c119 := (c105.keep K98q (ninS (Ne.symm ne56.2) nin0))
    obtain ⟨cq111, kq111, q111a, q111b, q111c⟩ := isOf hZ46 rfl q98_1
    obtain ⟨_, _, ⟨T111, L111, k111, n111⟩, -, X111, ⟨Lc111, hQ111, l111, y111, z111⟩, st111⟩ := X98.virtualBack hx (y := (⟨"java/lang/StringBuilder", "toString", "()Ljava/lang/String;"⟩ : MethodName)) (z := (⟨"java/lang/StringBuilder", "toString", "()Ljava/lang/String;"⟩ : MethodName)) hown46 (mvT hZ46 (ow hw 172 rfl)) (mvT hZ46 (ow hw 173 rfl)) (notFace_of_selects (args := #[]) (mvT hZ46 (ow hw 175 rfl))) (mvT hZ46 (ow hw 175 rfl)) (mvT hZ46 (ow hw 174 rfl)) (by decide) (backOf (W := 0) (rm_tostr l Z a0 hw [] g_CS S_CS nz_CS b1 ((((([] : List Int32) ++ ([99, 111, 108, 117, 109, 110, 32] : List Int32)) ++ ocs) ++ ([32] : List Int32)) ++ own_txt cx) ob_106 kb_107 (34 : Int32) T98.heap n0 O98 q98_1 q98_2 q98_3 q98_4 q98_5 q98_6 (by rw [own_c34]; have h20 := own_txt20 cx; simp only [List.length_append, List.length_cons, List.length_nil]; omega) (by have h20 := own_txt20 cx; simp only [List.length_append, List.length_cons, List.length_nil]; omega)) hZ46 (ow hw 176 rfl) (ow hw 56 rfl) (by decide) (by decide)) q111a q111c (g := (mkF m 31 #[lR p0] [(.ref b1)])) rfl (by rw [hml]; rfl) (Steps.refl _) (argsL := []) (rest := []) (lenOf own_pd26 rfl) rfl (by show 2 * 0 + _ ≤ _; exact Nat.le_of_eq rfl) (hb hby od35_31) (fun _ _ => ⟨rfl, rfl, (by decide : 7 + 2 ≤ _), (by decide : 94 + 68 ≤ _)⟩)
    dsimp only [Pt.U, Pt.locs, Pt.cells, Pt.slots] at X111 l111 y111 z111 st111 hQ111
    subst y111 z111
    refine Go.tr st111 ?_
    obtain ⟨os_120, ob_121, kb_122, rfl, N111q, K111q, q111_0, q111_1, q111_2, q111_3, q111_4, q111_5⟩ := hQ111
    have N111 : Fr n0 L111 := by rw [l111]; exact Fr.app N98 N111q
    have SN111_0 : Safe Z consts_1 T46.vm T98.heap os_120 := Safe.new q111_0
    have SN111_1 : Safe Z consts_1 T46.vm T98.heap ob_121 := Safe.new q111_1
    have O111 := O98.keep K111q all0
    have K111 : Keep h0 T111.heap [] := K98.trans K111q all0
    have sf123 := Safe.keep K111q sf0 CR98.1 sf108
    have sf124 := Safe.keep K111q sf0 CR98.1 sf109
    have sf125 := Safe.keep K111q sf0 CR98.1 sf110
    have sf126 := Safe.keep K111q sf0 CR98.1 SN111_0
    have sf127 := Safe.keep K111q sf0 CR98.1 SN111_1
    have CR111 := CR98.trans (CHr.keep K111q sf0 CR98.1)
    have sz_os_120 : h0.size ≤ os_120 := Nat.le_trans K98.1 q111_0
    have g_os_120 : n0 ≤ os_120 := Nat.le_trans (own_oldsz X00) sz_os_120
    have sz_ob_121 : h0.size ≤ ob_121 := Nat.le_trans K98.1 q111_1
    have g_ob_121 : n0 ≤ ob_121 := Nat.le_trans (own_oldsz X00) sz_ob_121
    show Go _ _ _ _ (T111.setTop (mkF m 34 #[lR p0] [(.ref os_120)]))
    obtain ⟨fs, hr, hrun, hended, -, hW, hpair, hsame⟩ := X111.leaveW hS46 (Nat.le_trans (Nat.le_trans (Nat.le_trans hk46 K58q.1) K98q.1) K111q.1) (v := some (.ref os_120)) (fun h => by rw [Bd.returns] at h; cases h)
    have hCRe := CR111.trans (CHv.at X111 hZ46 hEL CR111.1)
    refine ⟨_, ?_, hPend _ _ hrun hended ⟨_, _, rfl, ?_, ?_, ⟨_, rfl⟩, hW, hpair, hsame.mono (by decide) (by decide)⟩⟩
    · exact retOut X111 hx (t := (.object "java/lang/String")) Bd.returns rfl (Or.inr (Or.inr (Or.inr (Or.inr ⟨rfl, rfl, rfl⟩)))) (hb hby od35_34) hr
    · show Q_rm_ctos Z _ _ _ _ _ _ _ _ _ _ h0 n0 _ T111.heap _
      exact ⟨os_120, ob_121, kb_122, rfl, N111, K111, sz_os_120, q111_2, q111_3, q111_4, q111_5⟩
    · show CHr Z consts_1 s.vm s.heap T111.vm T111.heap
      rw [hh]
      exact hCRe
def own_e (o : List Int32) (x : Int64) : Int32 := Int32.ofNat (own_RC o x).length
def own_p (o : List Int32) : Int32 := Int32.ofNat (8 + o.length)
def own_q (o : List Int32) (x : Int64) : Int32 := Int32.ofNat (8 + o.length + (own_sg x).length)
def own_m (x : Int64) : Int32 := Int32.ofNat (own_ds (own_nL x)).length
def own_t (k : Nat) (x : Int64) : Int64 := Jvm.Free.SBG.negL (own_val (List.take k (own_ds (own_nL x))))
theorem own_ltkk {a b : Int32} {q k n : Nat} (ha : a = Int32.ofNat (q + k)) (hb : b = Int32.ofNat (q + n)) (h : q + n ≤ 4000 ∧ k ≤ 4000) (hl : a < b) : k < n := by
  rw [ha, hb, Int32.lt_iff_toInt_lt, own_ofN (by omega), own_ofN (by omega)] at hl; omega
theorem own_gekk {a b : Int32} {q k n : Nat} (ha : a = Int32.ofNat (q + k)) (hb : b = Int32.ofNat (q + n)) (h : q + n ≤ 4000 ∧ k ≤ 4000) (hl : ¬ (a < b)) : ¬ k < n := fun z => by
  apply hl
  rw [ha, hb, Int32.lt_iff_toInt_lt, own_ofN (by omega), own_ofN (by omega)]; omega
theorem own_d48 {x : Int32} (h : 48 ≤ x.toInt) : ¬ (x < (48 : Int32)) := by rw [Int32.lt_iff_toInt_lt, show (48 : Int32).toInt = 48 from rfl]; omega
theorem own_d57 {x : Int32} (h : x.toInt ≤ 57) : ¬ ((57 : Int32) < x) := by rw [Int32.lt_iff_toInt_lt, show (57 : Int32).toInt = 57 from rfl]; omega
theorem own_ef_rm_step (m : MethodId) (x0 : Int64) (x1 : Addr) (x2 : Int32) (x3 : Int32) : entryFrame m #[(.long x0), (.ref x1), (.int x2), (.int x3)] 9 = mkF m 0 #[.val (.long x0), .second, .val (.ref x1), .val (.int x2), .val (.int x3), .unset, .unset, .unset, .unset] [] := by first | (simp [entryFrame, mkF, argsToLocals, Value.category]; done) | rfl
theorem own_pn9 : plainName "com/example/strikeboard/strikeboard/engine/ColumnToStringPinLaw" = true := by first | (simp [plainName, overriddenIn]; done) | decide +kernel
theorem od36_0 : decode method_3_code 0 = .ok (.lload_n 0, 1) := by decide +kernel
theorem od36_1 : decode method_3_code 1 = .ok (.lconst 0, 1) := by decide +kernel
theorem od36_2 : decode method_3_code 2 = .ok (.lcmp, 1) := by decide +kernel
theorem od36_3 : decode method_3_code 3 = .ok (.ifCond .gt 9, 3) := by decide +kernel
theorem od36_6 : decode method_3_code 6 = .ok (.iload_n 3, 1) := by decide +kernel
theorem od36_7 : decode method_3_code 7 = .ok (.iload 4, 2) := by decide +kernel
theorem od36_9 : decode method_3_code 9 = .ok (.if_icmp .lt 5, 3) := by decide +kernel
theorem od36_14 : decode method_3_code 14 = .ok (.aload_n 2, 1) := by decide +kernel
theorem od36_15 : decode method_3_code 15 = .ok (.iload_n 3, 1) := by decide +kernel
theorem od36_16 : decode method_3_code 16 = .ok (.invokevirtual 29, 3) := by decide +kernel
theorem own_pd27 : parseMethodDescriptor "(I)C" = some ⟨[.int], some .char⟩ := by decide +kernel
theorem od36_19 : decode method_3_code 19 = .ok (.istore 5, 2) := by decide +kernel
theorem od36_21 : decode method_3_code 21 = .ok (.iload 5, 2) := by decide +kernel
theorem od36_23 : decode method_3_code 23 = .ok (.bipush 48, 2) := by decide +kernel
theorem od36_25 : decode method_3_code 25 = .ok (.if_icmp .lt 10, 3) := by decide +kernel
theorem od36_28 : decode method_3_code 28 = .ok (.iload 5, 2) := by decide +kernel
theorem od36_30 : decode method_3_code 30 = .ok (.bipush 57, 2) := by decide +kernel
theorem od36_32 : decode method_3_code 32 = .ok (.if_icmp .le 5, 3) := by decide +kernel
theorem od36_37 : decode method_3_code 37 = .ok (.lload_n 0, 1) := by decide +kernel
theorem od36_38 : decode method_3_code 38 = .ok (.ldc2_w 43, 3) := by decide +kernel
theorem od36_41 : decode method_3_code 41 = .ok (.lcmp, 1) := by decide +kernel
theorem od36_42 : decode method_3_code 42 = .ok (.ifCond .ge 5, 3) := by decide +kernel
theorem od36_47 : decode method_3_code 47 = .ok (.lload_n 0, 1) := by decide +kernel
theorem od36_48 : decode method_3_code 48 = .ok (.ldc2_w 45, 3) := by decide +kernel
theorem od36_51 : decode method_3_code 51 = .ok (.lmul, 1) := by decide +kernel
theorem od36_52 : decode method_3_code 52 = .ok (.lstore 6, 2) := by decide +kernel
theorem od36_54 : decode method_3_code 54 = .ok (.iload 5, 2) := by decide +kernel
theorem od36_56 : decode method_3_code 56 = .ok (.bipush 48, 2) := by decide +kernel
theorem od36_58 : decode method_3_code 58 = .ok (.isub, 1) := by decide +kernel
theorem od36_59 : decode method_3_code 59 = .ok (.istore 8, 2) := by decide +kernel
theorem od36_61 : decode method_3_code 61 = .ok (.lload 6, 2) := by decide +kernel
theorem od36_63 : decode method_3_code 63 = .ok (.ldc2_w 41, 3) := by decide +kernel
theorem od36_66 : decode method_3_code 66 = .ok (.iload 8, 2) := by decide +kernel
theorem od36_68 : decode method_3_code 68 = .ok (.i2l, 1) := by decide +kernel
theorem od36_69 : decode method_3_code 69 = .ok (.ladd, 1) := by decide +kernel
theorem od36_70 : decode method_3_code 70 = .ok (.lcmp, 1) := by decide +kernel
theorem od36_71 : decode method_3_code 71 = .ok (.ifCond .ge 5, 3) := by decide +kernel
theorem od36_76 : decode method_3_code 76 = .ok (.lload 6, 2) := by decide +kernel
theorem od36_78 : decode method_3_code 78 = .ok (.iload 8, 2) := by decide +kernel
theorem od36_80 : decode method_3_code 80 = .ok (.i2l, 1) := by decide +kernel
theorem od36_81 : decode method_3_code 81 = .ok (.lsub, 1) := by decide +kernel
theorem od36_82 : decode method_3_code 82 = .ok (.lreturn, 1) := by decide +kernel
theorem od36_12 : decode method_3_code 12 = .ok (.lload_n 0, 1) := by decide +kernel
theorem od36_13 : decode method_3_code 13 = .ok (.lreturn, 1) := by decide +kernel
def Q_rm_step (Z : State) (g_CS : Int32) (g_SF : Value) (p0 : Int64) (p1 : Addr) (p2 : Int32) (p3 : Int32) (rcs : List Int32) (rv : Addr) (rk : ClassId) (cx : Int64) (qq : Nat) (kk : Nat) (h0 : Heap) (n0 : Nat) (v : Option Value) (h : Heap) (L : List Loc) : Prop := v = some (.long (own_t (kk + 1) cx)) ∧ Fr n0 L ∧ h = h0
set_option maxRecDepth 65536 in
set_option maxHeartbeats 40000000 in
theorem rm_step (l : Launch) (Z : State) (a0 : Array Value) (hw : ∀ d ∈ tables_1, d.before a0 Z = true) (ws : List Jvm.Cond) (g_CS : Int32) (S_CS : Sta Z Z.heap "java/lang/String" "COMPACT_STRINGS" "Z" (.int g_CS)) (nz_CS : ¬ (g_CS = (0 : Int32))) (g_SF : Value) (S_SF : Sta Z Z.heap "jdk/internal/util/Preconditions" "SIOOBE_FORMATTER" "Ljava/util/function/BiFunction;" g_SF) (r_SF : g_SF.isRef = true) (p0 : Int64) (p1 : Addr) (p2 : Int32) (p3 : Int32) (rcs : List Int32) (rv : Addr) (rk : ClassId) (cx : Int64) (qq : Nat) (kk : Nat) (h0 : Heap) (n0 : Nat) (X00 : Old Z n0 h0) (hp0 : Exa Z h0 p1 "java/lang/String") (hp1 : Fld Z h0 p1 "java/lang/String" "coder" "B" (.int 0)) (hp2 : Fld Z h0 p1 "java/lang/String" "value" "[B" (.ref rv)) (hp3 : Arv Z h0 rv rk .byte (Int32.ofNat rcs.length) ((rcs.map StrChars.lo8).map Value.int) (.int 0)) (hpcr : ∀ c ∈ rcs, ¬ c < 0 ∧ ¬ (255 : Int32) < c) (hler : rcs.length ≤ 4000) (h0a : p0 = (own_t kk cx)) (hi : p2 = Int32.ofNat (qq + kk)) (he : p3 = Int32.ofNat (qq + (own_ds (own_nL cx)).length)) (hb31 : qq + (own_ds (own_nL cx)).length ≤ 4000 ∧ kk ≤ 4000) (hget : ∀ t, t < (own_ds (own_nL cx)).length → qq + t < rcs.length ∧ rcs.getD (qq + t) 0 = (own_ds (own_nL cx)).getD t 0) :
    MetFree l (⟨"com/example/strikeboard/strikeboard/engine/ColumnToStringPinLaw", "step", "(JLjava/lang/String;II)J"⟩ : MethodName) (head1 (Jvm.Cond.code (⟨"com/example/strikeboard/strikeboard/engine/ColumnToStringPinLaw", "step", "(JLjava/lang/String;II)J"⟩ : MethodName) method_3_code 9 (some .long) :: ws) ({ frames := 4, cells := 0, slots := 0, locals := 53 } : Room)) (fun a U => a = #[(.long p0), (.ref p1), (.int p2), (.int p3)] ∧ Z.Warmed39 U.vm ∧ U.heap = h0) (fun _ _ _ _ _ => True) (fun _ U o U' => ∃ v L, o = .returned v ∧ Q_rm_step Z g_CS g_SF p0 p1 p2 p3 rcs rv rk cx qq kk h0 n0 v U'.heap L ∧ FrameEnd U o U' L ({ frames := 4, cells := 0, slots := 0, locals := 53 } : Room).cells ({ frames := 4, cells := 0, slots := 0, locals := 53 } : Room).slots) := by
  refine MetFree.of_bodySF (plainFor_of_name own_pn9) hisR ?_
  intro p e s m args below meth c s₁ Bd hml0 hP hK
  obtain ⟨rfl, hZ, hh⟩ := hP
  have hx := Bd.exec
  have hby := Bd.bytes
  have hml : c.maxLocals = 9 := hml0
  have hown : s.vm.findClass "com/example/strikeboard/strikeboard/engine/ColumnToStringPinLaw" = some m.cls := findClass_of_methodNamed Bd.named
  have hnm := (name_of_methodNamed Bd.named Bd.method).1
  have X0 : Stand p l e ({ frames := 4, cells := 0, slots := 0, locals := 53 } : Room) s m #[(.long p0), (.ref p1), (.int p2), (.int p3)] below meth c s₁ [] 0 0 := Stand.of_body Bd
  have e0 : s₁.heap = h0 := by rw [← hh, Bd.state]; rfl
  have N0 := Fr.nil n0
  refine Go.start fun P hPend => ?_
  refine Go.st (fun _ k => castTop (own_ef_rm_step m p0 p1 p2 p3) k) ?_
  have hnn := own_nL_le cx
  have hv0 : own_val (List.take kk (own_ds (own_nL cx))) ≤ 2 ^ 63 := Nat.le_trans (own_take_le hnn) hnn
  show Go _ _ _ _ (s₁.setTop (mkF m 0 #[lJ p0, lS, lR p1, lI p2, lI p3, lU, lU, lU, lU] []))
  rw [h0a]
  show Go _ _ _ _ (s₁.setTop (mkF m 0 #[lJ (own_t kk cx), lS, lR p1, lI p2, lI p3, lU, lU, lU, lU] []))
  refine Go.st (fun _ => XS.lloadN X0.here hx rfl (hb hby od36_0) rfl) ?_
  refine Go.st (fun _ => XS.lconst X0.here hx rfl (hb hby od36_1)) ?_
  show Go _ _ _ _ (s₁.setTop (mkF m 2 #[lJ (own_t kk cx), lS, lR p1, lI p2, lI p3, lU, lU, lU, lU] [(.long (0 : Int64)), (.long (own_t kk cx))]))
  refine Go.st (fun _ => XS.lcmp X0.here hx rfl (hb hby od36_2) rfl) ?_
  show Go _ _ _ _ (s₁.setTop (mkF m 3 #[lJ (own_t kk cx), lS, lR p1, lI p2, lI p3, lU, lU, lU, lU] [(.int (lcmpW (own_t kk cx) (0 : Int64)))]))
  have hb1 : ¬ ((0 : Int32) < (lcmpW (own_t kk cx) (0 : Int64))) := own_nl0 hv0
  refine Go.st (fun _ => XS.ifNo X0.here hx rfl (hb hby od36_3) rfl ((if0 _ _).trans (flt hb1).2.2.1)) ?_
  show Go _ _ _ _ (s₁.setTop (mkF m 6 #[lJ (own_t kk cx), lS, lR p1, lI p2, lI p3, lU, lU, lU, lU] []))
  refine Go.st (fun _ => XS.iloadN X0.here hx rfl (hb hby od36_6) rfl) ?_
  refine Go.st (fun _ => XS.iload X0.here hx rfl (hb hby od36_7) rfl) ?_
  show Go _ _ _ _ (s₁.setTop (mkF m 9 #[lJ (own_t kk cx), lS, lR p1, lI p2, lI p3, lU, lU, lU, lU] [(.int p3), (.int p2)]))
  by_cases hc2 : p2 < p3
  · skip
    have hkk : kk < (own_ds (own_nL cx)).length := own_ltkk hi he hb31 hc2
    have hcv := (hget kk hkk).2
    have hdg : 48 ≤ (rcs.getD (qq + kk) 0).toInt ∧ (rcs.getD (qq + kk) 0).toInt ≤ 57 := by rw [hcv]; exact own_dig hkk
    have hnx : own_val (List.take (kk + 1) (own_ds (own_nL cx))) = 10 * own_val (List.take kk (own_ds (own_nL cx))) + ((rcs.getD (qq + kk) 0).toInt.toNat - 48) := by rw [hcv]; exact own_takeS hkk
    have hst := own_st hdg (by rw [← hnx]; exact Nat.le_trans (own_take_le hnn) hnn)
    refine Go.st (fun _ => XS.icmpYes X0.here hx rfl (pc0 := 9) (pc' := 14) rfl (hb hby od36_9) rfl (tlt hc2).1 (by decide) (by decide)) ?_
    show Go _ _ _ _ (s₁.setTop (mkF m 14 #[lJ (own_t kk cx), lS, lR p1, lI p2, lI p3, lU, lU, lU, lU] []))
    refine Go.st (fun _ => XS.aloadN X0.here hx rfl (hb hby od36_14) rfl rfl) ?_
    refine Go.st (fun _ => XS.iloadN X0.here hx rfl (hb hby od36_15) rfl) ?_
    show Go _ _ _ _ (s₁.setTop (mkF m 16 #[lJ (own_t kk cx), lS, lR p1, lI p2, lI p3, lU, lU, lU, lU] [(.int p2), (.ref p1)]))
    have hcd3 : StrChars.Road.CodA rcs 0 (Int32.ofNat rcs.length) ((rcs.map StrChars.lo8).map Value.int) := StrChars.Road.codOf (n := rcs.length) rfl (fun c hc => (hpcr c hc).2)
    obtain ⟨cq3, kq3, q3a, q3b, q3c⟩ := isOf hZ e0 hp0
    obtain ⟨_, _, ⟨T3, L3, k3, n3⟩, -, X3, ⟨Lc3, hQ3, l3, y3, z3⟩, st3⟩ := X0.virtualBack hx (y := (⟨"java/lang/String", "charAt", "(I)C"⟩ : MethodName)) (z := (⟨"java/lang/String", "charAt", "(I)C"⟩ : MethodName)) hown (mvT hZ (ow hw 208 rfl)) (mvT hZ (ow hw 209 rfl)) (notFace_of_selects (args := #[]) (mvT hZ (ow hw 211 rfl))) (mvT hZ (ow hw 211 rfl)) (mvT hZ (ow hw 210 rfl)) (by decide) (StrChars.Road.chN (W := 0) hZ (fun d hd => hw d (own_wCh d hd)) (kI := 4) (ow hw 10 rfl) hp0 hp2 hp1 hp3 hcd3 (own_up _ hpcr) (S_CS.ext X00.2) nz_CS (S_SF.ext X00.2) r_SF hler (i := (qq + kk)) (hget kk hkk).1 (j := p2) hi (by decide) (by decide)) q3a q3c (g := (mkF m 16 #[lJ (own_t kk cx), lS, lR p1, lI p2, lI p3, lU, lU, lU, lU] [(.int p2), (.ref p1)])) rfl (by rw [hml]; rfl) (Steps.refl _) (argsL := [(.int p2)]) (rest := []) (lenOf own_pd27 rfl) rfl (by show 2 * 0 + _ ≤ _; exact Nat.le_of_eq rfl) (hb hby od36_16) (fun _ _ => ⟨rfl, e0, (by decide : 0 + 0 ≤ _), (by decide : 0 + 0 ≤ _)⟩)
    dsimp only [Pt.U, Pt.locs, Pt.cells, Pt.slots] at X3 l3 y3 z3 st3 hQ3
    subst y3 z3
    refine Go.tr st3 ?_
    obtain ⟨rfl, rfl, e3⟩ := hQ3
    have N3 : Fr n0 L3 := by rw [l3]; exact Fr.app N0 (Fr.nil n0)
    show Go _ _ _ _ (T3.setTop (mkF m 19 #[lJ (own_t kk cx), lS, lR p1, lI p2, lI p3, lU, lU, lU, lU] [(.int (rcs.getD (qq + kk) 0))]))
    refine Go.st (fun _ => XS.istore X3.here hx rfl (hb hby od36_19) rfl (l' := #[lJ (own_t kk cx), lS, lR p1, lI p2, lI p3, lI (rcs.getD (qq + kk) 0), lU, lU, lU]) rfl) ?_
    show Go _ _ _ _ (T3.setTop (mkF m 21 #[lJ (own_t kk cx), lS, lR p1, lI p2, lI p3, lI (rcs.getD (qq + kk) 0), lU, lU, lU] []))
    refine Go.st (fun _ => XS.iload X3.here hx rfl (hb hby od36_21) rfl) ?_
    refine Go.st (fun _ => XS.bipush X3.here hx rfl (hb hby od36_23)) ?_
    show Go _ _ _ _ (T3.setTop (mkF m 25 #[lJ (own_t kk cx), lS, lR p1, lI p2, lI p3, lI (rcs.getD (qq + kk) 0), lU, lU, lU] [(.int 48), (.int (rcs.getD (qq + kk) 0))]))
    have hb4 : ¬ ((rcs.getD (qq + kk) 0) < (48 : Int32)) := own_d48 hdg.1
    refine Go.st (fun _ => XS.icmpNo X3.here hx rfl (hb hby od36_25) rfl (flt hb4).1) ?_
    show Go _ _ _ _ (T3.setTop (mkF m 28 #[lJ (own_t kk cx), lS, lR p1, lI p2, lI p3, lI (rcs.getD (qq + kk) 0), lU, lU, lU] []))
    refine Go.st (fun _ => XS.iload X3.here hx rfl (hb hby od36_28) rfl) ?_
    refine Go.st (fun _ => XS.bipush X3.here hx rfl (hb hby od36_30)) ?_
    show Go _ _ _ _ (T3.setTop (mkF m 32 #[lJ (own_t kk cx), lS, lR p1, lI p2, lI p3, lI (rcs.getD (qq + kk) 0), lU, lU, lU] [(.int 57), (.int (rcs.getD (qq + kk) 0))]))
    have hb5 : ¬ ((57 : Int32) < (rcs.getD (qq + kk) 0)) := own_d57 hdg.2
    refine Go.st (fun _ => XS.icmpYes X3.here hx rfl (pc0 := 32) (pc' := 37) rfl (hb hby od36_32) rfl (flt hb5).2.2.2 (by decide) (by decide)) ?_
    show Go _ _ _ _ (T3.setTop (mkF m 37 #[lJ (own_t kk cx), lS, lR p1, lI p2, lI p3, lI (rcs.getD (qq + kk) 0), lU, lU, lU] []))
    refine Go.st (fun _ => XS.lloadN X3.here hx rfl (hb hby od36_37) rfl) ?_
    show Go _ _ _ _ (T3.setTop (mkF m 38 #[lJ (own_t kk cx), lS, lR p1, lI p2, lI p3, lI (rcs.getD (qq + kk) 0), lU, lU, lU] [(.long (own_t kk cx))]))
    refine Go.st (fun _ => X3.ldc2Long hx hown (mvT hZ (ow hw 233 rfl)) (g := (mkF m 38 #[lJ (own_t kk cx), lS, lR p1, lI p2, lI p3, lI (rcs.getD (qq + kk) 0), lU, lU, lU] [(.long (own_t kk cx))])) rfl (hb hby od36_38) _) ?_
    show Go _ _ _ _ (T3.setTop (mkF m 41 #[lJ (own_t kk cx), lS, lR p1, lI p2, lI p3, lI (rcs.getD (qq + kk) 0), lU, lU, lU] [(.long (-922337203685477580 : Int64)), (.long (own_t kk cx))]))
    refine Go.st (fun _ => XS.lcmp X3.here hx rfl (hb hby od36_41) rfl) ?_
    show Go _ _ _ _ (T3.setTop (mkF m 42 #[lJ (own_t kk cx), lS, lR p1, lI p2, lI p3, lI (rcs.getD (qq + kk) 0), lU, lU, lU] [(.int (lcmpW (own_t kk cx) (-922337203685477580 : Int64)))]))
    have hb6 : ¬ ((lcmpW (own_t kk cx) (-922337203685477580 : Int64)) < (0 : Int32)) := hst.1
    refine Go.st (fun _ => XS.ifYes X3.here hx rfl (pc0 := 42) (pc' := 47) rfl (hb hby od36_42) rfl ((if0 _ _).trans (flt hb6).2.1) (by decide) (by decide)) ?_
    show Go _ _ _ _ (T3.setTop (mkF m 47 #[lJ (own_t kk cx), lS, lR p1, lI p2, lI p3, lI (rcs.getD (qq + kk) 0), lU, lU, lU] []))
    refine Go.st (fun _ => XS.lloadN X3.here hx rfl (hb hby od36_47) rfl) ?_
    show Go _ _ _ _ (T3.setTop (mkF m 48 #[lJ (own_t kk cx), lS, lR p1, lI p2, lI p3, lI (rcs.getD (qq + kk) 0), lU, lU, lU] [(.long (own_t kk cx))]))
    refine Go.st (fun _ => X3.ldc2Long hx hown (mvT hZ (ow hw 234 rfl)) (g := (mkF m 48 #[lJ (own_t kk cx), lS, lR p1, lI p2, lI p3, lI (rcs.getD (qq + kk) 0), lU, lU, lU] [(.long (own_t kk cx))])) rfl (hb hby od36_48) _) ?_
    show Go _ _ _ _ (T3.setTop (mkF m 51 #[lJ (own_t kk cx), lS, lR p1, lI p2, lI p3, lI (rcs.getD (qq + kk) 0), lU, lU, lU] [(.long (10 : Int64)), (.long (own_t kk cx))]))
    refine Go.st (fun _ => XS.lmul X3.here hx rfl (hb hby od36_51) rfl) ?_
    show Go _ _ _ _ (T3.setTop (mkF m 52 #[lJ (own_t kk cx), lS, lR p1, lI p2, lI p3, lI (rcs.getD (qq + kk) 0), lU, lU, lU] [(.long ((own_t kk cx) * (10 : Int64)))]))
    refine Go.st (fun _ => XS.lstore X3.here hx rfl (hb hby od36_52) rfl (l' := #[lJ (own_t kk cx), lS, lR p1, lI p2, lI p3, lI (rcs.getD (qq + kk) 0), lJ ((own_t kk cx) * (10 : Int64)), lS, lU]) rfl) ?_
    show Go _ _ _ _ (T3.setTop (mkF m 54 #[lJ (own_t kk cx), lS, lR p1, lI p2, lI p3, lI (rcs.getD (qq + kk) 0), lJ ((own_t kk cx) * (10 : Int64)), lS, lU] []))
    refine Go.st (fun _ => XS.iload X3.here hx rfl (hb hby od36_54) rfl) ?_
    refine Go.st (fun _ => XS.bipush X3.here hx rfl (hb hby od36_56)) ?_
    show Go _ _ _ _ (T3.setTop (mkF m 58 #[lJ (own_t kk cx), lS, lR p1, lI p2, lI p3, lI (rcs.getD (qq + kk) 0), lJ ((own_t kk cx) * (10 : Int64)), lS, lU] [(.int 48), (.int (rcs.getD (qq + kk) 0))]))
    refine Go.st (fun _ => XS.isub X3.here hx rfl (hb hby od36_58) rfl) ?_
    show Go _ _ _ _ (T3.setTop (mkF m 59 #[lJ (own_t kk cx), lS, lR p1, lI p2, lI p3, lI (rcs.getD (qq + kk) 0), lJ ((own_t kk cx) * (10 : Int64)), lS, lU] [(.int ((rcs.getD (qq + kk) 0) - (48 : Int32)))]))
    refine Go.st (fun _ => XS.istore X3.here hx rfl (hb hby od36_59) rfl (l' := #[lJ (own_t kk cx), lS, lR p1, lI p2, lI p3, lI (rcs.getD (qq + kk) 0), lJ ((own_t kk cx) * (10 : Int64)), lS, lI ((rcs.getD (qq + kk) 0) - (48 : Int32))]) rfl) ?_
    show Go _ _ _ _ (T3.setTop (mkF m 61 #[lJ (own_t kk cx), lS, lR p1, lI p2, lI p3, lI (rcs.getD (qq + kk) 0), lJ ((own_t kk cx) * (10 : Int64)), lS, lI ((rcs.getD (qq + kk) 0) - (48 : Int32))] []))
    refine Go.st (fun _ => XS.lload X3.here hx rfl (hb hby od36_61) rfl) ?_
    show Go _ _ _ _ (T3.setTop (mkF m 63 #[lJ (own_t kk cx), lS, lR p1, lI p2, lI p3, lI (rcs.getD (qq + kk) 0), lJ ((own_t kk cx) * (10 : Int64)), lS, lI ((rcs.getD (qq + kk) 0) - (48 : Int32))] [(.long ((own_t kk cx) * (10 : Int64)))]))
    refine Go.st (fun _ => X3.ldc2Long hx hown (mvT hZ (ow hw 235 rfl)) (g := (mkF m 63 #[lJ (own_t kk cx), lS, lR p1, lI p2, lI p3, lI (rcs.getD (qq + kk) 0), lJ ((own_t kk cx) * (10 : Int64)), lS, lI ((rcs.getD (qq + kk) 0) - (48 : Int32))] [(.long ((own_t kk cx) * (10 : Int64)))])) rfl (hb hby od36_63) _) ?_
    show Go _ _ _ _ (T3.setTop (mkF m 66 #[lJ (own_t kk cx), lS, lR p1, lI p2, lI p3, lI (rcs.getD (qq + kk) 0), lJ ((own_t kk cx) * (10 : Int64)), lS, lI ((rcs.getD (qq + kk) 0) - (48 : Int32))] [(.long (-9223372036854775808 : Int64)), (.long ((own_t kk cx) * (10 : Int64)))]))
    refine Go.st (fun _ => XS.iload X3.here hx rfl (hb hby od36_66) rfl) ?_
    show Go _ _ _ _ (T3.setTop (mkF m 68 #[lJ (own_t kk cx), lS, lR p1, lI p2, lI p3, lI (rcs.getD (qq + kk) 0), lJ ((own_t kk cx) * (10 : Int64)), lS, lI ((rcs.getD (qq + kk) 0) - (48 : Int32))] [(.int ((rcs.getD (qq + kk) 0) - (48 : Int32))), (.long (-9223372036854775808 : Int64)), (.long ((own_t kk cx) * (10 : Int64)))]))
    refine Go.st (fun _ => XS.i2l X3.here hx rfl (hb hby od36_68) rfl) ?_
    show Go _ _ _ _ (T3.setTop (mkF m 69 #[lJ (own_t kk cx), lS, lR p1, lI p2, lI p3, lI (rcs.getD (qq + kk) 0), lJ ((own_t kk cx) * (10 : Int64)), lS, lI ((rcs.getD (qq + kk) 0) - (48 : Int32))] [(.long (((rcs.getD (qq + kk) 0) - (48 : Int32)).toInt64)), (.long (-9223372036854775808 : Int64)), (.long ((own_t kk cx) * (10 : Int64)))]))
    refine Go.st (fun _ => XS.ladd X3.here hx rfl (hb hby od36_69) rfl) ?_
    show Go _ _ _ _ (T3.setTop (mkF m 70 #[lJ (own_t kk cx), lS, lR p1, lI p2, lI p3, lI (rcs.getD (qq + kk) 0), lJ ((own_t kk cx) * (10 : Int64)), lS, lI ((rcs.getD (qq + kk) 0) - (48 : Int32))] [(.long ((-9223372036854775808 : Int64) + (((rcs.getD (qq + kk) 0) - (48 : Int32)).toInt64))), (.long ((own_t kk cx) * (10 : Int64)))]))
    refine Go.st (fun _ => XS.lcmp X3.here hx rfl (hb hby od36_70) rfl) ?_
    show Go _ _ _ _ (T3.setTop (mkF m 71 #[lJ (own_t kk cx), lS, lR p1, lI p2, lI p3, lI (rcs.getD (qq + kk) 0), lJ ((own_t kk cx) * (10 : Int64)), lS, lI ((rcs.getD (qq + kk) 0) - (48 : Int32))] [(.int (lcmpW ((own_t kk cx) * (10 : Int64)) ((-9223372036854775808 : Int64) + (((rcs.getD (qq + kk) 0) - (48 : Int32)).toInt64))))]))
    have hb7 : ¬ ((lcmpW ((own_t kk cx) * (10 : Int64)) ((-9223372036854775808 : Int64) + (((rcs.getD (qq + kk) 0) - (48 : Int32)).toInt64))) < (0 : Int32)) := hst.2.1
    refine Go.st (fun _ => XS.ifYes X3.here hx rfl (pc0 := 71) (pc' := 76) rfl (hb hby od36_71) rfl ((if0 _ _).trans (flt hb7).2.1) (by decide) (by decide)) ?_
    show Go _ _ _ _ (T3.setTop (mkF m 76 #[lJ (own_t kk cx), lS, lR p1, lI p2, lI p3, lI (rcs.getD (qq + kk) 0), lJ ((own_t kk cx) * (10 : Int64)), lS, lI ((rcs.getD (qq + kk) 0) - (48 : Int32))] []))
    refine Go.st (fun _ => XS.lload X3.here hx rfl (hb hby od36_76) rfl) ?_
    refine Go.st (fun _ => XS.iload X3.here hx rfl (hb hby od36_78) rfl) ?_
    show Go _ _ _ _ (T3.setTop (mkF m 80 #[lJ (own_t kk cx), lS, lR p1, lI p2, lI p3, lI (rcs.getD (qq + kk) 0), lJ ((own_t kk cx) * (10 : Int64)), lS, lI ((rcs.getD (qq + kk) 0) - (48 : Int32))] [(.int ((rcs.getD (qq + kk) 0) - (48 : Int32))), (.long ((own_t kk cx) * (10 : Int64)))]))
    refine Go.st (fun _ => XS.i2l X3.here hx rfl (hb hby od36_80) rfl) ?_
    show Go _ _ _ _ (T3.setTop (mkF m 81 #[lJ (own_t kk cx), lS, lR p1, lI p2, lI p3, lI (rcs.getD (qq + kk) 0), lJ ((own_t kk cx) * (10 : Int64)), lS, lI ((rcs.getD (qq + kk) 0) - (48 : Int32))] [(.long (((rcs.getD (qq + kk) 0) - (48 : Int32)).toInt64)), (.long ((own_t kk cx) * (10 : Int64)))]))
    refine Go.st (fun _ => XS.lsub X3.here hx rfl (hb hby od36_81) rfl) ?_
    show Go _ _ _ _ (T3.setTop (mkF m 82 #[lJ (own_t kk cx), lS, lR p1, lI p2, lI p3, lI (rcs.getD (qq + kk) 0), lJ ((own_t kk cx) * (10 : Int64)), lS, lI ((rcs.getD (qq + kk) 0) - (48 : Int32))] [(.long (((own_t kk cx) * (10 : Int64)) - (((rcs.getD (qq + kk) 0) - (48 : Int32)).toInt64)))]))
    obtain ⟨fs, hr, hrun, hended, hW, hsame⟩ := X3.leave (v := some (.long (((own_t kk cx) * (10 : Int64)) - (((rcs.getD (qq + kk) 0) - (48 : Int32)).toInt64)))) (fun h => by rw [Bd.returns] at h; cases h)
    refine ⟨_, ?_, hPend _ _ hrun hended ⟨_, _, rfl, ?_, ⟨_, rfl⟩, hW, hsame.mono (by decide) (by decide)⟩⟩
    · exact retOut X3 hx (t := .long) Bd.returns rfl (Or.inr (Or.inl ⟨rfl, rfl, _, rfl⟩)) (hb hby od36_82) hr
    · show Q_rm_step Z _ _ _ _ _ _ _ _ _ _ _ _ h0 n0 _ T3.heap _
      rw [e3]
      exact ⟨(congrArg (fun z => some (Value.long z)) (hst.2.2.trans (congrArg Jvm.Free.SBG.negL hnx.symm))), N3, rfl⟩
  · skip
    have hkk : ¬ kk < (own_ds (own_nL cx)).length := own_gekk hi he hb31 hc2
    refine Go.st (fun _ => XS.icmpNo X0.here hx rfl (hb hby od36_9) rfl (flt hc2).1) ?_
    show Go _ _ _ _ (s₁.setTop (mkF m 12 #[lJ (own_t kk cx), lS, lR p1, lI p2, lI p3, lU, lU, lU, lU] []))
    refine Go.st (fun _ => XS.lloadN X0.here hx rfl (hb hby od36_12) rfl) ?_
    show Go _ _ _ _ (s₁.setTop (mkF m 13 #[lJ (own_t kk cx), lS, lR p1, lI p2, lI p3, lU, lU, lU, lU] [(.long (own_t kk cx))]))
    obtain ⟨fs, hr, hrun, hended, hW, hsame⟩ := X0.leave (v := some (.long (own_t kk cx))) (fun h => by rw [Bd.returns] at h; cases h)
    refine ⟨_, ?_, hPend _ _ hrun hended ⟨_, _, rfl, ?_, ⟨_, rfl⟩, hW, hsame.mono (by decide) (by decide)⟩⟩
    · exact retOut X0 hx (t := .long) Bd.returns rfl (Or.inr (Or.inl ⟨rfl, rfl, _, rfl⟩)) (hb hby od36_13) hr
    · show Q_rm_step Z _ _ _ _ _ _ _ _ _ _ _ _ h0 n0 _ s₁.heap _
      rw [e0]
      exact ⟨(congrArg (fun z => some (Value.long (Jvm.Free.SBG.negL z))) (own_takeE hkk).symm), N0, rfl⟩
theorem own_lenRC (o : List Int32) (x : Int64) : (own_RC o x).length = 8 + o.length + (own_sg x).length + (own_ds (own_nL x)).length := by simp [own_RC, own_txt]; omega
theorem own_wpos (x : Int64) : 1 ≤ (own_ds (own_nL x)).length ∧ (own_ds (own_nL x)).length ≤ 19 := by rw [own_dslen]; exact ⟨(Jvm.Free.SBG.digitsL_pos _).1, own_w19 (own_nL_le x)⟩
theorem own_sg1 (x : Int64) : (own_sg x).length ≤ 1 := by unfold own_sg; split <;> simp
theorem own_RCo (o : List Int32) (x : Int64) {t : Nat} (h : t < o.length) : (own_RC o x).getD (7 + t) 0 = o.getD t 0 := by
  simp only [own_RC, List.getD_eq_getElem?_getD, List.nil_append, List.append_assoc]
  rw [List.getElem?_append_right (by simp), List.getElem?_append_left (by simp; omega)]
  simp
theorem own_RCs (o : List Int32) (x : Int64) : (own_RC o x).getD (7 + o.length) 0 = 32 := by
  simp only [own_RC, List.getD_eq_getElem?_getD, List.nil_append, List.append_assoc]
  rw [List.getElem?_append_right (by simp), List.getElem?_append_right (by simp)]
  simp
theorem own_RCt (o : List Int32) (x : Int64) (t : Nat) : (own_RC o x).getD (8 + o.length + t) 0 = (own_txt x).getD t 0 := by
  simp only [own_RC, List.getD_eq_getElem?_getD, List.nil_append, List.append_assoc]
  rw [List.getElem?_append_right (by simp; omega), List.getElem?_append_right (by simp; omega), List.getElem?_append_right (by simp; omega)]
  congr 2
  simp
  omega
theorem own_RCd (o : List Int32) (x : Int64) (t : Nat) : (own_RC o x).getD (8 + o.length + (own_sg x).length + t) 0 = (own_ds (own_nL x)).getD t 0 := by
  rw [Nat.add_assoc (8 + o.length), own_RCt, own_txt]
  simp only [List.getD_eq_getElem?_getD]
  rw [List.getElem?_append_right (by omega)]
  congr 2
  omega
theorem own_isneg (o : List Int32) (x : Int64) : (own_RC o x).getD (8 + o.length) 0 = 45 ↔ x < 0 := by
  have q := own_RCt o x 0
  rw [Nat.add_zero] at q
  rw [q]
  by_cases hx : x < 0
  · simp [own_txt, own_sg, hx]
  · have e : own_txt x = own_ds (own_nL x) := by simp [own_txt, own_sg, hx]
    have hd := own_dig (n := own_nL x) (t := 0) (by have := (own_wpos x).1; omega)
    rw [e]
    refine ⟨fun z => ?_, fun z => absurd z hx⟩
    rw [z, show (45 : Int32).toInt = 45 from rfl] at hd
    omega
theorem own_smallRC {o : List Int32} (x : Int64) (h1 : ∀ c ∈ o, ¬ c < 0 ∧ ¬ (255 : Int32) < c) : ∀ c ∈ own_RC o x, ¬ c < 0 ∧ ¬ (255 : Int32) < c := fun c hc => by
  have hU : ∀ c ∈ ([99, 111, 108, 117, 109, 110, 32] : List Int32), ¬ c < 0 ∧ ¬ (255 : Int32) < c := by decide
  have hS : ∀ c ∈ ([32] : List Int32), ¬ c < 0 ∧ ¬ (255 : Int32) < c := by decide
  unfold own_RC at hc
  rcases List.mem_append.mp hc with hc | hc
  · rcases List.mem_append.mp hc with hc | hc
    · rcases List.mem_append.mp hc with hc | hc
      · exact hU c (by simpa using hc)
      · exact h1 c hc
    · exact hS c hc
  · unfold own_txt at hc
    rcases List.mem_append.mp hc with hc | hc
    · unfold own_sg at hc
      split at hc
      · rw [List.mem_singleton.mp hc]; decide
      · exact absurd hc List.not_mem_nil
    · obtain ⟨t, ht, rfl⟩ := List.getElem_of_mem hc
      have hd := own_dig ht
      rw [List.getD_eq_getElem?_getD, List.getElem?_eq_getElem ht, Option.getD_some] at hd
      rw [Int32.lt_iff_toInt_lt, Int32.lt_iff_toInt_lt, show (0 : Int32).toInt = 0 from rfl, show (255 : Int32).toInt = 255 from rfl]
      omega
theorem own_leRC {o : List Int32} (x : Int64) (h1 : o.length ≤ 3) : (own_RC o x).length ≤ 4000 := by
  have := own_wpos x
  have := own_sg1 x
  rw [own_lenRC]; omega
theorem own_l159 {o : List Int32} (x : Int64) (h1 : o.length ≤ 3) : ¬ ((Int32.ofNat (own_RC o x).length) < ((Int32.ofNat (8 + o.length)) + (1 : Int32))) := by
  have := own_wpos x
  have := own_sg1 x
  rw [show (Int32.ofNat (8 + o.length)) + (1 : Int32) = Int32.ofNat (8 + o.length + 1) from own_addj 1 rfl, Int32.lt_iff_toInt_lt, own_lenRC, own_ofN (by omega), own_ofN (by omega)]; omega
theorem own_l169 {o : List Int32} (x : Int64) (h1 : o.length ≤ 3) : ¬ (((Int32.ofNat (8 + o.length)) + (20 : Int32)) < (Int32.ofNat (own_RC o x).length)) := by
  have := own_wpos x
  have := own_sg1 x
  rw [show (Int32.ofNat (8 + o.length)) + (20 : Int32) = Int32.ofNat (8 + o.length + 20) from own_addj 20 rfl, Int32.lt_iff_toInt_lt, own_lenRC, own_ofN (by omega), own_ofN (by omega)]; omega
theorem own_subm {o : List Int32} (x : Int64) (h1 : o.length ≤ 3) : ((Int32.ofNat (own_RC o x).length) - (Int32.ofNat (8 + o.length + (own_sg x).length))) = (Int32.ofNat (own_ds (own_nL x)).length) := by
  have := own_wpos x
  have := own_sg1 x
  apply Int32.toInt_inj.mp
  rw [Int32.toInt_sub, own_lenRC, own_ofN (by omega), own_ofN (by omega), own_ofN (by omega), Int.bmod_eq_of_le (by omega) (by omega)]; omega
theorem own_l385 (x : Int64) : ¬ ((Int32.ofNat (own_ds (own_nL x)).length) < (1 : Int32)) := by
  have := own_wpos x
  rw [Int32.lt_iff_toInt_lt, own_ofN (by omega), show (1 : Int32).toInt = 1 from rfl]; omega
theorem own_l392 (x : Int64) : ¬ ((19 : Int32) < (Int32.ofNat (own_ds (own_nL x)).length)) := by
  have := own_wpos x
  rw [Int32.lt_iff_toInt_lt, own_ofN (by omega), show (19 : Int32).toInt = 19 from rfl]; omega
theorem own_l400 {x : Int64} (h : (1 : Int32) < (Int32.ofNat (own_ds (own_nL x)).length)) : 1 < (own_ds (own_nL x)).length := by
  have := own_wpos x
  rw [Int32.lt_iff_toInt_lt, own_ofN (by omega), show (1 : Int32).toInt = 1 from rfl] at h; omega
theorem own_l412 {o : List Int32} {x : Int64} (h : 1 < (own_ds (own_nL x)).length) : ¬ ((own_RC o x).getD (8 + o.length + (own_sg x).length) 0 = (48 : Int32)) := by
  have q := own_RCd o x 0
  rw [Nat.add_zero] at q
  rw [q]; exact own_lead (own_nL_le x) h
theorem own_eRC (o : List Int32) (x : Int64) : (Int32.ofNat (own_RC o x).length) = Int32.ofNat ((8 + o.length + (own_sg x).length) + (own_ds (own_nL x)).length) := by rw [own_lenRC]
theorem own_getRC (o : List Int32) (x : Int64) : ∀ t, t < (own_ds (own_nL x)).length → (8 + o.length + (own_sg x).length) + t < (own_RC o x).length ∧ (own_RC o x).getD ((8 + o.length + (own_sg x).length) + t) 0 = (own_ds (own_nL x)).getD t 0 := fun t ht => ⟨by rw [own_lenRC]; omega, own_RCd o x t⟩
theorem own_all19 (x : Int64) : (Jvm.Free.SBG.negL (own_val (List.take 19 (own_ds (own_nL x))))) = Jvm.Free.SBG.negL (own_nL x) := by
  rw [List.take_of_length_le (own_wpos x).2, own_val_ds (own_nL_le x)]
theorem own_b4000 {o : List Int32} (x : Int64) (h1 : o.length ≤ 3) {k : Nat} (hk : k ≤ 4000) : (8 + o.length + (own_sg x).length) + (own_ds (own_nL x)).length ≤ 4000 ∧ k ≤ 4000 := by
  have := own_wpos x
  have := own_sg1 x
  exact ⟨by omega, hk⟩
theorem own_and3 (x : Int32) : x &&& 3 = 0 ∨ x &&& 3 = 1 ∨ x &&& 3 = 2 ∨ x &&& 3 = 3 := by
  have h : (x &&& 3).toInt = x.toInt % (2 ^ 2 : Nat) := c_mask x 3 2 (by decide) (by decide)
  have e : (x &&& 3).toInt = 0 ∨ (x &&& 3).toInt = 1 ∨ (x &&& 3).toInt = 2 ∨ (x &&& 3).toInt = 3 := by omega
  rcases e with e | e | e | e
  · exact Or.inl (Int32.toInt_inj.mp e)
  · exact Or.inr (Or.inl (Int32.toInt_inj.mp e))
  · exact Or.inr (Or.inr (Or.inl (Int32.toInt_inj.mp e)))
  · exact Or.inr (Or.inr (Or.inr (Int32.toInt_inj.mp e)))
theorem own_lt_n {n k : Nat} (h : ¬ (Int32.ofNat n < Int32.ofNat k)) (hn : n ≤ 3) (hk : k ≤ 3) : k ≤ n := by
  rw [Int32.lt_iff_toInt_lt, own_ofN (by omega), own_ofN (by omega)] at h; omega
theorem own_neg_of {j : Int32} {x : Int64} (h : (j = (0 : Int32)) ↔ ¬ x < 0) (hj : ¬ (j = (0 : Int32))) : x < 0 := Classical.not_not.mp fun z => hj (h.mpr z)
theorem own_ef_rm_law (m : MethodId) (x0 : Int32) (x1 : Int32) (x2 : Int32) (x3 : Int32) (x4 : Int64) : entryFrame m #[(.int x0), (.int x1), (.int x2), (.int x3), (.long x4)] maxLocals = mkF m 0 #[.val (.int x0), .val (.int x1), .val (.int x2), .val (.int x3), .val (.long x4), .second, .unset, .unset, .unset, .unset, .unset, .unset, .unset, .unset, .unset, .unset, .unset, .unset, .unset, .unset, .unset] [] := by first | (simp [entryFrame, mkF, argsToLocals, Value.category, maxLocals]; done) | rfl
theorem own_pd28 : parseMethodDescriptor "(Ljava/lang/String;J)V" = some ⟨[(.object "java/lang/String"), .long], none⟩ := by decide +kernel
theorem own_pd29 : parseMethodDescriptor "(JLjava/lang/String;II)J" = some ⟨[.long, (.object "java/lang/String"), .int, .int], some .long⟩ := by decide +kernel
theorem own_pd30 : parseMethodDescriptor "([C)V" = some ⟨[(.array .char)], none⟩ := by decide +kernel
theorem own_pd31 : parseMethodDescriptor "(C)Ljava/lang/String;" = some ⟨[.char], some (.object "java/lang/String")⟩ := by decide +kernel
def Q_rm_law (Z : State) (w_st : Addr) (w_d1 : Addr) (w_d2 : Addr) (g_CS : Int32) (g_SF : Value) (p0 : Int32) (p1 : Int32) (p2 : Int32) (p3 : Int32) (p4 : Int64) (h0 : Heap) (n0 : Nat) (v : Option Value) (h : Heap) (L : List Loc) : Prop := v = some (.int 1) ∧ Fr n0 L ∧ Keep h0 h []
set_option maxRecDepth 65536 in
set_option maxHeartbeats 40000000 in
theorem rm_law (l : Launch) (Z : State) (a0 : Array Value) (hw : ∀ d ∈ tables_1, d.before a0 Z = true) (ws : List Jvm.Cond) (w_st : Addr) (w_d1 : Addr) (w_d2 : Addr) (D1c : Cell) (D2c : Cell) (T_1 : Jvm.Free.SBG.Tbl Z "DigitOnes" w_st w_d1 D1c) (T_2 : Jvm.Free.SBG.Tbl Z "DigitTens" w_st w_d2 D2c) (O_1 : Jvm.Free.SBG.Ones D1c) (O_2 : Jvm.Free.SBG.Tens D2c) (lt_st : w_st < Z.heap.size) (lt_d1 : w_d1 < Z.heap.size) (lt_d2 : w_d2 < Z.heap.size) (g_CS : Int32) (S_CS : Sta Z Z.heap "java/lang/String" "COMPACT_STRINGS" "Z" (.int g_CS)) (nz_CS : ¬ (g_CS = (0 : Int32))) (g_SF : Value) (S_SF : Sta Z Z.heap "jdk/internal/util/Preconditions" "SIOOBE_FORMATTER" "Ljava/util/function/BiFunction;" g_SF) (r_SF : g_SF.isRef = true) (p0 : Int32) (p1 : Int32) (p2 : Int32) (p3 : Int32) (p4 : Int64) (h0 : Heap) (n0 : Nat) (X00 : Old Z n0 h0)  :
    MetFree l x (head1 (Jvm.Cond.code x code maxLocals ret :: ws) room_1) (fun a U => a = #[(.int p0), (.int p1), (.int p2), (.int p3), (.long p4)] ∧ Z.Warmed39 U.vm ∧ U.heap = h0 ∧ CHv Z consts_1 U.vm h0) (fun _ _ _ _ _ => True) (fun _ U o U' => ∃ v L, o = .returned v ∧ Q_rm_law Z w_st w_d1 w_d2 g_CS g_SF p0 p1 p2 p3 p4 h0 n0 v U'.heap L ∧ CHr Z consts_1 U.vm U.heap U'.vm U'.heap ∧ ReturnedEndW U o U' L 18 208) := by
  refine MetFree.of_bodySF (plainFor_of_name own_pn9) hisR ?_
  intro p e s m args below meth c s₁ Bd hml0 hP hK
  obtain ⟨rfl, hZ, hh, hCH⟩ := hP
  have hEL := own_EW Z a0 hw
  have CR0 : CHr Z consts_1 s.vm h0 s.vm h0 := CHr.refl hCH
  have hx := Bd.exec
  have hby := Bd.bytes
  have hml : c.maxLocals = 21 := hml0
  have hown : s.vm.findClass "com/example/strikeboard/strikeboard/engine/ColumnToStringPinLaw" = some m.cls := findClass_of_methodNamed Bd.named
  have hnm := (name_of_methodNamed Bd.named Bd.method).1
  have X0 : Stand p l e room_1 (s.setVm s.vm) m #[(.int p0), (.int p1), (.int p2), (.int p3), (.long p4)] below meth c s₁ [] 0 0 := Stand.of_body Bd
  have e0 : s₁.heap = h0 := by rw [← hh, Bd.state]; rfl
  have N0 := Fr.nil n0
  have hS0 : s.Since s.vm 0 := own_since s
  have hk0 : 0 ≤ h0.size := Nat.zero_le _
  have hZ : Z.Warmed39 (s.setVm s.vm).vm := hZ
  have hown : (s.setVm s.vm).vm.findClass "com/example/strikeboard/strikeboard/engine/ColumnToStringPinLaw" = some m.cls := hown
  refine Go.start fun P hPend => ?_
  refine Go.st (fun _ k => castTop (own_ef_rm_law m p0 p1 p2 p3 p4) k) ?_
  show Go _ _ _ _ (s₁.setTop (mkF m 0 #[lI p0, lI p1, lI p2, lI p3, lJ p4, lS, lU, lU, lU, lU, lU, lU, lU, lU, lU, lU, lU, lU, lU, lU, lU] []))
  refine Go.st (fun _ => XS.iloadN X0.here hx rfl (hb hby at_0) rfl) ?_
  refine Go.st (fun _ => XS.iconst X0.here hx rfl (hb hby at_1)) ?_
  show Go _ _ _ _ (s₁.setTop (mkF m 2 #[lI p0, lI p1, lI p2, lI p3, lJ p4, lS, lU, lU, lU, lU, lU, lU, lU, lU, lU, lU, lU, lU, lU, lU, lU] [(.int 3), (.int p3)]))
  refine Go.st (fun _ => XS.iand X0.here hx rfl (hb hby at_2) rfl) ?_
  show Go _ _ _ _ (s₁.setTop (mkF m 3 #[lI p0, lI p1, lI p2, lI p3, lJ p4, lS, lU, lU, lU, lU, lU, lU, lU, lU, lU, lU, lU, lU, lU, lU, lU] [(.int (p3 &&& (3 : Int32)))]))
  refine Go.st (fun _ => XS.istore X0.here hx rfl (hb hby at_3) rfl (l' := #[lI p0, lI p1, lI p2, lI p3, lJ p4, lS, lI (p3 &&& (3 : Int32)), lU, lU, lU, lU, lU, lU, lU, lU, lU, lU, lU, lU, lU, lU]) rfl) ?_
  show Go _ _ _ _ (s₁.setTop (mkF m 5 #[lI p0, lI p1, lI p2, lI p3, lJ p4, lS, lI (p3 &&& (3 : Int32)), lU, lU, lU, lU, lU, lU, lU, lU, lU, lU, lU, lU, lU, lU] []))
  refine Go.st (fun _ => XS.iloadN X0.here hx rfl (hb hby at_5) rfl) ?_
  refine Go.st (fun _ => XS.sipush X0.here hx rfl (hb hby at_6)) ?_
  show Go _ _ _ _ (s₁.setTop (mkF m 9 #[lI p0, lI p1, lI p2, lI p3, lJ p4, lS, lI (p3 &&& (3 : Int32)), lU, lU, lU, lU, lU, lU, lU, lU, lU, lU, lU, lU, lU, lU] [(.int 255), (.int p0)]))
  refine Go.st (fun _ => XS.iand X0.here hx rfl (hb hby at_9) rfl) ?_
  show Go _ _ _ _ (s₁.setTop (mkF m 10 #[lI p0, lI p1, lI p2, lI p3, lJ p4, lS, lI (p3 &&& (3 : Int32)), lU, lU, lU, lU, lU, lU, lU, lU, lU, lU, lU, lU, lU, lU] [(.int (p0 &&& (255 : Int32)))]))
  refine Go.st (fun _ => XS.i2c X0.here hx rfl (hb hby at_10) rfl) ?_
  show Go _ _ _ _ (s₁.setTop (mkF m 11 #[lI p0, lI p1, lI p2, lI p3, lJ p4, lS, lI (p3 &&& (3 : Int32)), lU, lU, lU, lU, lU, lU, lU, lU, lU, lU, lU, lU, lU, lU] [(.int ((p0 &&& (255 : Int32)).toUInt32.toUInt16.toUInt32.toInt32))]))
  rw [i2c_mask]
  show Go _ _ _ _ (s₁.setTop (mkF m 11 #[lI p0, lI p1, lI p2, lI p3, lJ p4, lS, lI (p3 &&& (3 : Int32)), lU, lU, lU, lU, lU, lU, lU, lU, lU, lU, lU, lU, lU, lU] [(.int (p0 &&& (255 : Int32)))]))
  refine Go.st (fun _ => XS.istore X0.here hx rfl (hb hby at_11) rfl (l' := #[lI p0, lI p1, lI p2, lI p3, lJ p4, lS, lI (p3 &&& (3 : Int32)), lI (p0 &&& (255 : Int32)), lU, lU, lU, lU, lU, lU, lU, lU, lU, lU, lU, lU, lU]) rfl) ?_
  show Go _ _ _ _ (s₁.setTop (mkF m 13 #[lI p0, lI p1, lI p2, lI p3, lJ p4, lS, lI (p3 &&& (3 : Int32)), lI (p0 &&& (255 : Int32)), lU, lU, lU, lU, lU, lU, lU, lU, lU, lU, lU, lU, lU] []))
  refine Go.st (fun _ => XS.iloadN X0.here hx rfl (hb hby at_13) rfl) ?_
  refine Go.st (fun _ => XS.sipush X0.here hx rfl (hb hby at_14)) ?_
  show Go _ _ _ _ (s₁.setTop (mkF m 17 #[lI p0, lI p1, lI p2, lI p3, lJ p4, lS, lI (p3 &&& (3 : Int32)), lI (p0 &&& (255 : Int32)), lU, lU, lU, lU, lU, lU, lU, lU, lU, lU, lU, lU, lU] [(.int 255), (.int p1)]))
  refine Go.st (fun _ => XS.iand X0.here hx rfl (hb hby at_17) rfl) ?_
  show Go _ _ _ _ (s₁.setTop (mkF m 18 #[lI p0, lI p1, lI p2, lI p3, lJ p4, lS, lI (p3 &&& (3 : Int32)), lI (p0 &&& (255 : Int32)), lU, lU, lU, lU, lU, lU, lU, lU, lU, lU, lU, lU, lU] [(.int (p1 &&& (255 : Int32)))]))
  refine Go.st (fun _ => XS.i2c X0.here hx rfl (hb hby at_18) rfl) ?_
  show Go _ _ _ _ (s₁.setTop (mkF m 19 #[lI p0, lI p1, lI p2, lI p3, lJ p4, lS, lI (p3 &&& (3 : Int32)), lI (p0 &&& (255 : Int32)), lU, lU, lU, lU, lU, lU, lU, lU, lU, lU, lU, lU, lU] [(.int ((p1 &&& (255 : Int32)).toUInt32.toUInt16.toUInt32.toInt32))]))
  rw [i2c_mask]
  show Go _ _ _ _ (s₁.setTop (mkF m 19 #[lI p0, lI p1, lI p2, lI p3, lJ p4, lS, lI (p3 &&& (3 : Int32)), lI (p0 &&& (255 : Int32)), lU, lU, lU, lU, lU, lU, lU, lU, lU, lU, lU, lU, lU] [(.int (p1 &&& (255 : Int32)))]))
  refine Go.st (fun _ => XS.istore X0.here hx rfl (hb hby at_19) rfl (l' := #[lI p0, lI p1, lI p2, lI p3, lJ p4, lS, lI (p3 &&& (3 : Int32)), lI (p0 &&& (255 : Int32)), lI (p1 &&& (255 : Int32)), lU, lU, lU, lU, lU, lU, lU, lU, lU, lU, lU, lU]) rfl) ?_
  show Go _ _ _ _ (s₁.setTop (mkF m 21 #[lI p0, lI p1, lI p2, lI p3, lJ p4, lS, lI (p3 &&& (3 : Int32)), lI (p0 &&& (255 : Int32)), lI (p1 &&& (255 : Int32)), lU, lU, lU, lU, lU, lU, lU, lU, lU, lU, lU, lU] []))
  refine Go.st (fun _ => XS.iloadN X0.here hx rfl (hb hby at_21) rfl) ?_
  refine Go.st (fun _ => XS.sipush X0.here hx rfl (hb hby at_22)) ?_
  show Go _ _ _ _ (s₁.setTop (mkF m 25 #[lI p0, lI p1, lI p2, lI p3, lJ p4, lS, lI (p3 &&& (3 : Int32)), lI (p0 &&& (255 : Int32)), lI (p1 &&& (255 : Int32)), lU, lU, lU, lU, lU, lU, lU, lU, lU, lU, lU, lU] [(.int 255), (.int p2)]))
  refine Go.st (fun _ => XS.iand X0.here hx rfl (hb hby at_25) rfl) ?_
  show Go _ _ _ _ (s₁.setTop (mkF m 26 #[lI p0, lI p1, lI p2, lI p3, lJ p4, lS, lI (p3 &&& (3 : Int32)), lI (p0 &&& (255 : Int32)), lI (p1 &&& (255 : Int32)), lU, lU, lU, lU, lU, lU, lU, lU, lU, lU, lU, lU] [(.int (p2 &&& (255 : Int32)))]))
  refine Go.st (fun _ => XS.i2c X0.here hx rfl (hb hby at_26) rfl) ?_
  show Go _ _ _ _ (s₁.setTop (mkF m 27 #[lI p0, lI p1, lI p2, lI p3, lJ p4, lS, lI (p3 &&& (3 : Int32)), lI (p0 &&& (255 : Int32)), lI (p1 &&& (255 : Int32)), lU, lU, lU, lU, lU, lU, lU, lU, lU, lU, lU, lU] [(.int ((p2 &&& (255 : Int32)).toUInt32.toUInt16.toUInt32.toInt32))]))
  rw [i2c_mask]
  show Go _ _ _ _ (s₁.setTop (mkF m 27 #[lI p0, lI p1, lI p2, lI p3, lJ p4, lS, lI (p3 &&& (3 : Int32)), lI (p0 &&& (255 : Int32)), lI (p1 &&& (255 : Int32)), lU, lU, lU, lU, lU, lU, lU, lU, lU, lU, lU, lU] [(.int (p2 &&& (255 : Int32)))]))
  refine Go.st (fun _ => XS.istore X0.here hx rfl (hb hby at_27) rfl (l' := #[lI p0, lI p1, lI p2, lI p3, lJ p4, lS, lI (p3 &&& (3 : Int32)), lI (p0 &&& (255 : Int32)), lI (p1 &&& (255 : Int32)), lI (p2 &&& (255 : Int32)), lU, lU, lU, lU, lU, lU, lU, lU, lU, lU, lU]) rfl) ?_
  show Go _ _ _ _ (s₁.setTop (mkF m 29 #[lI p0, lI p1, lI p2, lI p3, lJ p4, lS, lI (p3 &&& (3 : Int32)), lI (p0 &&& (255 : Int32)), lI (p1 &&& (255 : Int32)), lI (p2 &&& (255 : Int32)), lU, lU, lU, lU, lU, lU, lU, lU, lU, lU, lU] []))
  obtain ⟨jl, he_jl⟩ : ∃ z : Int32, z = (p3 &&& (3 : Int32)) := ⟨_, rfl⟩
  rw [← he_jl]
  show Go _ _ _ _ (s₁.setTop (mkF m 29 #[lI p0, lI p1, lI p2, lI p3, lJ p4, lS, lI jl, lI (p0 &&& (255 : Int32)), lI (p1 &&& (255 : Int32)), lI (p2 &&& (255 : Int32)), lU, lU, lU, lU, lU, lU, lU, lU, lU, lU, lU] []))
  have J1 : ∀ (Tj1 : State) (hj1 : Heap) (Lj1 : List Loc) (vmj1 : Vm) (kj1 : Nat) (Xj1 : Stand p l e room_1 (s.setVm vmj1) m #[(.int p0), (.int p1), (.int p2), (.int p3), (.long p4)] below meth c Tj1 Lj1 6 12) (ej1 : Tj1.heap = hj1) (Kj1 : Keep h0 hj1 []) (Oj1 : Old Z n0 hj1) (Nj1 : Fr n0 Lj1) (hSj1 : s.Since vmj1 kj1) (hkj1 : kj1 ≤ hj1.size) (hZj1 : Z.Warmed39 (s.setVm vmj1).vm) (hownj1 : (s.setVm vmj1).vm.findClass "com/example/strikeboard/strikeboard/engine/ColumnToStringPinLaw" = some m.cls) (CRj1 : CHr Z consts_1 s.vm h0 vmj1 hj1) (js : Addr) (jcs : List Int32) (jv : Addr) (jk : ClassId) (hjE : Exa Z hj1 js "java/lang/String") (hjC : Fld Z hj1 js "java/lang/String" "coder" "B" (.int 0)) (hjV : Fld Z hj1 js "java/lang/String" "value" "[B" (.ref jv)) (hjA : Arv Z hj1 jv jk .byte (Int32.ofNat jcs.length) ((jcs.map StrChars.lo8).map Value.int) (.int 0)) (hpcj : ∀ c ∈ jcs, ¬ c < 0 ∧ ¬ (255 : Int32) < c) (hl3 : jcs.length ≤ 3) (hjl : jl = Int32.ofNat jcs.length) (hjx : (1 ≤ jcs.length → jcs.getD 0 0 = (p0 &&& (255 : Int32))) ∧ (2 ≤ jcs.length → jcs.getD 1 0 = (p1 &&& (255 : Int32))) ∧ (3 ≤ jcs.length → jcs.getD 2 0 = (p2 &&& (255 : Int32)))), Go p.tables e below P (Tj1.setTop (mkF m 123 #[lI p0, lI p1, lI p2, lI p3, lJ p4, lS, lI jl, lI (p0 &&& (255 : Int32)), lI (p1 &&& (255 : Int32)), lI (p2 &&& (255 : Int32)), lR js, lU, lU, lU, lU, lU, lU, lU, lU, lU, lU] [])) := by
    intro Tj1 hj1 Lj1 vmj1 kj1 Xj1 ej1 Kj1 Oj1 Nj1 hSj1 hkj1 hZj1 hownj1 CRj1 js jcs jv jk hjE hjC hjV hjA hpcj hl3 hjl hjx
    show Go _ _ _ _ (Tj1.setTop (mkF m 123 #[lI p0, lI p1, lI p2, lI p3, lJ p4, lS, lI jl, lI (p0 &&& (255 : Int32)), lI (p1 &&& (255 : Int32)), lI (p2 &&& (255 : Int32)), lR js, lU, lU, lU, lU, lU, lU, lU, lU, lU, lU] []))
    rw [hjl]
    show Go _ _ _ _ (Tj1.setTop (mkF m 123 #[lI p0, lI p1, lI p2, lI p3, lJ p4, lS, lI (Int32.ofNat jcs.length), lI (own_ch p0), lI (own_ch p1), lI (own_ch p2), lR js, lU, lU, lU, lU, lU, lU, lU, lU, lU, lU] []))
    obtain ⟨T2, h2, X2, e2, E2, A2, D2, -, st2⟩ := newO Xj1 hx hZj1 hownj1 (ow hw 26 rfl) (ow hw 27 rfl) (ow hw 28 rfl) ej1 (g := (mkF m 123 #[lI p0, lI p1, lI p2, lI p3, lJ p4, lS, lI (Int32.ofNat jcs.length), lI (own_ch p0), lI (own_ch p1), lI (own_ch p2), lR js, lU, lU, lU, lU, lU, lU, lU, lU, lU, lU] [])) rfl (hb hby at_123) (by decide) (by decide)
    obtain ⟨b2, g2⟩ : ∃ z, z = hj1.size := ⟨_, rfl⟩
    rw [← g2] at A2 D2 st2
    refine Go.st st2 ?_
    have g_b2 : n0 ≤ b2 := Nat.le_trans (own_oldsz Oj1) (Nat.le_of_eq g2.symm)
    have sz_b2 : h0.size ≤ b2 := Nat.le_trans Kj1.1 (Nat.le_of_eq g2.symm)
    have K2 : Keep h0 h2 [] := Kj1.ext E2
    have O2 := Oj1.ext E2
    have SF_b2 : Safe Z consts_1 vmj1 h2 b2 := Safe.ext E2 CRj1.1 (Safe.new (Nat.le_of_eq g2.symm))
    have CR2 := CRj1.trans (CHr.ext E2 CRj1.1)
    have F3 : Fld Z h2 b2 "com/example/strikeboard/strikeboard/engine/Explanation$Column" "offence" "Ljava/lang/String;" .null := D2 (Or.inr (ow hw 46 rfl)) (ty := (.object "java/lang/String")) (by decide)
    have F4 : Fld Z h2 b2 "com/example/strikeboard/strikeboard/engine/Explanation$Column" "column" "J" (.long (0 : Int64)) := D2 (Or.inr (ow hw 48 rfl)) (ty := .long) (by decide)
    show Go _ _ _ _ (T2.setTop (mkF m 126 #[lI p0, lI p1, lI p2, lI p3, lJ p4, lS, lI (Int32.ofNat jcs.length), lI (own_ch p0), lI (own_ch p1), lI (own_ch p2), lR js, lU, lU, lU, lU, lU, lU, lU, lU, lU, lU] [(.ref b2)]))
    refine Go.st (fun _ => XS.dup X2.here hx rfl (hb hby at_126) rfl rfl) ?_
    refine Go.st (fun _ => XS.aload X2.here hx rfl (hb hby at_127) rfl rfl) ?_
    refine Go.st (fun _ => XS.lload X2.here hx rfl (hb hby at_129) rfl) ?_
    show Go _ _ _ _ (T2.setTop (mkF m 131 #[lI p0, lI p1, lI p2, lI p3, lJ p4, lS, lI (Int32.ofNat jcs.length), lI (own_ch p0), lI (own_ch p1), lI (own_ch p2), lR js, lU, lU, lU, lU, lU, lU, lU, lU, lU, lU] [(.long p4), (.ref js), (.ref b2), (.ref b2)]))
    have c6 := (hjE.ext E2)
    have c7 := (hjA.ext E2)
    obtain ⟨_, _, ⟨T5, L5, k5, n5⟩, -, X5, hS5, hg5, ⟨Lc5, hQ5, l5, y5, z5, hCR5⟩, st5⟩ := X2.specialBackS hx (y := (⟨"com/example/strikeboard/strikeboard/engine/Explanation$Column", "<init>", "(Ljava/lang/String;J)V"⟩ : MethodName)) rfl hownj1 (mvT hZj1 (ow hw 29 rfl)) (mvT hZj1 (ow hw 30 rfl)) (mvT hZj1 (ow hw 31 rfl)) (by decide) (backOfSH (W := 1) (rm_cinit l Z a0 hw [] b2 js p4 h2 n0 O2 A2 F3 F4 g_b2) hZj1 (ow hw 31 rfl) (ow hw 28 rfl) (by decide) (by decide) hEL CR2.1) (g := (mkF m 131 #[lI p0, lI p1, lI p2, lI p3, lJ p4, lS, lI (Int32.ofNat jcs.length), lI (own_ch p0), lI (own_ch p1), lI (own_ch p2), lR js, lU, lU, lU, lU, lU, lU, lU, lU, lU, lU] [(.long p4), (.ref js), (.ref b2), (.ref b2)])) rfl (by rw [hml]; rfl) (Steps.refl _) (a := b2) (argsL := [(.ref js), (.long p4)]) (rest := [(.ref b2)]) (lenOf own_pd28 rfl) rfl (by show 2 * 0 + _ ≤ _; exact Nat.le_of_eq rfl) (hb hby at_131) (fun _ _ => ⟨rfl, e2, (by decide : 7 + 2 ≤ _), (by decide : 14 + 32 ≤ _)⟩)
    dsimp only [Pt.U, Pt.locs, Pt.cells, Pt.slots] at X5 l5 y5 z5 st5 hQ5 hS5 hg5 hCR5
    subst y5 z5
    refine Go.tr st5 ?_
    obtain ⟨XX5, hSS5, hZ5, hown5⟩ := rebS hSj1 (by rw [e2]; exact (Nat.le_trans hkj1 E2.1)) X5 hS5 hg5 hZj1 hownj1
    obtain ⟨rfl, N5q, K5q, q5_0, q5_1, q5_2⟩ := hQ5
    have N5 : Fr n0 L5 := by rw [l5]; exact Fr.app Nj1 N5q
    have sf8 := hCR5.safe A2.lt SF_b2
    have CR5 := CR2.trans hCR5
    have O5 := O2.keep K5q (allS g_b2 all0)
    have K5 : Keep h0 T5.heap [] := K2.trans K5q (allS (Or.inr sz_b2) all0)
    show Go _ _ _ _ (T5.setTop (mkF m 134 #[lI p0, lI p1, lI p2, lI p3, lJ p4, lS, lI (Int32.ofNat jcs.length), lI (own_ch p0), lI (own_ch p1), lI (own_ch p2), lR js, lU, lU, lU, lU, lU, lU, lU, lU, lU, lU] [(.ref b2)]))
    have c10 := (c6.keep K5q)
    have c11 := ((hjC.ext E2).keep K5q (ninS (Nat.ne_of_lt (Nat.lt_of_lt_of_le hjE.lt (Nat.le_of_eq g2.symm))) nin0))
    have c12 := ((hjV.ext E2).keep K5q (ninS (Nat.ne_of_lt (Nat.lt_of_lt_of_le hjE.lt (Nat.le_of_eq g2.symm))) nin0))
    have c13 := (c7.keep K5q (ninS (Nat.ne_of_lt (Nat.lt_of_lt_of_le hjA.lt (Nat.le_of_eq g2.symm))) nin0))
    obtain ⟨cq9, kq9, q9a, q9b, q9c⟩ := isOf hZ5 rfl q5_0
    obtain ⟨_, _, ⟨T9, L9, k9, n9⟩, -, X9, hS9, hg9, ⟨Lc9, hQ9, l9, y9, z9, hCR9⟩, st9⟩ := XX5.virtualBackS hx (y := (⟨"com/example/strikeboard/strikeboard/engine/Explanation$Column", "toString", "()Ljava/lang/String;"⟩ : MethodName)) (z := (⟨"com/example/strikeboard/strikeboard/engine/Explanation$Column", "toString", "()Ljava/lang/String;"⟩ : MethodName)) hown5 (mvT hZ5 (ow hw 49 rfl)) (mvT hZ5 (ow hw 50 rfl)) (notFace_of_selects (args := #[]) (mvT hZ5 (ow hw 52 rfl))) (mvT hZ5 (ow hw 52 rfl)) (mvT hZ5 (ow hw 51 rfl)) (by decide) (backOfSH (W := 0) (rm_ctos l Z a0 hw [] w_st w_d1 w_d2 D1c D2c T_1 T_2 O_1 O_2 lt_st lt_d1 lt_d2 g_CS S_CS nz_CS b2 js p4 jcs jv jk T5.heap n0 O5 q5_0 q5_1 q5_2 c10 c11 c12 c13 hpcj (Nat.le_trans hl3 (by decide)) hl3) hZ5 (ow hw 53 rfl) (ow hw 28 rfl) (by decide) (by decide) hEL CR5.1) q9a q9c (g := (mkF m 134 #[lI p0, lI p1, lI p2, lI p3, lJ p4, lS, lI (Int32.ofNat jcs.length), lI (own_ch p0), lI (own_ch p1), lI (own_ch p2), lR js, lU, lU, lU, lU, lU, lU, lU, lU, lU, lU] [(.ref b2)])) rfl (by rw [hml]; rfl) (Steps.refl _) (argsL := []) (rest := []) (lenOf own_pd26 rfl) rfl (by show 2 * 0 + _ ≤ _; exact Nat.le_of_eq rfl) (hb hby at_134) (fun _ _ => ⟨rfl, rfl, (by decide : 9 + 9 ≤ _), (by decide : 46 + 162 ≤ _)⟩)
    dsimp only [Pt.U, Pt.locs, Pt.cells, Pt.slots] at X9 l9 y9 z9 st9 hQ9 hS9 hg9 hCR9
    subst y9 z9
    refine Go.tr st9 ?_
    obtain ⟨XX9, hSS9, hZ9, hown9⟩ := rebS hSS5 (Nat.le_refl _) X9 hS9 hg9 hZ5 hown5
    obtain ⟨os_14, ob_15, kb_16, rfl, N9q, K9q, q9_0, q9_1, q9_2, q9_3, q9_4⟩ := hQ9
    have N9 : Fr n0 L9 := by rw [l9]; exact Fr.app N5 N9q
    have sf17 := hCR9.safe q5_0.lt sf8
    have CR9 := CR5.trans hCR9
    have O9 := O5.keep K9q all0
    have K9 : Keep h0 T9.heap [] := K5.trans K9q all0
    have sz_os_14 : h0.size ≤ os_14 := Nat.le_trans K5.1 q9_0
    have g_os_14 : n0 ≤ os_14 := Nat.le_trans (own_oldsz X00) sz_os_14
    show Go _ _ _ _ (T9.setTop (mkF m 137 #[lI p0, lI p1, lI p2, lI p3, lJ p4, lS, lI (Int32.ofNat jcs.length), lI (own_ch p0), lI (own_ch p1), lI (own_ch p2), lR js, lU, lU, lU, lU, lU, lU, lU, lU, lU, lU] [(.ref os_14)]))
    refine Go.st (fun _ => XS.astore XX9.here hx rfl (hb hby at_137) rfl rfl (l' := #[lI p0, lI p1, lI p2, lI p3, lJ p4, lS, lI (Int32.ofNat jcs.length), lI (own_ch p0), lI (own_ch p1), lI (own_ch p2), lR js, lR os_14, lU, lU, lU, lU, lU, lU, lU, lU, lU]) rfl) ?_
    show Go _ _ _ _ (T9.setTop (mkF m 139 #[lI p0, lI p1, lI p2, lI p3, lJ p4, lS, lI (Int32.ofNat jcs.length), lI (own_ch p0), lI (own_ch p1), lI (own_ch p2), lR js, lR os_14, lU, lU, lU, lU, lU, lU, lU, lU, lU] []))
    refine Go.st (fun _ => XS.aload XX9.here hx rfl (hb hby at_139) rfl rfl) ?_
    show Go _ _ _ _ (T9.setTop (mkF m 141 #[lI p0, lI p1, lI p2, lI p3, lJ p4, lS, lI (Int32.ofNat jcs.length), lI (own_ch p0), lI (own_ch p1), lI (own_ch p2), lR js, lR os_14, lU, lU, lU, lU, lU, lU, lU, lU, lU] [(.ref os_14)]))
    have hcd18 : StrChars.Road.CodA (own_RC jcs p4) 0 (Int32.ofNat (own_RC jcs p4).length) (((own_RC jcs p4).map StrChars.lo8).map Value.int) := StrChars.Road.codOf (n := (own_RC jcs p4).length) rfl (fun c hc => ((own_smallRC p4 hpcj) c hc).2)
    obtain ⟨cq18, kq18, q18a, q18b, q18c⟩ := isOf hZ9 rfl q9_1
    obtain ⟨_, _, ⟨T18, L18, k18, n18⟩, -, X18, ⟨Lc18, hQ18, l18, y18, z18⟩, st18⟩ := XX9.virtualBack hx (y := (⟨"java/lang/String", "length", "()I"⟩ : MethodName)) (z := (⟨"java/lang/String", "length", "()I"⟩ : MethodName)) hown9 (mvT hZ9 (ow hw 207 rfl)) (mvT hZ9 (ow hw 84 rfl)) (notFace_of_selects (args := #[]) (mvT hZ9 (ow hw 86 rfl))) (mvT hZ9 (ow hw 86 rfl)) (mvT hZ9 (ow hw 85 rfl)) (by decide) (StrChars.Road.lenW (W := 0) hZ9 (fun d hd => hw d (own_wLen d hd)) (kI := 4) (ow hw 10 rfl) q9_1 q9_3 q9_2 q9_4 hcd18 (own_up _ (own_smallRC p4 hpcj)) (S_CS.ext O9.2) nz_CS (own_leRC p4 hl3) (by decide) (by decide)) q18a q18c (g := (mkF m 141 #[lI p0, lI p1, lI p2, lI p3, lJ p4, lS, lI (Int32.ofNat jcs.length), lI (own_ch p0), lI (own_ch p1), lI (own_ch p2), lR js, lR os_14, lU, lU, lU, lU, lU, lU, lU, lU, lU] [(.ref os_14)])) rfl (by rw [hml]; rfl) (Steps.refl _) (argsL := []) (rest := []) (lenOf own_pd8 rfl) rfl (by show 2 * 0 + _ ≤ _; exact Nat.le_of_eq rfl) (hb hby at_141) (fun _ _ => ⟨rfl, rfl, (by decide : 18 + 0 ≤ _), (by decide : 208 + 0 ≤ _)⟩)
    dsimp only [Pt.U, Pt.locs, Pt.cells, Pt.slots] at X18 l18 y18 z18 st18 hQ18
    subst y18 z18
    refine Go.tr st18 ?_
    obtain ⟨rfl, rfl, e18⟩ := hQ18
    have N18 : Fr n0 L18 := by rw [l18]; exact Fr.app N9 (Fr.nil n0)
    show Go _ _ _ _ (T18.setTop (mkF m 144 #[lI p0, lI p1, lI p2, lI p3, lJ p4, lS, lI (Int32.ofNat jcs.length), lI (own_ch p0), lI (own_ch p1), lI (own_ch p2), lR js, lR os_14, lU, lU, lU, lU, lU, lU, lU, lU, lU] [(.int (Int32.ofNat (own_RC jcs p4).length))]))
    refine Go.st (fun _ => XS.istore X18.here hx rfl (hb hby at_144) rfl (l' := #[lI p0, lI p1, lI p2, lI p3, lJ p4, lS, lI (Int32.ofNat jcs.length), lI (own_ch p0), lI (own_ch p1), lI (own_ch p2), lR js, lR os_14, lI (Int32.ofNat (own_RC jcs p4).length), lU, lU, lU, lU, lU, lU, lU, lU]) rfl) ?_
    show Go _ _ _ _ (T18.setTop (mkF m 146 #[lI p0, lI p1, lI p2, lI p3, lJ p4, lS, lI (Int32.ofNat jcs.length), lI (own_ch p0), lI (own_ch p1), lI (own_ch p2), lR js, lR os_14, lI (Int32.ofNat (own_RC jcs p4).length), lU, lU, lU, lU, lU, lU, lU, lU] []))
    show Go _ _ _ _ (T18.setTop (mkF m 146 #[lI p0, lI p1, lI p2, lI p3, lJ p4, lS, lI (Int32.ofNat jcs.length), lI (own_ch p0), lI (own_ch p1), lI (own_ch p2), lR js, lR os_14, lI (own_e jcs p4), lU, lU, lU, lU, lU, lU, lU, lU] []))
    refine Go.st (fun _ => XS.bipush X18.here hx rfl (hb hby at_146)) ?_
    refine Go.st (fun _ => XS.iload X18.here hx rfl (hb hby at_148) rfl) ?_
    show Go _ _ _ _ (T18.setTop (mkF m 150 #[lI p0, lI p1, lI p2, lI p3, lJ p4, lS, lI (Int32.ofNat jcs.length), lI (own_ch p0), lI (own_ch p1), lI (own_ch p2), lR js, lR os_14, lI (own_e jcs p4), lU, lU, lU, lU, lU, lU, lU, lU] [(.int (Int32.ofNat jcs.length)), (.int 8)]))
    refine Go.st (fun _ => XS.iadd X18.here hx rfl (hb hby at_150) rfl) ?_
    show Go _ _ _ _ (T18.setTop (mkF m 151 #[lI p0, lI p1, lI p2, lI p3, lJ p4, lS, lI (Int32.ofNat jcs.length), lI (own_ch p0), lI (own_ch p1), lI (own_ch p2), lR js, lR os_14, lI (own_e jcs p4), lU, lU, lU, lU, lU, lU, lU, lU] [(.int ((8 : Int32) + (Int32.ofNat jcs.length)))]))
    rw [show ((8 : Int32) + (Int32.ofNat jcs.length)) = (own_p jcs) from own_addj (k := 8) jcs.length rfl]
    show Go _ _ _ _ (T18.setTop (mkF m 151 #[lI p0, lI p1, lI p2, lI p3, lJ p4, lS, lI (Int32.ofNat jcs.length), lI (own_ch p0), lI (own_ch p1), lI (own_ch p2), lR js, lR os_14, lI (own_e jcs p4), lU, lU, lU, lU, lU, lU, lU, lU] [(.int (own_p jcs))]))
    refine Go.st (fun _ => XS.istore X18.here hx rfl (hb hby at_151) rfl (l' := #[lI p0, lI p1, lI p2, lI p3, lJ p4, lS, lI (Int32.ofNat jcs.length), lI (own_ch p0), lI (own_ch p1), lI (own_ch p2), lR js, lR os_14, lI (own_e jcs p4), lI (own_p jcs), lU, lU, lU, lU, lU, lU, lU]) rfl) ?_
    show Go _ _ _ _ (T18.setTop (mkF m 153 #[lI p0, lI p1, lI p2, lI p3, lJ p4, lS, lI (Int32.ofNat jcs.length), lI (own_ch p0), lI (own_ch p1), lI (own_ch p2), lR js, lR os_14, lI (own_e jcs p4), lI (own_p jcs), lU, lU, lU, lU, lU, lU, lU] []))
    refine Go.st (fun _ => XS.iload X18.here hx rfl (hb hby at_153) rfl) ?_
    refine Go.st (fun _ => XS.iload X18.here hx rfl (hb hby at_155) rfl) ?_
    refine Go.st (fun _ => XS.iconst X18.here hx rfl (hb hby at_157)) ?_
    show Go _ _ _ _ (T18.setTop (mkF m 158 #[lI p0, lI p1, lI p2, lI p3, lJ p4, lS, lI (Int32.ofNat jcs.length), lI (own_ch p0), lI (own_ch p1), lI (own_ch p2), lR js, lR os_14, lI (own_e jcs p4), lI (own_p jcs), lU, lU, lU, lU, lU, lU, lU] [(.int 1), (.int (own_p jcs)), (.int (own_e jcs p4))]))
    refine Go.st (fun _ => XS.iadd X18.here hx rfl (hb hby at_158) rfl) ?_
    show Go _ _ _ _ (T18.setTop (mkF m 159 #[lI p0, lI p1, lI p2, lI p3, lJ p4, lS, lI (Int32.ofNat jcs.length), lI (own_ch p0), lI (own_ch p1), lI (own_ch p2), lR js, lR os_14, lI (own_e jcs p4), lI (own_p jcs), lU, lU, lU, lU, lU, lU, lU] [(.int ((own_p jcs) + (1 : Int32))), (.int (own_e jcs p4))]))
    have hb19 : ¬ ((own_e jcs p4) < ((own_p jcs) + (1 : Int32))) := own_l159 p4 hl3
    refine Go.st (fun _ => XS.icmpNo X18.here hx rfl (hb hby at_159) rfl (flt hb19).1) ?_
    show Go _ _ _ _ (T18.setTop (mkF m 162 #[lI p0, lI p1, lI p2, lI p3, lJ p4, lS, lI (Int32.ofNat jcs.length), lI (own_ch p0), lI (own_ch p1), lI (own_ch p2), lR js, lR os_14, lI (own_e jcs p4), lI (own_p jcs), lU, lU, lU, lU, lU, lU, lU] []))
    refine Go.st (fun _ => XS.iload X18.here hx rfl (hb hby at_162) rfl) ?_
    refine Go.st (fun _ => XS.iload X18.here hx rfl (hb hby at_164) rfl) ?_
    refine Go.st (fun _ => XS.bipush X18.here hx rfl (hb hby at_166)) ?_
    show Go _ _ _ _ (T18.setTop (mkF m 168 #[lI p0, lI p1, lI p2, lI p3, lJ p4, lS, lI (Int32.ofNat jcs.length), lI (own_ch p0), lI (own_ch p1), lI (own_ch p2), lR js, lR os_14, lI (own_e jcs p4), lI (own_p jcs), lU, lU, lU, lU, lU, lU, lU] [(.int 20), (.int (own_p jcs)), (.int (own_e jcs p4))]))
    refine Go.st (fun _ => XS.iadd X18.here hx rfl (hb hby at_168) rfl) ?_
    show Go _ _ _ _ (T18.setTop (mkF m 169 #[lI p0, lI p1, lI p2, lI p3, lJ p4, lS, lI (Int32.ofNat jcs.length), lI (own_ch p0), lI (own_ch p1), lI (own_ch p2), lR js, lR os_14, lI (own_e jcs p4), lI (own_p jcs), lU, lU, lU, lU, lU, lU, lU] [(.int ((own_p jcs) + (20 : Int32))), (.int (own_e jcs p4))]))
    have hb20 : ¬ (((own_p jcs) + (20 : Int32)) < (own_e jcs p4)) := own_l169 p4 hl3
    refine Go.st (fun _ => XS.icmpYes X18.here hx rfl (pc0 := 169) (pc' := 174) rfl (hb hby at_169) rfl (flt hb20).2.2.2 (by decide) (by decide)) ?_
    show Go _ _ _ _ (T18.setTop (mkF m 174 #[lI p0, lI p1, lI p2, lI p3, lJ p4, lS, lI (Int32.ofNat jcs.length), lI (own_ch p0), lI (own_ch p1), lI (own_ch p2), lR js, lR os_14, lI (own_e jcs p4), lI (own_p jcs), lU, lU, lU, lU, lU, lU, lU] []))
    refine Go.st (fun _ => XS.aload X18.here hx rfl (hb hby at_174) rfl rfl) ?_
    refine Go.st (fun _ => XS.iconst X18.here hx rfl (hb hby at_176)) ?_
    show Go _ _ _ _ (T18.setTop (mkF m 177 #[lI p0, lI p1, lI p2, lI p3, lJ p4, lS, lI (Int32.ofNat jcs.length), lI (own_ch p0), lI (own_ch p1), lI (own_ch p2), lR js, lR os_14, lI (own_e jcs p4), lI (own_p jcs), lU, lU, lU, lU, lU, lU, lU] [(.int 0), (.ref os_14)]))
    have hcd21 : StrChars.Road.CodA (own_RC jcs p4) 0 (Int32.ofNat (own_RC jcs p4).length) (((own_RC jcs p4).map StrChars.lo8).map Value.int) := StrChars.Road.codOf (n := (own_RC jcs p4).length) rfl (fun c hc => ((own_smallRC p4 hpcj) c hc).2)
    obtain ⟨cq21, kq21, q21a, q21b, q21c⟩ := isOf hZ9 e18 q9_1
    obtain ⟨_, _, ⟨T21, L21, k21, n21⟩, -, X21, ⟨Lc21, hQ21, l21, y21, z21⟩, st21⟩ := X18.virtualBack hx (y := (⟨"java/lang/String", "charAt", "(I)C"⟩ : MethodName)) (z := (⟨"java/lang/String", "charAt", "(I)C"⟩ : MethodName)) hown9 (mvT hZ9 (ow hw 208 rfl)) (mvT hZ9 (ow hw 209 rfl)) (notFace_of_selects (args := #[]) (mvT hZ9 (ow hw 211 rfl))) (mvT hZ9 (ow hw 211 rfl)) (mvT hZ9 (ow hw 210 rfl)) (by decide) (StrChars.Road.chN (W := 0) hZ9 (fun d hd => hw d (own_wCh d hd)) (kI := 4) (ow hw 10 rfl) q9_1 q9_3 q9_2 q9_4 hcd21 (own_up _ (own_smallRC p4 hpcj)) (S_CS.ext O9.2) nz_CS (S_SF.ext O9.2) r_SF (own_leRC p4 hl3) (i := 0) (by have := own_wpos p4; have := own_sg1 p4; rw [own_lenRC]; omega) (j := (0 : Int32)) rfl (by decide) (by decide)) q21a q21c (g := (mkF m 177 #[lI p0, lI p1, lI p2, lI p3, lJ p4, lS, lI (Int32.ofNat jcs.length), lI (own_ch p0), lI (own_ch p1), lI (own_ch p2), lR js, lR os_14, lI (own_e jcs p4), lI (own_p jcs), lU, lU, lU, lU, lU, lU, lU] [(.int 0), (.ref os_14)])) rfl (by rw [hml]; rfl) (Steps.refl _) (argsL := [(.int 0)]) (rest := []) (lenOf own_pd27 rfl) rfl (by show 2 * 0 + _ ≤ _; exact Nat.le_of_eq rfl) (hb hby at_177) (fun _ _ => ⟨rfl, e18, (by decide : 18 + 0 ≤ _), (by decide : 208 + 0 ≤ _)⟩)
    dsimp only [Pt.U, Pt.locs, Pt.cells, Pt.slots] at X21 l21 y21 z21 st21 hQ21
    subst y21 z21
    refine Go.tr st21 ?_
    obtain ⟨rfl, rfl, e21⟩ := hQ21
    have N21 : Fr n0 L21 := by rw [l21]; exact Fr.app N18 (Fr.nil n0)
    show Go _ _ _ _ (T21.setTop (mkF m 180 #[lI p0, lI p1, lI p2, lI p3, lJ p4, lS, lI (Int32.ofNat jcs.length), lI (own_ch p0), lI (own_ch p1), lI (own_ch p2), lR js, lR os_14, lI (own_e jcs p4), lI (own_p jcs), lU, lU, lU, lU, lU, lU, lU] [(.int ((own_RC jcs p4).getD 0 0))]))
    refine Go.st (fun _ => XS.bipush X21.here hx rfl (hb hby at_180)) ?_
    show Go _ _ _ _ (T21.setTop (mkF m 182 #[lI p0, lI p1, lI p2, lI p3, lJ p4, lS, lI (Int32.ofNat jcs.length), lI (own_ch p0), lI (own_ch p1), lI (own_ch p2), lR js, lR os_14, lI (own_e jcs p4), lI (own_p jcs), lU, lU, lU, lU, lU, lU, lU] [(.int 99), (.int ((own_RC jcs p4).getD 0 0))]))
    have hb22 : ((own_RC jcs p4).getD 0 0) = (99 : Int32) := rfl
    refine Go.st (fun _ => XS.icmpNo X21.here hx rfl (hb hby at_182) rfl (teq hb22).2) ?_
    show Go _ _ _ _ (T21.setTop (mkF m 185 #[lI p0, lI p1, lI p2, lI p3, lJ p4, lS, lI (Int32.ofNat jcs.length), lI (own_ch p0), lI (own_ch p1), lI (own_ch p2), lR js, lR os_14, lI (own_e jcs p4), lI (own_p jcs), lU, lU, lU, lU, lU, lU, lU] []))
    refine Go.st (fun _ => XS.aload X21.here hx rfl (hb hby at_185) rfl rfl) ?_
    refine Go.st (fun _ => XS.iconst X21.here hx rfl (hb hby at_187)) ?_
    show Go _ _ _ _ (T21.setTop (mkF m 188 #[lI p0, lI p1, lI p2, lI p3, lJ p4, lS, lI (Int32.ofNat jcs.length), lI (own_ch p0), lI (own_ch p1), lI (own_ch p2), lR js, lR os_14, lI (own_e jcs p4), lI (own_p jcs), lU, lU, lU, lU, lU, lU, lU] [(.int 1), (.ref os_14)]))
    have hcd23 : StrChars.Road.CodA (own_RC jcs p4) 0 (Int32.ofNat (own_RC jcs p4).length) (((own_RC jcs p4).map StrChars.lo8).map Value.int) := StrChars.Road.codOf (n := (own_RC jcs p4).length) rfl (fun c hc => ((own_smallRC p4 hpcj) c hc).2)
    obtain ⟨cq23, kq23, q23a, q23b, q23c⟩ := isOf hZ9 e21 q9_1
    obtain ⟨_, _, ⟨T23, L23, k23, n23⟩, -, X23, ⟨Lc23, hQ23, l23, y23, z23⟩, st23⟩ := X21.virtualBack hx (y := (⟨"java/lang/String", "charAt", "(I)C"⟩ : MethodName)) (z := (⟨"java/lang/String", "charAt", "(I)C"⟩ : MethodName)) hown9 (mvT hZ9 (ow hw 208 rfl)) (mvT hZ9 (ow hw 209 rfl)) (notFace_of_selects (args := #[]) (mvT hZ9 (ow hw 211 rfl))) (mvT hZ9 (ow hw 211 rfl)) (mvT hZ9 (ow hw 210 rfl)) (by decide) (StrChars.Road.chN (W := 0) hZ9 (fun d hd => hw d (own_wCh d hd)) (kI := 4) (ow hw 10 rfl) q9_1 q9_3 q9_2 q9_4 hcd23 (own_up _ (own_smallRC p4 hpcj)) (S_CS.ext O9.2) nz_CS (S_SF.ext O9.2) r_SF (own_leRC p4 hl3) (i := 1) (by have := own_wpos p4; have := own_sg1 p4; rw [own_lenRC]; omega) (j := (1 : Int32)) rfl (by decide) (by decide)) q23a q23c (g := (mkF m 188 #[lI p0, lI p1, lI p2, lI p3, lJ p4, lS, lI (Int32.ofNat jcs.length), lI (own_ch p0), lI (own_ch p1), lI (own_ch p2), lR js, lR os_14, lI (own_e jcs p4), lI (own_p jcs), lU, lU, lU, lU, lU, lU, lU] [(.int 1), (.ref os_14)])) rfl (by rw [hml]; rfl) (Steps.refl _) (argsL := [(.int 1)]) (rest := []) (lenOf own_pd27 rfl) rfl (by show 2 * 0 + _ ≤ _; exact Nat.le_of_eq rfl) (hb hby at_188) (fun _ _ => ⟨rfl, e21, (by decide : 18 + 0 ≤ _), (by decide : 208 + 0 ≤ _)⟩)
    dsimp only [Pt.U, Pt.locs, Pt.cells, Pt.slots] at X23 l23 y23 z23 st23 hQ23
    subst y23 z23
    refine Go.tr st23 ?_
    obtain ⟨rfl, rfl, e23⟩ := hQ23
    have N23 : Fr n0 L23 := by rw [l23]; exact Fr.app N21 (Fr.nil n0)
    show Go _ _ _ _ (T23.setTop (mkF m 191 #[lI p0, lI p1, lI p2, lI p3, lJ p4, lS, lI (Int32.ofNat jcs.length), lI (own_ch p0), lI (own_ch p1), lI (own_ch p2), lR js, lR os_14, lI (own_e jcs p4), lI (own_p jcs), lU, lU, lU, lU, lU, lU, lU] [(.int ((own_RC jcs p4).getD 1 0))]))
    refine Go.st (fun _ => XS.bipush X23.here hx rfl (hb hby at_191)) ?_
    show Go _ _ _ _ (T23.setTop (mkF m 193 #[lI p0, lI p1, lI p2, lI p3, lJ p4, lS, lI (Int32.ofNat jcs.length), lI (own_ch p0), lI (own_ch p1), lI (own_ch p2), lR js, lR os_14, lI (own_e jcs p4), lI (own_p jcs), lU, lU, lU, lU, lU, lU, lU] [(.int 111), (.int ((own_RC jcs p4).getD 1 0))]))
    have hb24 : ((own_RC jcs p4).getD 1 0) = (111 : Int32) := rfl
    refine Go.st (fun _ => XS.icmpNo X23.here hx rfl (hb hby at_193) rfl (teq hb24).2) ?_
    show Go _ _ _ _ (T23.setTop (mkF m 196 #[lI p0, lI p1, lI p2, lI p3, lJ p4, lS, lI (Int32.ofNat jcs.length), lI (own_ch p0), lI (own_ch p1), lI (own_ch p2), lR js, lR os_14, lI (own_e jcs p4), lI (own_p jcs), lU, lU, lU, lU, lU, lU, lU] []))
    refine Go.st (fun _ => XS.aload X23.here hx rfl (hb hby at_196) rfl rfl) ?_
    refine Go.st (fun _ => XS.iconst X23.here hx rfl (hb hby at_198)) ?_
    show Go _ _ _ _ (T23.setTop (mkF m 199 #[lI p0, lI p1, lI p2, lI p3, lJ p4, lS, lI (Int32.ofNat jcs.length), lI (own_ch p0), lI (own_ch p1), lI (own_ch p2), lR js, lR os_14, lI (own_e jcs p4), lI (own_p jcs), lU, lU, lU, lU, lU, lU, lU] [(.int 2), (.ref os_14)]))
    have hcd25 : StrChars.Road.CodA (own_RC jcs p4) 0 (Int32.ofNat (own_RC jcs p4).length) (((own_RC jcs p4).map StrChars.lo8).map Value.int) := StrChars.Road.codOf (n := (own_RC jcs p4).length) rfl (fun c hc => ((own_smallRC p4 hpcj) c hc).2)
    obtain ⟨cq25, kq25, q25a, q25b, q25c⟩ := isOf hZ9 e23 q9_1
    obtain ⟨_, _, ⟨T25, L25, k25, n25⟩, -, X25, ⟨Lc25, hQ25, l25, y25, z25⟩, st25⟩ := X23.virtualBack hx (y := (⟨"java/lang/String", "charAt", "(I)C"⟩ : MethodName)) (z := (⟨"java/lang/String", "charAt", "(I)C"⟩ : MethodName)) hown9 (mvT hZ9 (ow hw 208 rfl)) (mvT hZ9 (ow hw 209 rfl)) (notFace_of_selects (args := #[]) (mvT hZ9 (ow hw 211 rfl))) (mvT hZ9 (ow hw 211 rfl)) (mvT hZ9 (ow hw 210 rfl)) (by decide) (StrChars.Road.chN (W := 0) hZ9 (fun d hd => hw d (own_wCh d hd)) (kI := 4) (ow hw 10 rfl) q9_1 q9_3 q9_2 q9_4 hcd25 (own_up _ (own_smallRC p4 hpcj)) (S_CS.ext O9.2) nz_CS (S_SF.ext O9.2) r_SF (own_leRC p4 hl3) (i := 2) (by have := own_wpos p4; have := own_sg1 p4; rw [own_lenRC]; omega) (j := (2 : Int32)) rfl (by decide) (by decide)) q25a q25c (g := (mkF m 199 #[lI p0, lI p1, lI p2, lI p3, lJ p4, lS, lI (Int32.ofNat jcs.length), lI (own_ch p0), lI (own_ch p1), lI (own_ch p2), lR js, lR os_14, lI (own_e jcs p4), lI (own_p jcs), lU, lU, lU, lU, lU, lU, lU] [(.int 2), (.ref os_14)])) rfl (by rw [hml]; rfl) (Steps.refl _) (argsL := [(.int 2)]) (rest := []) (lenOf own_pd27 rfl) rfl (by show 2 * 0 + _ ≤ _; exact Nat.le_of_eq rfl) (hb hby at_199) (fun _ _ => ⟨rfl, e23, (by decide : 18 + 0 ≤ _), (by decide : 208 + 0 ≤ _)⟩)
    dsimp only [Pt.U, Pt.locs, Pt.cells, Pt.slots] at X25 l25 y25 z25 st25 hQ25
    subst y25 z25
    refine Go.tr st25 ?_
    obtain ⟨rfl, rfl, e25⟩ := hQ25
    have N25 : Fr n0 L25 := by rw [l25]; exact Fr.app N23 (Fr.nil n0)
    show Go _ _ _ _ (T25.setTop (mkF m 202 #[lI p0, lI p1, lI p2, lI p3, lJ p4, lS, lI (Int32.ofNat jcs.length), lI (own_ch p0), lI (own_ch p1), lI (own_ch p2), lR js, lR os_14, lI (own_e jcs p4), lI (own_p jcs), lU, lU, lU, lU, lU, lU, lU] [(.int ((own_RC jcs p4).getD 2 0))]))
    refine Go.st (fun _ => XS.bipush X25.here hx rfl (hb hby at_202)) ?_
    show Go _ _ _ _ (T25.setTop (mkF m 204 #[lI p0, lI p1, lI p2, lI p3, lJ p4, lS, lI (Int32.ofNat jcs.length), lI (own_ch p0), lI (own_ch p1), lI (own_ch p2), lR js, lR os_14, lI (own_e jcs p4), lI (own_p jcs), lU, lU, lU, lU, lU, lU, lU] [(.int 108), (.int ((own_RC jcs p4).getD 2 0))]))
    have hb26 : ((own_RC jcs p4).getD 2 0) = (108 : Int32) := rfl
    refine Go.st (fun _ => XS.icmpNo X25.here hx rfl (hb hby at_204) rfl (teq hb26).2) ?_
    show Go _ _ _ _ (T25.setTop (mkF m 207 #[lI p0, lI p1, lI p2, lI p3, lJ p4, lS, lI (Int32.ofNat jcs.length), lI (own_ch p0), lI (own_ch p1), lI (own_ch p2), lR js, lR os_14, lI (own_e jcs p4), lI (own_p jcs), lU, lU, lU, lU, lU, lU, lU] []))
    refine Go.st (fun _ => XS.aload X25.here hx rfl (hb hby at_207) rfl rfl) ?_
    refine Go.st (fun _ => XS.iconst X25.here hx rfl (hb hby at_209)) ?_
    show Go _ _ _ _ (T25.setTop (mkF m 210 #[lI p0, lI p1, lI p2, lI p3, lJ p4, lS, lI (Int32.ofNat jcs.length), lI (own_ch p0), lI (own_ch p1), lI (own_ch p2), lR js, lR os_14, lI (own_e jcs p4), lI (own_p jcs), lU, lU, lU, lU, lU, lU, lU] [(.int 3), (.ref os_14)]))
    have hcd27 : StrChars.Road.CodA (own_RC jcs p4) 0 (Int32.ofNat (own_RC jcs p4).length) (((own_RC jcs p4).map StrChars.lo8).map Value.int) := StrChars.Road.codOf (n := (own_RC jcs p4).length) rfl (fun c hc => ((own_smallRC p4 hpcj) c hc).2)
    obtain ⟨cq27, kq27, q27a, q27b, q27c⟩ := isOf hZ9 e25 q9_1
    obtain ⟨_, _, ⟨T27, L27, k27, n27⟩, -, X27, ⟨Lc27, hQ27, l27, y27, z27⟩, st27⟩ := X25.virtualBack hx (y := (⟨"java/lang/String", "charAt", "(I)C"⟩ : MethodName)) (z := (⟨"java/lang/String", "charAt", "(I)C"⟩ : MethodName)) hown9 (mvT hZ9 (ow hw 208 rfl)) (mvT hZ9 (ow hw 209 rfl)) (notFace_of_selects (args := #[]) (mvT hZ9 (ow hw 211 rfl))) (mvT hZ9 (ow hw 211 rfl)) (mvT hZ9 (ow hw 210 rfl)) (by decide) (StrChars.Road.chN (W := 0) hZ9 (fun d hd => hw d (own_wCh d hd)) (kI := 4) (ow hw 10 rfl) q9_1 q9_3 q9_2 q9_4 hcd27 (own_up _ (own_smallRC p4 hpcj)) (S_CS.ext O9.2) nz_CS (S_SF.ext O9.2) r_SF (own_leRC p4 hl3) (i := 3) (by have := own_wpos p4; have := own_sg1 p4; rw [own_lenRC]; omega) (j := (3 : Int32)) rfl (by decide) (by decide)) q27a q27c (g := (mkF m 210 #[lI p0, lI p1, lI p2, lI p3, lJ p4, lS, lI (Int32.ofNat jcs.length), lI (own_ch p0), lI (own_ch p1), lI (own_ch p2), lR js, lR os_14, lI (own_e jcs p4), lI (own_p jcs), lU, lU, lU, lU, lU, lU, lU] [(.int 3), (.ref os_14)])) rfl (by rw [hml]; rfl) (Steps.refl _) (argsL := [(.int 3)]) (rest := []) (lenOf own_pd27 rfl) rfl (by show 2 * 0 + _ ≤ _; exact Nat.le_of_eq rfl) (hb hby at_210) (fun _ _ => ⟨rfl, e25, (by decide : 18 + 0 ≤ _), (by decide : 208 + 0 ≤ _)⟩)
    dsimp only [Pt.U, Pt.locs, Pt.cells, Pt.slots] at X27 l27 y27 z27 st27 hQ27
    subst y27 z27
    refine Go.tr st27 ?_
    obtain ⟨rfl, rfl, e27⟩ := hQ27
    have N27 : Fr n0 L27 := by rw [l27]; exact Fr.app N25 (Fr.nil n0)
    show Go _ _ _ _ (T27.setTop (mkF m 213 #[lI p0, lI p1, lI p2, lI p3, lJ p4, lS, lI (Int32.ofNat jcs.length), lI (own_ch p0), lI (own_ch p1), lI (own_ch p2), lR js, lR os_14, lI (own_e jcs p4), lI (own_p jcs), lU, lU, lU, lU, lU, lU, lU] [(.int ((own_RC jcs p4).getD 3 0))]))
    refine Go.st (fun _ => XS.bipush X27.here hx rfl (hb hby at_213)) ?_
    show Go _ _ _ _ (T27.setTop (mkF m 215 #[lI p0, lI p1, lI p2, lI p3, lJ p4, lS, lI (Int32.ofNat jcs.length), lI (own_ch p0), lI (own_ch p1), lI (own_ch p2), lR js, lR os_14, lI (own_e jcs p4), lI (own_p jcs), lU, lU, lU, lU, lU, lU, lU] [(.int 117), (.int ((own_RC jcs p4).getD 3 0))]))
    have hb28 : ((own_RC jcs p4).getD 3 0) = (117 : Int32) := rfl
    refine Go.st (fun _ => XS.icmpNo X27.here hx rfl (hb hby at_215) rfl (teq hb28).2) ?_
    show Go _ _ _ _ (T27.setTop (mkF m 218 #[lI p0, lI p1, lI p2, lI p3, lJ p4, lS, lI (Int32.ofNat jcs.length), lI (own_ch p0), lI (own_ch p1), lI (own_ch p2), lR js, lR os_14, lI (own_e jcs p4), lI (own_p jcs), lU, lU, lU, lU, lU, lU, lU] []))
    refine Go.st (fun _ => XS.aload X27.here hx rfl (hb hby at_218) rfl rfl) ?_
    refine Go.st (fun _ => XS.iconst X27.here hx rfl (hb hby at_220)) ?_
    show Go _ _ _ _ (T27.setTop (mkF m 221 #[lI p0, lI p1, lI p2, lI p3, lJ p4, lS, lI (Int32.ofNat jcs.length), lI (own_ch p0), lI (own_ch p1), lI (own_ch p2), lR js, lR os_14, lI (own_e jcs p4), lI (own_p jcs), lU, lU, lU, lU, lU, lU, lU] [(.int 4), (.ref os_14)]))
    have hcd29 : StrChars.Road.CodA (own_RC jcs p4) 0 (Int32.ofNat (own_RC jcs p4).length) (((own_RC jcs p4).map StrChars.lo8).map Value.int) := StrChars.Road.codOf (n := (own_RC jcs p4).length) rfl (fun c hc => ((own_smallRC p4 hpcj) c hc).2)
    obtain ⟨cq29, kq29, q29a, q29b, q29c⟩ := isOf hZ9 e27 q9_1
    obtain ⟨_, _, ⟨T29, L29, k29, n29⟩, -, X29, ⟨Lc29, hQ29, l29, y29, z29⟩, st29⟩ := X27.virtualBack hx (y := (⟨"java/lang/String", "charAt", "(I)C"⟩ : MethodName)) (z := (⟨"java/lang/String", "charAt", "(I)C"⟩ : MethodName)) hown9 (mvT hZ9 (ow hw 208 rfl)) (mvT hZ9 (ow hw 209 rfl)) (notFace_of_selects (args := #[]) (mvT hZ9 (ow hw 211 rfl))) (mvT hZ9 (ow hw 211 rfl)) (mvT hZ9 (ow hw 210 rfl)) (by decide) (StrChars.Road.chN (W := 0) hZ9 (fun d hd => hw d (own_wCh d hd)) (kI := 4) (ow hw 10 rfl) q9_1 q9_3 q9_2 q9_4 hcd29 (own_up _ (own_smallRC p4 hpcj)) (S_CS.ext O9.2) nz_CS (S_SF.ext O9.2) r_SF (own_leRC p4 hl3) (i := 4) (by have := own_wpos p4; have := own_sg1 p4; rw [own_lenRC]; omega) (j := (4 : Int32)) rfl (by decide) (by decide)) q29a q29c (g := (mkF m 221 #[lI p0, lI p1, lI p2, lI p3, lJ p4, lS, lI (Int32.ofNat jcs.length), lI (own_ch p0), lI (own_ch p1), lI (own_ch p2), lR js, lR os_14, lI (own_e jcs p4), lI (own_p jcs), lU, lU, lU, lU, lU, lU, lU] [(.int 4), (.ref os_14)])) rfl (by rw [hml]; rfl) (Steps.refl _) (argsL := [(.int 4)]) (rest := []) (lenOf own_pd27 rfl) rfl (by show 2 * 0 + _ ≤ _; exact Nat.le_of_eq rfl) (hb hby at_221) (fun _ _ => ⟨rfl, e27, (by decide : 18 + 0 ≤ _), (by decide : 208 + 0 ≤ _)⟩)
    dsimp only [Pt.U, Pt.locs, Pt.cells, Pt.slots] at X29 l29 y29 z29 st29 hQ29
    subst y29 z29
    refine Go.tr st29 ?_
    obtain ⟨rfl, rfl, e29⟩ := hQ29
    have N29 : Fr n0 L29 := by rw [l29]; exact Fr.app N27 (Fr.nil n0)
    show Go _ _ _ _ (T29.setTop (mkF m 224 #[lI p0, lI p1, lI p2, lI p3, lJ p4, lS, lI (Int32.ofNat jcs.length), lI (own_ch p0), lI (own_ch p1), lI (own_ch p2), lR js, lR os_14, lI (own_e jcs p4), lI (own_p jcs), lU, lU, lU, lU, lU, lU, lU] [(.int ((own_RC jcs p4).getD 4 0))]))
    refine Go.st (fun _ => XS.bipush X29.here hx rfl (hb hby at_224)) ?_
    show Go _ _ _ _ (T29.setTop (mkF m 226 #[lI p0, lI p1, lI p2, lI p3, lJ p4, lS, lI (Int32.ofNat jcs.length), lI (own_ch p0), lI (own_ch p1), lI (own_ch p2), lR js, lR os_14, lI (own_e jcs p4), lI (own_p jcs), lU, lU, lU, lU, lU, lU, lU] [(.int 109), (.int ((own_RC jcs p4).getD 4 0))]))
    have hb30 : ((own_RC jcs p4).getD 4 0) = (109 : Int32) := rfl
    refine Go.st (fun _ => XS.icmpNo X29.here hx rfl (hb hby at_226) rfl (teq hb30).2) ?_
    show Go _ _ _ _ (T29.setTop (mkF m 229 #[lI p0, lI p1, lI p2, lI p3, lJ p4, lS, lI (Int32.ofNat jcs.length), lI (own_ch p0), lI (own_ch p1), lI (own_ch p2), lR js, lR os_14, lI (own_e jcs p4), lI (own_p jcs), lU, lU, lU, lU, lU, lU, lU] []))
    refine Go.st (fun _ => XS.aload X29.here hx rfl (hb hby at_229) rfl rfl) ?_
    refine Go.st (fun _ => XS.iconst X29.here hx rfl (hb hby at_231)) ?_
    show Go _ _ _ _ (T29.setTop (mkF m 232 #[lI p0, lI p1, lI p2, lI p3, lJ p4, lS, lI (Int32.ofNat jcs.length), lI (own_ch p0), lI (own_ch p1), lI (own_ch p2), lR js, lR os_14, lI (own_e jcs p4), lI (own_p jcs), lU, lU, lU, lU, lU, lU, lU] [(.int 5), (.ref os_14)]))
    have hcd31 : StrChars.Road.CodA (own_RC jcs p4) 0 (Int32.ofNat (own_RC jcs p4).length) (((own_RC jcs p4).map StrChars.lo8).map Value.int) := StrChars.Road.codOf (n := (own_RC jcs p4).length) rfl (fun c hc => ((own_smallRC p4 hpcj) c hc).2)
    obtain ⟨cq31, kq31, q31a, q31b, q31c⟩ := isOf hZ9 e29 q9_1
    obtain ⟨_, _, ⟨T31, L31, k31, n31⟩, -, X31, ⟨Lc31, hQ31, l31, y31, z31⟩, st31⟩ := X29.virtualBack hx (y := (⟨"java/lang/String", "charAt", "(I)C"⟩ : MethodName)) (z := (⟨"java/lang/String", "charAt", "(I)C"⟩ : MethodName)) hown9 (mvT hZ9 (ow hw 208 rfl)) (mvT hZ9 (ow hw 209 rfl)) (notFace_of_selects (args := #[]) (mvT hZ9 (ow hw 211 rfl))) (mvT hZ9 (ow hw 211 rfl)) (mvT hZ9 (ow hw 210 rfl)) (by decide) (StrChars.Road.chN (W := 0) hZ9 (fun d hd => hw d (own_wCh d hd)) (kI := 4) (ow hw 10 rfl) q9_1 q9_3 q9_2 q9_4 hcd31 (own_up _ (own_smallRC p4 hpcj)) (S_CS.ext O9.2) nz_CS (S_SF.ext O9.2) r_SF (own_leRC p4 hl3) (i := 5) (by have := own_wpos p4; have := own_sg1 p4; rw [own_lenRC]; omega) (j := (5 : Int32)) rfl (by decide) (by decide)) q31a q31c (g := (mkF m 232 #[lI p0, lI p1, lI p2, lI p3, lJ p4, lS, lI (Int32.ofNat jcs.length), lI (own_ch p0), lI (own_ch p1), lI (own_ch p2), lR js, lR os_14, lI (own_e jcs p4), lI (own_p jcs), lU, lU, lU, lU, lU, lU, lU] [(.int 5), (.ref os_14)])) rfl (by rw [hml]; rfl) (Steps.refl _) (argsL := [(.int 5)]) (rest := []) (lenOf own_pd27 rfl) rfl (by show 2 * 0 + _ ≤ _; exact Nat.le_of_eq rfl) (hb hby at_232) (fun _ _ => ⟨rfl, e29, (by decide : 18 + 0 ≤ _), (by decide : 208 + 0 ≤ _)⟩)
    dsimp only [Pt.U, Pt.locs, Pt.cells, Pt.slots] at X31 l31 y31 z31 st31 hQ31
    subst y31 z31
    refine Go.tr st31 ?_
    obtain ⟨rfl, rfl, e31⟩ := hQ31
    have N31 : Fr n0 L31 := by rw [l31]; exact Fr.app N29 (Fr.nil n0)
    show Go _ _ _ _ (T31.setTop (mkF m 235 #[lI p0, lI p1, lI p2, lI p3, lJ p4, lS, lI (Int32.ofNat jcs.length), lI (own_ch p0), lI (own_ch p1), lI (own_ch p2), lR js, lR os_14, lI (own_e jcs p4), lI (own_p jcs), lU, lU, lU, lU, lU, lU, lU] [(.int ((own_RC jcs p4).getD 5 0))]))
    refine Go.st (fun _ => XS.bipush X31.here hx rfl (hb hby at_235)) ?_
    show Go _ _ _ _ (T31.setTop (mkF m 237 #[lI p0, lI p1, lI p2, lI p3, lJ p4, lS, lI (Int32.ofNat jcs.length), lI (own_ch p0), lI (own_ch p1), lI (own_ch p2), lR js, lR os_14, lI (own_e jcs p4), lI (own_p jcs), lU, lU, lU, lU, lU, lU, lU] [(.int 110), (.int ((own_RC jcs p4).getD 5 0))]))
    have hb32 : ((own_RC jcs p4).getD 5 0) = (110 : Int32) := rfl
    refine Go.st (fun _ => XS.icmpNo X31.here hx rfl (hb hby at_237) rfl (teq hb32).2) ?_
    show Go _ _ _ _ (T31.setTop (mkF m 240 #[lI p0, lI p1, lI p2, lI p3, lJ p4, lS, lI (Int32.ofNat jcs.length), lI (own_ch p0), lI (own_ch p1), lI (own_ch p2), lR js, lR os_14, lI (own_e jcs p4), lI (own_p jcs), lU, lU, lU, lU, lU, lU, lU] []))
    refine Go.st (fun _ => XS.aload X31.here hx rfl (hb hby at_240) rfl rfl) ?_
    refine Go.st (fun _ => XS.bipush X31.here hx rfl (hb hby at_242)) ?_
    show Go _ _ _ _ (T31.setTop (mkF m 244 #[lI p0, lI p1, lI p2, lI p3, lJ p4, lS, lI (Int32.ofNat jcs.length), lI (own_ch p0), lI (own_ch p1), lI (own_ch p2), lR js, lR os_14, lI (own_e jcs p4), lI (own_p jcs), lU, lU, lU, lU, lU, lU, lU] [(.int 6), (.ref os_14)]))
    have hcd33 : StrChars.Road.CodA (own_RC jcs p4) 0 (Int32.ofNat (own_RC jcs p4).length) (((own_RC jcs p4).map StrChars.lo8).map Value.int) := StrChars.Road.codOf (n := (own_RC jcs p4).length) rfl (fun c hc => ((own_smallRC p4 hpcj) c hc).2)
    obtain ⟨cq33, kq33, q33a, q33b, q33c⟩ := isOf hZ9 e31 q9_1
    obtain ⟨_, _, ⟨T33, L33, k33, n33⟩, -, X33, ⟨Lc33, hQ33, l33, y33, z33⟩, st33⟩ := X31.virtualBack hx (y := (⟨"java/lang/String", "charAt", "(I)C"⟩ : MethodName)) (z := (⟨"java/lang/String", "charAt", "(I)C"⟩ : MethodName)) hown9 (mvT hZ9 (ow hw 208 rfl)) (mvT hZ9 (ow hw 209 rfl)) (notFace_of_selects (args := #[]) (mvT hZ9 (ow hw 211 rfl))) (mvT hZ9 (ow hw 211 rfl)) (mvT hZ9 (ow hw 210 rfl)) (by decide) (StrChars.Road.chN (W := 0) hZ9 (fun d hd => hw d (own_wCh d hd)) (kI := 4) (ow hw 10 rfl) q9_1 q9_3 q9_2 q9_4 hcd33 (own_up _ (own_smallRC p4 hpcj)) (S_CS.ext O9.2) nz_CS (S_SF.ext O9.2) r_SF (own_leRC p4 hl3) (i := 6) (by have := own_wpos p4; have := own_sg1 p4; rw [own_lenRC]; omega) (j := (6 : Int32)) rfl (by decide) (by decide)) q33a q33c (g := (mkF m 244 #[lI p0, lI p1, lI p2, lI p3, lJ p4, lS, lI (Int32.ofNat jcs.length), lI (own_ch p0), lI (own_ch p1), lI (own_ch p2), lR js, lR os_14, lI (own_e jcs p4), lI (own_p jcs), lU, lU, lU, lU, lU, lU, lU] [(.int 6), (.ref os_14)])) rfl (by rw [hml]; rfl) (Steps.refl _) (argsL := [(.int 6)]) (rest := []) (lenOf own_pd27 rfl) rfl (by show 2 * 0 + _ ≤ _; exact Nat.le_of_eq rfl) (hb hby at_244) (fun _ _ => ⟨rfl, e31, (by decide : 18 + 0 ≤ _), (by decide : 208 + 0 ≤ _)⟩)
    dsimp only [Pt.U, Pt.locs, Pt.cells, Pt.slots] at X33 l33 y33 z33 st33 hQ33
    subst y33 z33
    refine Go.tr st33 ?_
    obtain ⟨rfl, rfl, e33⟩ := hQ33
    have N33 : Fr n0 L33 := by rw [l33]; exact Fr.app N31 (Fr.nil n0)
    show Go _ _ _ _ (T33.setTop (mkF m 247 #[lI p0, lI p1, lI p2, lI p3, lJ p4, lS, lI (Int32.ofNat jcs.length), lI (own_ch p0), lI (own_ch p1), lI (own_ch p2), lR js, lR os_14, lI (own_e jcs p4), lI (own_p jcs), lU, lU, lU, lU, lU, lU, lU] [(.int ((own_RC jcs p4).getD 6 0))]))
    refine Go.st (fun _ => XS.bipush X33.here hx rfl (hb hby at_247)) ?_
    show Go _ _ _ _ (T33.setTop (mkF m 249 #[lI p0, lI p1, lI p2, lI p3, lJ p4, lS, lI (Int32.ofNat jcs.length), lI (own_ch p0), lI (own_ch p1), lI (own_ch p2), lR js, lR os_14, lI (own_e jcs p4), lI (own_p jcs), lU, lU, lU, lU, lU, lU, lU] [(.int 32), (.int ((own_RC jcs p4).getD 6 0))]))
    have hb34 : ((own_RC jcs p4).getD 6 0) = (32 : Int32) := rfl
    refine Go.st (fun _ => XS.icmpNo X33.here hx rfl (hb hby at_249) rfl (teq hb34).2) ?_
    show Go _ _ _ _ (T33.setTop (mkF m 252 #[lI p0, lI p1, lI p2, lI p3, lJ p4, lS, lI (Int32.ofNat jcs.length), lI (own_ch p0), lI (own_ch p1), lI (own_ch p2), lR js, lR os_14, lI (own_e jcs p4), lI (own_p jcs), lU, lU, lU, lU, lU, lU, lU] []))
    refine Go.st (fun _ => XS.iconst X33.here hx rfl (hb hby at_252)) ?_
    show Go _ _ _ _ (T33.setTop (mkF m 253 #[lI p0, lI p1, lI p2, lI p3, lJ p4, lS, lI (Int32.ofNat jcs.length), lI (own_ch p0), lI (own_ch p1), lI (own_ch p2), lR js, lR os_14, lI (own_e jcs p4), lI (own_p jcs), lU, lU, lU, lU, lU, lU, lU] [(.int 1)]))
    refine Go.st (fun _ => XS.goto X33.here hx rfl (pc0 := 253) (pc' := 257) rfl (hb hby at_253) (by decide) (by decide)) ?_
    show Go _ _ _ _ (T33.setTop (mkF m 257 #[lI p0, lI p1, lI p2, lI p3, lJ p4, lS, lI (Int32.ofNat jcs.length), lI (own_ch p0), lI (own_ch p1), lI (own_ch p2), lR js, lR os_14, lI (own_e jcs p4), lI (own_p jcs), lU, lU, lU, lU, lU, lU, lU] [(.int 1)]))
    refine Go.st (fun _ => XS.istore X33.here hx rfl (hb hby at_257) rfl (l' := #[lI p0, lI p1, lI p2, lI p3, lJ p4, lS, lI (Int32.ofNat jcs.length), lI (own_ch p0), lI (own_ch p1), lI (own_ch p2), lR js, lR os_14, lI (own_e jcs p4), lI (own_p jcs), lI (1 : Int32), lU, lU, lU, lU, lU, lU]) rfl) ?_
    show Go _ _ _ _ (T33.setTop (mkF m 259 #[lI p0, lI p1, lI p2, lI p3, lJ p4, lS, lI (Int32.ofNat jcs.length), lI (own_ch p0), lI (own_ch p1), lI (own_ch p2), lR js, lR os_14, lI (own_e jcs p4), lI (own_p jcs), lI (1 : Int32), lU, lU, lU, lU, lU, lU] []))
    refine Go.st (fun _ => XS.iload X33.here hx rfl (hb hby at_259) rfl) ?_
    show Go _ _ _ _ (T33.setTop (mkF m 261 #[lI p0, lI p1, lI p2, lI p3, lJ p4, lS, lI (Int32.ofNat jcs.length), lI (own_ch p0), lI (own_ch p1), lI (own_ch p2), lR js, lR os_14, lI (own_e jcs p4), lI (own_p jcs), lI (1 : Int32), lU, lU, lU, lU, lU, lU] [(.int 1)]))
    refine Go.st (fun _ => XS.ifNo X33.here hx rfl (hb hby at_261) rfl ((if0 _ _).trans (feq (by decide)).1)) ?_
    show Go _ _ _ _ (T33.setTop (mkF m 264 #[lI p0, lI p1, lI p2, lI p3, lJ p4, lS, lI (Int32.ofNat jcs.length), lI (own_ch p0), lI (own_ch p1), lI (own_ch p2), lR js, lR os_14, lI (own_e jcs p4), lI (own_p jcs), lI (1 : Int32), lU, lU, lU, lU, lU, lU] []))
    refine Go.st (fun _ => XS.iload X33.here hx rfl (hb hby at_264) rfl) ?_
    refine Go.st (fun _ => XS.iconst X33.here hx rfl (hb hby at_266)) ?_
    show Go _ _ _ _ (T33.setTop (mkF m 267 #[lI p0, lI p1, lI p2, lI p3, lJ p4, lS, lI (Int32.ofNat jcs.length), lI (own_ch p0), lI (own_ch p1), lI (own_ch p2), lR js, lR os_14, lI (own_e jcs p4), lI (own_p jcs), lI (1 : Int32), lU, lU, lU, lU, lU, lU] [(.int 1), (.int (Int32.ofNat jcs.length))]))
    have J35 : ∀ (Tj35 : State) (Lj35 : List Loc) (Xj35 : Stand p l e room_1 (s.setVm T9.vm) m #[(.int p0), (.int p1), (.int p2), (.int p3), (.long p4)] below meth c Tj35 Lj35 18 208) (ej35 : Tj35.heap = T9.heap) (Nj35 : Fr n0 Lj35), Go p.tables e below P (Tj35.setTop (mkF m 282 #[lI p0, lI p1, lI p2, lI p3, lJ p4, lS, lI (Int32.ofNat jcs.length), lI (own_ch p0), lI (own_ch p1), lI (own_ch p2), lR js, lR os_14, lI (own_e jcs p4), lI (own_p jcs), lI (1 : Int32), lU, lU, lU, lU, lU, lU] [])) := by
      intro Tj35 Lj35 Xj35 ej35 Nj35
      show Go _ _ _ _ (Tj35.setTop (mkF m 282 #[lI p0, lI p1, lI p2, lI p3, lJ p4, lS, lI (Int32.ofNat jcs.length), lI (own_ch p0), lI (own_ch p1), lI (own_ch p2), lR js, lR os_14, lI (own_e jcs p4), lI (own_p jcs), lI (1 : Int32), lU, lU, lU, lU, lU, lU] []))
      refine Go.st (fun _ => XS.iload Xj35.here hx rfl (hb hby at_282) rfl) ?_
      refine Go.st (fun _ => XS.iconst Xj35.here hx rfl (hb hby at_284)) ?_
      show Go _ _ _ _ (Tj35.setTop (mkF m 285 #[lI p0, lI p1, lI p2, lI p3, lJ p4, lS, lI (Int32.ofNat jcs.length), lI (own_ch p0), lI (own_ch p1), lI (own_ch p2), lR js, lR os_14, lI (own_e jcs p4), lI (own_p jcs), lI (1 : Int32), lU, lU, lU, lU, lU, lU] [(.int 2), (.int (Int32.ofNat jcs.length))]))
      have J36 : ∀ (Tj36 : State) (Lj36 : List Loc) (Xj36 : Stand p l e room_1 (s.setVm T9.vm) m #[(.int p0), (.int p1), (.int p2), (.int p3), (.long p4)] below meth c Tj36 Lj36 18 208) (ej36 : Tj36.heap = T9.heap) (Nj36 : Fr n0 Lj36), Go p.tables e below P (Tj36.setTop (mkF m 300 #[lI p0, lI p1, lI p2, lI p3, lJ p4, lS, lI (Int32.ofNat jcs.length), lI (own_ch p0), lI (own_ch p1), lI (own_ch p2), lR js, lR os_14, lI (own_e jcs p4), lI (own_p jcs), lI (1 : Int32), lU, lU, lU, lU, lU, lU] [])) := by
        intro Tj36 Lj36 Xj36 ej36 Nj36
        show Go _ _ _ _ (Tj36.setTop (mkF m 300 #[lI p0, lI p1, lI p2, lI p3, lJ p4, lS, lI (Int32.ofNat jcs.length), lI (own_ch p0), lI (own_ch p1), lI (own_ch p2), lR js, lR os_14, lI (own_e jcs p4), lI (own_p jcs), lI (1 : Int32), lU, lU, lU, lU, lU, lU] []))
        refine Go.st (fun _ => XS.iload Xj36.here hx rfl (hb hby at_300) rfl) ?_
        refine Go.st (fun _ => XS.iconst Xj36.here hx rfl (hb hby at_302)) ?_
        show Go _ _ _ _ (Tj36.setTop (mkF m 303 #[lI p0, lI p1, lI p2, lI p3, lJ p4, lS, lI (Int32.ofNat jcs.length), lI (own_ch p0), lI (own_ch p1), lI (own_ch p2), lR js, lR os_14, lI (own_e jcs p4), lI (own_p jcs), lI (1 : Int32), lU, lU, lU, lU, lU, lU] [(.int 3), (.int (Int32.ofNat jcs.length))]))
        have J37 : ∀ (Tj37 : State) (Lj37 : List Loc) (Xj37 : Stand p l e room_1 (s.setVm T9.vm) m #[(.int p0), (.int p1), (.int p2), (.int p3), (.long p4)] below meth c Tj37 Lj37 18 208) (ej37 : Tj37.heap = T9.heap) (Nj37 : Fr n0 Lj37), Go p.tables e below P (Tj37.setTop (mkF m 318 #[lI p0, lI p1, lI p2, lI p3, lJ p4, lS, lI (Int32.ofNat jcs.length), lI (own_ch p0), lI (own_ch p1), lI (own_ch p2), lR js, lR os_14, lI (own_e jcs p4), lI (own_p jcs), lI (1 : Int32), lU, lU, lU, lU, lU, lU] [])) := by
          intro Tj37 Lj37 Xj37 ej37 Nj37
          show Go _ _ _ _ (Tj37.setTop (mkF m 318 #[lI p0, lI p1, lI p2, lI p3, lJ p4, lS, lI (Int32.ofNat jcs.length), lI (own_ch p0), lI (own_ch p1), lI (own_ch p2), lR js, lR os_14, lI (own_e jcs p4), lI (own_p jcs), lI (1 : Int32), lU, lU, lU, lU, lU, lU] []))
          refine Go.st (fun _ => XS.aload Xj37.here hx rfl (hb hby at_318) rfl rfl) ?_
          refine Go.st (fun _ => XS.bipush Xj37.here hx rfl (hb hby at_320)) ?_
          refine Go.st (fun _ => XS.iload Xj37.here hx rfl (hb hby at_322) rfl) ?_
          show Go _ _ _ _ (Tj37.setTop (mkF m 324 #[lI p0, lI p1, lI p2, lI p3, lJ p4, lS, lI (Int32.ofNat jcs.length), lI (own_ch p0), lI (own_ch p1), lI (own_ch p2), lR js, lR os_14, lI (own_e jcs p4), lI (own_p jcs), lI (1 : Int32), lU, lU, lU, lU, lU, lU] [(.int (Int32.ofNat jcs.length)), (.int 7), (.ref os_14)]))
          refine Go.st (fun _ => XS.iadd Xj37.here hx rfl (hb hby at_324) rfl) ?_
          show Go _ _ _ _ (Tj37.setTop (mkF m 325 #[lI p0, lI p1, lI p2, lI p3, lJ p4, lS, lI (Int32.ofNat jcs.length), lI (own_ch p0), lI (own_ch p1), lI (own_ch p2), lR js, lR os_14, lI (own_e jcs p4), lI (own_p jcs), lI (1 : Int32), lU, lU, lU, lU, lU, lU] [(.int ((7 : Int32) + (Int32.ofNat jcs.length))), (.ref os_14)]))
          have hcd38 : StrChars.Road.CodA (own_RC jcs p4) 0 (Int32.ofNat (own_RC jcs p4).length) (((own_RC jcs p4).map StrChars.lo8).map Value.int) := StrChars.Road.codOf (n := (own_RC jcs p4).length) rfl (fun c hc => ((own_smallRC p4 hpcj) c hc).2)
          obtain ⟨cq38, kq38, q38a, q38b, q38c⟩ := isOf hZ9 ej37 q9_1
          obtain ⟨_, _, ⟨T38, L38, k38, n38⟩, -, X38, ⟨Lc38, hQ38, l38, y38, z38⟩, st38⟩ := Xj37.virtualBack hx (y := (⟨"java/lang/String", "charAt", "(I)C"⟩ : MethodName)) (z := (⟨"java/lang/String", "charAt", "(I)C"⟩ : MethodName)) hown9 (mvT hZ9 (ow hw 208 rfl)) (mvT hZ9 (ow hw 209 rfl)) (notFace_of_selects (args := #[]) (mvT hZ9 (ow hw 211 rfl))) (mvT hZ9 (ow hw 211 rfl)) (mvT hZ9 (ow hw 210 rfl)) (by decide) (StrChars.Road.chN (W := 0) hZ9 (fun d hd => hw d (own_wCh d hd)) (kI := 4) (ow hw 10 rfl) q9_1 q9_3 q9_2 q9_4 hcd38 (own_up _ (own_smallRC p4 hpcj)) (S_CS.ext O9.2) nz_CS (S_SF.ext O9.2) r_SF (own_leRC p4 hl3) (i := (7 + jcs.length)) (by have := own_wpos p4; have := own_sg1 p4; rw [own_lenRC]; omega) (j := ((7 : Int32) + (Int32.ofNat jcs.length))) (own_addj (k := 7) jcs.length rfl) (by decide) (by decide)) q38a q38c (g := (mkF m 325 #[lI p0, lI p1, lI p2, lI p3, lJ p4, lS, lI (Int32.ofNat jcs.length), lI (own_ch p0), lI (own_ch p1), lI (own_ch p2), lR js, lR os_14, lI (own_e jcs p4), lI (own_p jcs), lI (1 : Int32), lU, lU, lU, lU, lU, lU] [(.int ((7 : Int32) + (Int32.ofNat jcs.length))), (.ref os_14)])) rfl (by rw [hml]; rfl) (Steps.refl _) (argsL := [(.int ((7 : Int32) + (Int32.ofNat jcs.length)))]) (rest := []) (lenOf own_pd27 rfl) rfl (by show 2 * 0 + _ ≤ _; exact Nat.le_of_eq rfl) (hb hby at_325) (fun _ _ => ⟨rfl, ej37, (by decide : 18 + 0 ≤ _), (by decide : 208 + 0 ≤ _)⟩)
          dsimp only [Pt.U, Pt.locs, Pt.cells, Pt.slots] at X38 l38 y38 z38 st38 hQ38
          subst y38 z38
          refine Go.tr st38 ?_
          obtain ⟨rfl, rfl, e38⟩ := hQ38
          have N38 : Fr n0 L38 := by rw [l38]; exact Fr.app Nj37 (Fr.nil n0)
          show Go _ _ _ _ (T38.setTop (mkF m 328 #[lI p0, lI p1, lI p2, lI p3, lJ p4, lS, lI (Int32.ofNat jcs.length), lI (own_ch p0), lI (own_ch p1), lI (own_ch p2), lR js, lR os_14, lI (own_e jcs p4), lI (own_p jcs), lI (1 : Int32), lU, lU, lU, lU, lU, lU] [(.int ((own_RC jcs p4).getD (7 + jcs.length) 0))]))
          refine Go.st (fun _ => XS.bipush X38.here hx rfl (hb hby at_328)) ?_
          show Go _ _ _ _ (T38.setTop (mkF m 330 #[lI p0, lI p1, lI p2, lI p3, lJ p4, lS, lI (Int32.ofNat jcs.length), lI (own_ch p0), lI (own_ch p1), lI (own_ch p2), lR js, lR os_14, lI (own_e jcs p4), lI (own_p jcs), lI (1 : Int32), lU, lU, lU, lU, lU, lU] [(.int 32), (.int ((own_RC jcs p4).getD (7 + jcs.length) 0))]))
          have hb39 : ((own_RC jcs p4).getD (7 + jcs.length) 0) = (32 : Int32) := own_RCs jcs p4
          refine Go.st (fun _ => XS.icmpNo X38.here hx rfl (hb hby at_330) rfl (teq hb39).2) ?_
          show Go _ _ _ _ (T38.setTop (mkF m 333 #[lI p0, lI p1, lI p2, lI p3, lJ p4, lS, lI (Int32.ofNat jcs.length), lI (own_ch p0), lI (own_ch p1), lI (own_ch p2), lR js, lR os_14, lI (own_e jcs p4), lI (own_p jcs), lI (1 : Int32), lU, lU, lU, lU, lU, lU] []))
          refine Go.st (fun _ => XS.iconst X38.here hx rfl (hb hby at_333)) ?_
          show Go _ _ _ _ (T38.setTop (mkF m 334 #[lI p0, lI p1, lI p2, lI p3, lJ p4, lS, lI (Int32.ofNat jcs.length), lI (own_ch p0), lI (own_ch p1), lI (own_ch p2), lR js, lR os_14, lI (own_e jcs p4), lI (own_p jcs), lI (1 : Int32), lU, lU, lU, lU, lU, lU] [(.int 1)]))
          refine Go.st (fun _ => XS.goto X38.here hx rfl (pc0 := 334) (pc' := 338) rfl (hb hby at_334) (by decide) (by decide)) ?_
          show Go _ _ _ _ (T38.setTop (mkF m 338 #[lI p0, lI p1, lI p2, lI p3, lJ p4, lS, lI (Int32.ofNat jcs.length), lI (own_ch p0), lI (own_ch p1), lI (own_ch p2), lR js, lR os_14, lI (own_e jcs p4), lI (own_p jcs), lI (1 : Int32), lU, lU, lU, lU, lU, lU] [(.int 1)]))
          refine Go.st (fun _ => XS.istore X38.here hx rfl (hb hby at_338) rfl (l' := #[lI p0, lI p1, lI p2, lI p3, lJ p4, lS, lI (Int32.ofNat jcs.length), lI (own_ch p0), lI (own_ch p1), lI (own_ch p2), lR js, lR os_14, lI (own_e jcs p4), lI (own_p jcs), lI (1 : Int32), lU, lU, lU, lU, lU, lU]) rfl) ?_
          show Go _ _ _ _ (T38.setTop (mkF m 340 #[lI p0, lI p1, lI p2, lI p3, lJ p4, lS, lI (Int32.ofNat jcs.length), lI (own_ch p0), lI (own_ch p1), lI (own_ch p2), lR js, lR os_14, lI (own_e jcs p4), lI (own_p jcs), lI (1 : Int32), lU, lU, lU, lU, lU, lU] []))
          refine Go.st (fun _ => XS.aload X38.here hx rfl (hb hby at_340) rfl rfl) ?_
          refine Go.st (fun _ => XS.iload X38.here hx rfl (hb hby at_342) rfl) ?_
          show Go _ _ _ _ (T38.setTop (mkF m 344 #[lI p0, lI p1, lI p2, lI p3, lJ p4, lS, lI (Int32.ofNat jcs.length), lI (own_ch p0), lI (own_ch p1), lI (own_ch p2), lR js, lR os_14, lI (own_e jcs p4), lI (own_p jcs), lI (1 : Int32), lU, lU, lU, lU, lU, lU] [(.int (own_p jcs)), (.ref os_14)]))
          have hcd40 : StrChars.Road.CodA (own_RC jcs p4) 0 (Int32.ofNat (own_RC jcs p4).length) (((own_RC jcs p4).map StrChars.lo8).map Value.int) := StrChars.Road.codOf (n := (own_RC jcs p4).length) rfl (fun c hc => ((own_smallRC p4 hpcj) c hc).2)
          obtain ⟨cq40, kq40, q40a, q40b, q40c⟩ := isOf hZ9 e38 q9_1
          obtain ⟨_, _, ⟨T40, L40, k40, n40⟩, -, X40, ⟨Lc40, hQ40, l40, y40, z40⟩, st40⟩ := X38.virtualBack hx (y := (⟨"java/lang/String", "charAt", "(I)C"⟩ : MethodName)) (z := (⟨"java/lang/String", "charAt", "(I)C"⟩ : MethodName)) hown9 (mvT hZ9 (ow hw 208 rfl)) (mvT hZ9 (ow hw 209 rfl)) (notFace_of_selects (args := #[]) (mvT hZ9 (ow hw 211 rfl))) (mvT hZ9 (ow hw 211 rfl)) (mvT hZ9 (ow hw 210 rfl)) (by decide) (StrChars.Road.chN (W := 0) hZ9 (fun d hd => hw d (own_wCh d hd)) (kI := 4) (ow hw 10 rfl) q9_1 q9_3 q9_2 q9_4 hcd40 (own_up _ (own_smallRC p4 hpcj)) (S_CS.ext O9.2) nz_CS (S_SF.ext O9.2) r_SF (own_leRC p4 hl3) (i := (8 + jcs.length)) (by have := own_wpos p4; have := own_sg1 p4; rw [own_lenRC]; omega) (j := (own_p jcs)) rfl (by decide) (by decide)) q40a q40c (g := (mkF m 344 #[lI p0, lI p1, lI p2, lI p3, lJ p4, lS, lI (Int32.ofNat jcs.length), lI (own_ch p0), lI (own_ch p1), lI (own_ch p2), lR js, lR os_14, lI (own_e jcs p4), lI (own_p jcs), lI (1 : Int32), lU, lU, lU, lU, lU, lU] [(.int (own_p jcs)), (.ref os_14)])) rfl (by rw [hml]; rfl) (Steps.refl _) (argsL := [(.int (own_p jcs))]) (rest := []) (lenOf own_pd27 rfl) rfl (by show 2 * 0 + _ ≤ _; exact Nat.le_of_eq rfl) (hb hby at_344) (fun _ _ => ⟨rfl, e38, (by decide : 18 + 0 ≤ _), (by decide : 208 + 0 ≤ _)⟩)
          dsimp only [Pt.U, Pt.locs, Pt.cells, Pt.slots] at X40 l40 y40 z40 st40 hQ40
          subst y40 z40
          refine Go.tr st40 ?_
          obtain ⟨rfl, rfl, e40⟩ := hQ40
          have N40 : Fr n0 L40 := by rw [l40]; exact Fr.app N38 (Fr.nil n0)
          show Go _ _ _ _ (T40.setTop (mkF m 347 #[lI p0, lI p1, lI p2, lI p3, lJ p4, lS, lI (Int32.ofNat jcs.length), lI (own_ch p0), lI (own_ch p1), lI (own_ch p2), lR js, lR os_14, lI (own_e jcs p4), lI (own_p jcs), lI (1 : Int32), lU, lU, lU, lU, lU, lU] [(.int ((own_RC jcs p4).getD (8 + jcs.length) 0))]))
          have J41 : ∀ (Tj41 : State) (Lj41 : List Loc) (Xj41 : Stand p l e room_1 (s.setVm T9.vm) m #[(.int p0), (.int p1), (.int p2), (.int p3), (.long p4)] below meth c Tj41 Lj41 18 208) (ej41 : Tj41.heap = T9.heap) (Nj41 : Fr n0 Lj41) (jn : Int32) (jq : Int32) (hjn : (jn = (0 : Int32)) ↔ ¬ p4 < 0) (hjq : jq = Int32.ofNat (8 + jcs.length + (own_sg p4).length)), Go p.tables e below P (Tj41.setTop (mkF m 375 #[lI p0, lI p1, lI p2, lI p3, lJ p4, lS, lI (Int32.ofNat jcs.length), lI (own_ch p0), lI (own_ch p1), lI (own_ch p2), lR js, lR os_14, lI (own_e jcs p4), lI (own_p jcs), lI (1 : Int32), lI jn, lI jq, lU, lU, lU, lU] [])) := by
            intro Tj41 Lj41 Xj41 ej41 Nj41 jn jq hjn hjq
            show Go _ _ _ _ (Tj41.setTop (mkF m 375 #[lI p0, lI p1, lI p2, lI p3, lJ p4, lS, lI (Int32.ofNat jcs.length), lI (own_ch p0), lI (own_ch p1), lI (own_ch p2), lR js, lR os_14, lI (own_e jcs p4), lI (own_p jcs), lI (1 : Int32), lI jn, lI jq, lU, lU, lU, lU] []))
            rw [hjq]
            show Go _ _ _ _ (Tj41.setTop (mkF m 375 #[lI p0, lI p1, lI p2, lI p3, lJ p4, lS, lI (Int32.ofNat jcs.length), lI (own_ch p0), lI (own_ch p1), lI (own_ch p2), lR js, lR os_14, lI (own_e jcs p4), lI (own_p jcs), lI (1 : Int32), lI jn, lI (own_q jcs p4), lU, lU, lU, lU] []))
            refine Go.st (fun _ => XS.iload Xj41.here hx rfl (hb hby at_375) rfl) ?_
            refine Go.st (fun _ => XS.iload Xj41.here hx rfl (hb hby at_377) rfl) ?_
            show Go _ _ _ _ (Tj41.setTop (mkF m 379 #[lI p0, lI p1, lI p2, lI p3, lJ p4, lS, lI (Int32.ofNat jcs.length), lI (own_ch p0), lI (own_ch p1), lI (own_ch p2), lR js, lR os_14, lI (own_e jcs p4), lI (own_p jcs), lI (1 : Int32), lI jn, lI (own_q jcs p4), lU, lU, lU, lU] [(.int (own_q jcs p4)), (.int (own_e jcs p4))]))
            refine Go.st (fun _ => XS.isub Xj41.here hx rfl (hb hby at_379) rfl) ?_
            show Go _ _ _ _ (Tj41.setTop (mkF m 380 #[lI p0, lI p1, lI p2, lI p3, lJ p4, lS, lI (Int32.ofNat jcs.length), lI (own_ch p0), lI (own_ch p1), lI (own_ch p2), lR js, lR os_14, lI (own_e jcs p4), lI (own_p jcs), lI (1 : Int32), lI jn, lI (own_q jcs p4), lU, lU, lU, lU] [(.int ((own_e jcs p4) - (own_q jcs p4)))]))
            rw [show ((own_e jcs p4) - (own_q jcs p4)) = (own_m p4) from own_subm p4 hl3]
            show Go _ _ _ _ (Tj41.setTop (mkF m 380 #[lI p0, lI p1, lI p2, lI p3, lJ p4, lS, lI (Int32.ofNat jcs.length), lI (own_ch p0), lI (own_ch p1), lI (own_ch p2), lR js, lR os_14, lI (own_e jcs p4), lI (own_p jcs), lI (1 : Int32), lI jn, lI (own_q jcs p4), lU, lU, lU, lU] [(.int (own_m p4))]))
            refine Go.st (fun _ => XS.istore Xj41.here hx rfl (hb hby at_380) rfl (l' := #[lI p0, lI p1, lI p2, lI p3, lJ p4, lS, lI (Int32.ofNat jcs.length), lI (own_ch p0), lI (own_ch p1), lI (own_ch p2), lR js, lR os_14, lI (own_e jcs p4), lI (own_p jcs), lI (1 : Int32), lI jn, lI (own_q jcs p4), lI (own_m p4), lU, lU, lU]) rfl) ?_
            show Go _ _ _ _ (Tj41.setTop (mkF m 382 #[lI p0, lI p1, lI p2, lI p3, lJ p4, lS, lI (Int32.ofNat jcs.length), lI (own_ch p0), lI (own_ch p1), lI (own_ch p2), lR js, lR os_14, lI (own_e jcs p4), lI (own_p jcs), lI (1 : Int32), lI jn, lI (own_q jcs p4), lI (own_m p4), lU, lU, lU] []))
            refine Go.st (fun _ => XS.iload Xj41.here hx rfl (hb hby at_382) rfl) ?_
            refine Go.st (fun _ => XS.iconst Xj41.here hx rfl (hb hby at_384)) ?_
            show Go _ _ _ _ (Tj41.setTop (mkF m 385 #[lI p0, lI p1, lI p2, lI p3, lJ p4, lS, lI (Int32.ofNat jcs.length), lI (own_ch p0), lI (own_ch p1), lI (own_ch p2), lR js, lR os_14, lI (own_e jcs p4), lI (own_p jcs), lI (1 : Int32), lI jn, lI (own_q jcs p4), lI (own_m p4), lU, lU, lU] [(.int 1), (.int (own_m p4))]))
            have hb42 : ¬ ((own_m p4) < (1 : Int32)) := own_l385 p4
            refine Go.st (fun _ => XS.icmpNo Xj41.here hx rfl (hb hby at_385) rfl (flt hb42).1) ?_
            show Go _ _ _ _ (Tj41.setTop (mkF m 388 #[lI p0, lI p1, lI p2, lI p3, lJ p4, lS, lI (Int32.ofNat jcs.length), lI (own_ch p0), lI (own_ch p1), lI (own_ch p2), lR js, lR os_14, lI (own_e jcs p4), lI (own_p jcs), lI (1 : Int32), lI jn, lI (own_q jcs p4), lI (own_m p4), lU, lU, lU] []))
            refine Go.st (fun _ => XS.iload Xj41.here hx rfl (hb hby at_388) rfl) ?_
            refine Go.st (fun _ => XS.bipush Xj41.here hx rfl (hb hby at_390)) ?_
            show Go _ _ _ _ (Tj41.setTop (mkF m 392 #[lI p0, lI p1, lI p2, lI p3, lJ p4, lS, lI (Int32.ofNat jcs.length), lI (own_ch p0), lI (own_ch p1), lI (own_ch p2), lR js, lR os_14, lI (own_e jcs p4), lI (own_p jcs), lI (1 : Int32), lI jn, lI (own_q jcs p4), lI (own_m p4), lU, lU, lU] [(.int 19), (.int (own_m p4))]))
            have hb43 : ¬ ((19 : Int32) < (own_m p4)) := own_l392 p4
            refine Go.st (fun _ => XS.icmpYes Xj41.here hx rfl (pc0 := 392) (pc' := 397) rfl (hb hby at_392) rfl (flt hb43).2.2.2 (by decide) (by decide)) ?_
            show Go _ _ _ _ (Tj41.setTop (mkF m 397 #[lI p0, lI p1, lI p2, lI p3, lJ p4, lS, lI (Int32.ofNat jcs.length), lI (own_ch p0), lI (own_ch p1), lI (own_ch p2), lR js, lR os_14, lI (own_e jcs p4), lI (own_p jcs), lI (1 : Int32), lI jn, lI (own_q jcs p4), lI (own_m p4), lU, lU, lU] []))
            refine Go.st (fun _ => XS.iload Xj41.here hx rfl (hb hby at_397) rfl) ?_
            refine Go.st (fun _ => XS.iconst Xj41.here hx rfl (hb hby at_399)) ?_
            show Go _ _ _ _ (Tj41.setTop (mkF m 400 #[lI p0, lI p1, lI p2, lI p3, lJ p4, lS, lI (Int32.ofNat jcs.length), lI (own_ch p0), lI (own_ch p1), lI (own_ch p2), lR js, lR os_14, lI (own_e jcs p4), lI (own_p jcs), lI (1 : Int32), lI jn, lI (own_q jcs p4), lI (own_m p4), lU, lU, lU] [(.int 1), (.int (own_m p4))]))
            have J44 : ∀ (Tj44 : State) (Lj44 : List Loc) (Xj44 : Stand p l e room_1 (s.setVm T9.vm) m #[(.int p0), (.int p1), (.int p2), (.int p3), (.long p4)] below meth c Tj44 Lj44 18 208) (ej44 : Tj44.heap = T9.heap) (Nj44 : Fr n0 Lj44), Go p.tables e below P (Tj44.setTop (mkF m 417 #[lI p0, lI p1, lI p2, lI p3, lJ p4, lS, lI (Int32.ofNat jcs.length), lI (own_ch p0), lI (own_ch p1), lI (own_ch p2), lR js, lR os_14, lI (own_e jcs p4), lI (own_p jcs), lI (1 : Int32), lI jn, lI (own_q jcs p4), lI (own_m p4), lU, lU, lU] [])) := by
              intro Tj44 Lj44 Xj44 ej44 Nj44
              show Go _ _ _ _ (Tj44.setTop (mkF m 417 #[lI p0, lI p1, lI p2, lI p3, lJ p4, lS, lI (Int32.ofNat jcs.length), lI (own_ch p0), lI (own_ch p1), lI (own_ch p2), lR js, lR os_14, lI (own_e jcs p4), lI (own_p jcs), lI (1 : Int32), lI jn, lI (own_q jcs p4), lI (own_m p4), lU, lU, lU] []))
              refine Go.st (fun _ => XS.lconst Xj44.here hx rfl (hb hby at_417)) ?_
              show Go _ _ _ _ (Tj44.setTop (mkF m 418 #[lI p0, lI p1, lI p2, lI p3, lJ p4, lS, lI (Int32.ofNat jcs.length), lI (own_ch p0), lI (own_ch p1), lI (own_ch p2), lR js, lR os_14, lI (own_e jcs p4), lI (own_p jcs), lI (1 : Int32), lI jn, lI (own_q jcs p4), lI (own_m p4), lU, lU, lU] [(.long (0 : Int64))]))
              refine Go.st (fun _ => XS.lstore Xj44.here hx rfl (hb hby at_418) rfl (l' := #[lI p0, lI p1, lI p2, lI p3, lJ p4, lS, lI (Int32.ofNat jcs.length), lI (own_ch p0), lI (own_ch p1), lI (own_ch p2), lR js, lR os_14, lI (own_e jcs p4), lI (own_p jcs), lI (1 : Int32), lI jn, lI (own_q jcs p4), lI (own_m p4), lJ (0 : Int64), lS, lU]) rfl) ?_
              show Go _ _ _ _ (Tj44.setTop (mkF m 420 #[lI p0, lI p1, lI p2, lI p3, lJ p4, lS, lI (Int32.ofNat jcs.length), lI (own_ch p0), lI (own_ch p1), lI (own_ch p2), lR js, lR os_14, lI (own_e jcs p4), lI (own_p jcs), lI (1 : Int32), lI jn, lI (own_q jcs p4), lI (own_m p4), lJ (0 : Int64), lS, lU] []))
              refine Go.st (fun _ => XS.lload Xj44.here hx rfl (hb hby at_420) rfl) ?_
              refine Go.st (fun _ => XS.aload Xj44.here hx rfl (hb hby at_422) rfl rfl) ?_
              refine Go.st (fun _ => XS.iload Xj44.here hx rfl (hb hby at_424) rfl) ?_
              refine Go.st (fun _ => XS.iload Xj44.here hx rfl (hb hby at_426) rfl) ?_
              show Go _ _ _ _ (Tj44.setTop (mkF m 428 #[lI p0, lI p1, lI p2, lI p3, lJ p4, lS, lI (Int32.ofNat jcs.length), lI (own_ch p0), lI (own_ch p1), lI (own_ch p2), lR js, lR os_14, lI (own_e jcs p4), lI (own_p jcs), lI (1 : Int32), lI jn, lI (own_q jcs p4), lI (own_m p4), lJ (0 : Int64), lS, lU] [(.int (own_e jcs p4)), (.int (own_q jcs p4)), (.ref os_14), (.long (0 : Int64))]))
              obtain ⟨_, _, ⟨T45, L45, k45, n45⟩, -, X45, ⟨Lc45, hQ45, l45, y45, z45⟩, st45⟩ := Jvm.LawKit.callS Xj44 hx (y := (⟨"com/example/strikeboard/strikeboard/engine/ColumnToStringPinLaw", "step", "(JLjava/lang/String;II)J"⟩ : MethodName)) hown9 (mvT hZ9 (ow hw 229 rfl)) (mvT hZ9 (ow hw 230 rfl)) (mvT hZ9 (ow hw 231 rfl)) (mvT hZ9 (ow hw 232 rfl)) (by decide) (backOf (W := 0) (rm_step l Z a0 hw [] g_CS S_CS nz_CS g_SF S_SF r_SF (0 : Int64) os_14 (own_q jcs p4) (own_e jcs p4) (own_RC jcs p4) ob_15 kb_16 p4 (8 + jcs.length + (own_sg p4).length) 0 T9.heap n0 O9 q9_1 q9_2 q9_3 q9_4 (own_smallRC p4 hpcj) (own_leRC p4 hl3) (own_v0 _) rfl (own_eRC jcs p4) (own_b4000 p4 hl3 (by decide)) (own_getRC jcs p4)) hZ9 (ow hw 232 rfl) (ow hw 231 rfl) (by decide) (by decide)) (g := (mkF m 428 #[lI p0, lI p1, lI p2, lI p3, lJ p4, lS, lI (Int32.ofNat jcs.length), lI (own_ch p0), lI (own_ch p1), lI (own_ch p2), lR js, lR os_14, lI (own_e jcs p4), lI (own_p jcs), lI (1 : Int32), lI jn, lI (own_q jcs p4), lI (own_m p4), lJ (0 : Int64), lS, lU] [(.int (own_e jcs p4)), (.int (own_q jcs p4)), (.ref os_14), (.long (0 : Int64))])) rfl (by rw [hml]; rfl) (argsL := [(.long (0 : Int64)), (.ref os_14), (.int (own_q jcs p4)), (.int (own_e jcs p4))]) (rest := []) (lenOf own_pd29 rfl) rfl (by show 2 * 0 + _ ≤ _; exact Nat.le_of_eq rfl) (hb hby at_428) (fun _ _ => ⟨rfl, ej44, (by decide : 18 + 0 ≤ _), (by decide : 208 + 0 ≤ _)⟩)
              dsimp only [Pt.U, Pt.locs, Pt.cells, Pt.slots] at X45 l45 y45 z45 st45 hQ45
              subst y45 z45
              refine Go.st st45 ?_
              obtain ⟨rfl, N45q, e45⟩ := hQ45
              have N45 : Fr n0 L45 := by rw [l45]; exact Fr.app Nj44 N45q
              show Go _ _ _ _ (T45.setTop (mkF m 431 #[lI p0, lI p1, lI p2, lI p3, lJ p4, lS, lI (Int32.ofNat jcs.length), lI (own_ch p0), lI (own_ch p1), lI (own_ch p2), lR js, lR os_14, lI (own_e jcs p4), lI (own_p jcs), lI (1 : Int32), lI jn, lI (own_q jcs p4), lI (own_m p4), lJ (0 : Int64), lS, lU] [(.long (own_t (0 + 1) p4))]))
              refine Go.st (fun _ => XS.lstore X45.here hx rfl (hb hby at_431) rfl (l' := #[lI p0, lI p1, lI p2, lI p3, lJ p4, lS, lI (Int32.ofNat jcs.length), lI (own_ch p0), lI (own_ch p1), lI (own_ch p2), lR js, lR os_14, lI (own_e jcs p4), lI (own_p jcs), lI (1 : Int32), lI jn, lI (own_q jcs p4), lI (own_m p4), lJ (own_t (0 + 1) p4), lS, lU]) rfl) ?_
              show Go _ _ _ _ (T45.setTop (mkF m 433 #[lI p0, lI p1, lI p2, lI p3, lJ p4, lS, lI (Int32.ofNat jcs.length), lI (own_ch p0), lI (own_ch p1), lI (own_ch p2), lR js, lR os_14, lI (own_e jcs p4), lI (own_p jcs), lI (1 : Int32), lI jn, lI (own_q jcs p4), lI (own_m p4), lJ (own_t (0 + 1) p4), lS, lU] []))
              refine Go.st (fun _ => XS.lload X45.here hx rfl (hb hby at_433) rfl) ?_
              refine Go.st (fun _ => XS.aload X45.here hx rfl (hb hby at_435) rfl rfl) ?_
              refine Go.st (fun _ => XS.iload X45.here hx rfl (hb hby at_437) rfl) ?_
              refine Go.st (fun _ => XS.iconst X45.here hx rfl (hb hby at_439)) ?_
              show Go _ _ _ _ (T45.setTop (mkF m 440 #[lI p0, lI p1, lI p2, lI p3, lJ p4, lS, lI (Int32.ofNat jcs.length), lI (own_ch p0), lI (own_ch p1), lI (own_ch p2), lR js, lR os_14, lI (own_e jcs p4), lI (own_p jcs), lI (1 : Int32), lI jn, lI (own_q jcs p4), lI (own_m p4), lJ (own_t (0 + 1) p4), lS, lU] [(.int 1), (.int (own_q jcs p4)), (.ref os_14), (.long (own_t (0 + 1) p4))]))
              refine Go.st (fun _ => XS.iadd X45.here hx rfl (hb hby at_440) rfl) ?_
              show Go _ _ _ _ (T45.setTop (mkF m 441 #[lI p0, lI p1, lI p2, lI p3, lJ p4, lS, lI (Int32.ofNat jcs.length), lI (own_ch p0), lI (own_ch p1), lI (own_ch p2), lR js, lR os_14, lI (own_e jcs p4), lI (own_p jcs), lI (1 : Int32), lI jn, lI (own_q jcs p4), lI (own_m p4), lJ (own_t (0 + 1) p4), lS, lU] [(.int ((own_q jcs p4) + (1 : Int32))), (.ref os_14), (.long (own_t (0 + 1) p4))]))
              refine Go.st (fun _ => XS.iload X45.here hx rfl (hb hby at_441) rfl) ?_
              show Go _ _ _ _ (T45.setTop (mkF m 443 #[lI p0, lI p1, lI p2, lI p3, lJ p4, lS, lI (Int32.ofNat jcs.length), lI (own_ch p0), lI (own_ch p1), lI (own_ch p2), lR js, lR os_14, lI (own_e jcs p4), lI (own_p jcs), lI (1 : Int32), lI jn, lI (own_q jcs p4), lI (own_m p4), lJ (own_t (0 + 1) p4), lS, lU] [(.int (own_e jcs p4)), (.int ((own_q jcs p4) + (1 : Int32))), (.ref os_14), (.long (own_t (0 + 1) p4))]))
              obtain ⟨_, _, ⟨T46, L46, k46, n46⟩, -, X46, ⟨Lc46, hQ46, l46, y46, z46⟩, st46⟩ := Jvm.LawKit.callS X45 hx (y := (⟨"com/example/strikeboard/strikeboard/engine/ColumnToStringPinLaw", "step", "(JLjava/lang/String;II)J"⟩ : MethodName)) hown9 (mvT hZ9 (ow hw 229 rfl)) (mvT hZ9 (ow hw 230 rfl)) (mvT hZ9 (ow hw 231 rfl)) (mvT hZ9 (ow hw 232 rfl)) (by decide) (backOf (W := 0) (rm_step l Z a0 hw [] g_CS S_CS nz_CS g_SF S_SF r_SF (own_t (0 + 1) p4) os_14 ((own_q jcs p4) + (1 : Int32)) (own_e jcs p4) (own_RC jcs p4) ob_15 kb_16 p4 (8 + jcs.length + (own_sg p4).length) 1 T9.heap n0 O9 q9_1 q9_2 q9_3 q9_4 (own_smallRC p4 hpcj) (own_leRC p4 hl3) rfl (own_addj 1 rfl) (own_eRC jcs p4) (own_b4000 p4 hl3 (by decide)) (own_getRC jcs p4)) hZ9 (ow hw 232 rfl) (ow hw 231 rfl) (by decide) (by decide)) (g := (mkF m 443 #[lI p0, lI p1, lI p2, lI p3, lJ p4, lS, lI (Int32.ofNat jcs.length), lI (own_ch p0), lI (own_ch p1), lI (own_ch p2), lR js, lR os_14, lI (own_e jcs p4), lI (own_p jcs), lI (1 : Int32), lI jn, lI (own_q jcs p4), lI (own_m p4), lJ (own_t (0 + 1) p4), lS, lU] [(.int (own_e jcs p4)), (.int ((own_q jcs p4) + (1 : Int32))), (.ref os_14), (.long (own_t (0 + 1) p4))])) rfl (by rw [hml]; rfl) (argsL := [(.long (own_t (0 + 1) p4)), (.ref os_14), (.int ((own_q jcs p4) + (1 : Int32))), (.int (own_e jcs p4))]) (rest := []) (lenOf own_pd29 rfl) rfl (by show 2 * 0 + _ ≤ _; exact Nat.le_of_eq rfl) (hb hby at_443) (fun _ _ => ⟨rfl, e45, (by decide : 18 + 0 ≤ _), (by decide : 208 + 0 ≤ _)⟩)
              dsimp only [Pt.U, Pt.locs, Pt.cells, Pt.slots] at X46 l46 y46 z46 st46 hQ46
              subst y46 z46
              refine Go.st st46 ?_
              obtain ⟨rfl, N46q, e46⟩ := hQ46
              have N46 : Fr n0 L46 := by rw [l46]; exact Fr.app N45 N46q
              show Go _ _ _ _ (T46.setTop (mkF m 446 #[lI p0, lI p1, lI p2, lI p3, lJ p4, lS, lI (Int32.ofNat jcs.length), lI (own_ch p0), lI (own_ch p1), lI (own_ch p2), lR js, lR os_14, lI (own_e jcs p4), lI (own_p jcs), lI (1 : Int32), lI jn, lI (own_q jcs p4), lI (own_m p4), lJ (own_t (0 + 1) p4), lS, lU] [(.long (own_t (1 + 1) p4))]))
              refine Go.st (fun _ => XS.lstore X46.here hx rfl (hb hby at_446) rfl (l' := #[lI p0, lI p1, lI p2, lI p3, lJ p4, lS, lI (Int32.ofNat jcs.length), lI (own_ch p0), lI (own_ch p1), lI (own_ch p2), lR js, lR os_14, lI (own_e jcs p4), lI (own_p jcs), lI (1 : Int32), lI jn, lI (own_q jcs p4), lI (own_m p4), lJ (own_t (1 + 1) p4), lS, lU]) rfl) ?_
              show Go _ _ _ _ (T46.setTop (mkF m 448 #[lI p0, lI p1, lI p2, lI p3, lJ p4, lS, lI (Int32.ofNat jcs.length), lI (own_ch p0), lI (own_ch p1), lI (own_ch p2), lR js, lR os_14, lI (own_e jcs p4), lI (own_p jcs), lI (1 : Int32), lI jn, lI (own_q jcs p4), lI (own_m p4), lJ (own_t (1 + 1) p4), lS, lU] []))
              refine Go.st (fun _ => XS.lload X46.here hx rfl (hb hby at_448) rfl) ?_
              refine Go.st (fun _ => XS.aload X46.here hx rfl (hb hby at_450) rfl rfl) ?_
              refine Go.st (fun _ => XS.iload X46.here hx rfl (hb hby at_452) rfl) ?_
              refine Go.st (fun _ => XS.iconst X46.here hx rfl (hb hby at_454)) ?_
              show Go _ _ _ _ (T46.setTop (mkF m 455 #[lI p0, lI p1, lI p2, lI p3, lJ p4, lS, lI (Int32.ofNat jcs.length), lI (own_ch p0), lI (own_ch p1), lI (own_ch p2), lR js, lR os_14, lI (own_e jcs p4), lI (own_p jcs), lI (1 : Int32), lI jn, lI (own_q jcs p4), lI (own_m p4), lJ (own_t (1 + 1) p4), lS, lU] [(.int 2), (.int (own_q jcs p4)), (.ref os_14), (.long (own_t (1 + 1) p4))]))
              refine Go.st (fun _ => XS.iadd X46.here hx rfl (hb hby at_455) rfl) ?_
              show Go _ _ _ _ (T46.setTop (mkF m 456 #[lI p0, lI p1, lI p2, lI p3, lJ p4, lS, lI (Int32.ofNat jcs.length), lI (own_ch p0), lI (own_ch p1), lI (own_ch p2), lR js, lR os_14, lI (own_e jcs p4), lI (own_p jcs), lI (1 : Int32), lI jn, lI (own_q jcs p4), lI (own_m p4), lJ (own_t (1 + 1) p4), lS, lU] [(.int ((own_q jcs p4) + (2 : Int32))), (.ref os_14), (.long (own_t (1 + 1) p4))]))
              refine Go.st (fun _ => XS.iload X46.here hx rfl (hb hby at_456) rfl) ?_
              show Go _ _ _ _ (T46.setTop (mkF m 458 #[lI p0, lI p1, lI p2, lI p3, lJ p4, lS, lI (Int32.ofNat jcs.length), lI (own_ch p0), lI (own_ch p1), lI (own_ch p2), lR js, lR os_14, lI (own_e jcs p4), lI (own_p jcs), lI (1 : Int32), lI jn, lI (own_q jcs p4), lI (own_m p4), lJ (own_t (1 + 1) p4), lS, lU] [(.int (own_e jcs p4)), (.int ((own_q jcs p4) + (2 : Int32))), (.ref os_14), (.long (own_t (1 + 1) p4))]))
              obtain ⟨_, _, ⟨T47, L47, k47, n47⟩, -, X47, ⟨Lc47, hQ47, l47, y47, z47⟩, st47⟩ := Jvm.LawKit.callS X46 hx (y := (⟨"com/example/strikeboard/strikeboard/engine/ColumnToStringPinLaw", "step", "(JLjava/lang/String;II)J"⟩ : MethodName)) hown9 (mvT hZ9 (ow hw 229 rfl)) (mvT hZ9 (ow hw 230 rfl)) (mvT hZ9 (ow hw 231 rfl)) (mvT hZ9 (ow hw 232 rfl)) (by decide) (backOf (W := 0) (rm_step l Z a0 hw [] g_CS S_CS nz_CS g_SF S_SF r_SF (own_t (1 + 1) p4) os_14 ((own_q jcs p4) + (2 : Int32)) (own_e jcs p4) (own_RC jcs p4) ob_15 kb_16 p4 (8 + jcs.length + (own_sg p4).length) 2 T9.heap n0 O9 q9_1 q9_2 q9_3 q9_4 (own_smallRC p4 hpcj) (own_leRC p4 hl3) rfl (own_addj 2 rfl) (own_eRC jcs p4) (own_b4000 p4 hl3 (by decide)) (own_getRC jcs p4)) hZ9 (ow hw 232 rfl) (ow hw 231 rfl) (by decide) (by decide)) (g := (mkF m 458 #[lI p0, lI p1, lI p2, lI p3, lJ p4, lS, lI (Int32.ofNat jcs.length), lI (own_ch p0), lI (own_ch p1), lI (own_ch p2), lR js, lR os_14, lI (own_e jcs p4), lI (own_p jcs), lI (1 : Int32), lI jn, lI (own_q jcs p4), lI (own_m p4), lJ (own_t (1 + 1) p4), lS, lU] [(.int (own_e jcs p4)), (.int ((own_q jcs p4) + (2 : Int32))), (.ref os_14), (.long (own_t (1 + 1) p4))])) rfl (by rw [hml]; rfl) (argsL := [(.long (own_t (1 + 1) p4)), (.ref os_14), (.int ((own_q jcs p4) + (2 : Int32))), (.int (own_e jcs p4))]) (rest := []) (lenOf own_pd29 rfl) rfl (by show 2 * 0 + _ ≤ _; exact Nat.le_of_eq rfl) (hb hby at_458) (fun _ _ => ⟨rfl, e46, (by decide : 18 + 0 ≤ _), (by decide : 208 + 0 ≤ _)⟩)
              dsimp only [Pt.U, Pt.locs, Pt.cells, Pt.slots] at X47 l47 y47 z47 st47 hQ47
              subst y47 z47
              refine Go.st st47 ?_
              obtain ⟨rfl, N47q, e47⟩ := hQ47
              have N47 : Fr n0 L47 := by rw [l47]; exact Fr.app N46 N47q
              show Go _ _ _ _ (T47.setTop (mkF m 461 #[lI p0, lI p1, lI p2, lI p3, lJ p4, lS, lI (Int32.ofNat jcs.length), lI (own_ch p0), lI (own_ch p1), lI (own_ch p2), lR js, lR os_14, lI (own_e jcs p4), lI (own_p jcs), lI (1 : Int32), lI jn, lI (own_q jcs p4), lI (own_m p4), lJ (own_t (1 + 1) p4), lS, lU] [(.long (own_t (2 + 1) p4))]))
              refine Go.st (fun _ => XS.lstore X47.here hx rfl (hb hby at_461) rfl (l' := #[lI p0, lI p1, lI p2, lI p3, lJ p4, lS, lI (Int32.ofNat jcs.length), lI (own_ch p0), lI (own_ch p1), lI (own_ch p2), lR js, lR os_14, lI (own_e jcs p4), lI (own_p jcs), lI (1 : Int32), lI jn, lI (own_q jcs p4), lI (own_m p4), lJ (own_t (2 + 1) p4), lS, lU]) rfl) ?_
              show Go _ _ _ _ (T47.setTop (mkF m 463 #[lI p0, lI p1, lI p2, lI p3, lJ p4, lS, lI (Int32.ofNat jcs.length), lI (own_ch p0), lI (own_ch p1), lI (own_ch p2), lR js, lR os_14, lI (own_e jcs p4), lI (own_p jcs), lI (1 : Int32), lI jn, lI (own_q jcs p4), lI (own_m p4), lJ (own_t (2 + 1) p4), lS, lU] []))
              refine Go.st (fun _ => XS.lload X47.here hx rfl (hb hby at_463) rfl) ?_
              refine Go.st (fun _ => XS.aload X47.here hx rfl (hb hby at_465) rfl rfl) ?_
              refine Go.st (fun _ => XS.iload X47.here hx rfl (hb hby at_467) rfl) ?_
              refine Go.st (fun _ => XS.iconst X47.here hx rfl (hb hby at_469)) ?_
              show Go _ _ _ _ (T47.setTop (mkF m 470 #[lI p0, lI p1, lI p2, lI p3, lJ p4, lS, lI (Int32.ofNat jcs.length), lI (own_ch p0), lI (own_ch p1), lI (own_ch p2), lR js, lR os_14, lI (own_e jcs p4), lI (own_p jcs), lI (1 : Int32), lI jn, lI (own_q jcs p4), lI (own_m p4), lJ (own_t (2 + 1) p4), lS, lU] [(.int 3), (.int (own_q jcs p4)), (.ref os_14), (.long (own_t (2 + 1) p4))]))
              refine Go.st (fun _ => XS.iadd X47.here hx rfl (hb hby at_470) rfl) ?_
              show Go _ _ _ _ (T47.setTop (mkF m 471 #[lI p0, lI p1, lI p2, lI p3, lJ p4, lS, lI (Int32.ofNat jcs.length), lI (own_ch p0), lI (own_ch p1), lI (own_ch p2), lR js, lR os_14, lI (own_e jcs p4), lI (own_p jcs), lI (1 : Int32), lI jn, lI (own_q jcs p4), lI (own_m p4), lJ (own_t (2 + 1) p4), lS, lU] [(.int ((own_q jcs p4) + (3 : Int32))), (.ref os_14), (.long (own_t (2 + 1) p4))]))
              refine Go.st (fun _ => XS.iload X47.here hx rfl (hb hby at_471) rfl) ?_
              show Go _ _ _ _ (T47.setTop (mkF m 473 #[lI p0, lI p1, lI p2, lI p3, lJ p4, lS, lI (Int32.ofNat jcs.length), lI (own_ch p0), lI (own_ch p1), lI (own_ch p2), lR js, lR os_14, lI (own_e jcs p4), lI (own_p jcs), lI (1 : Int32), lI jn, lI (own_q jcs p4), lI (own_m p4), lJ (own_t (2 + 1) p4), lS, lU] [(.int (own_e jcs p4)), (.int ((own_q jcs p4) + (3 : Int32))), (.ref os_14), (.long (own_t (2 + 1) p4))]))
              obtain ⟨_, _, ⟨T48, L48, k48, n48⟩, -, X48, ⟨Lc48, hQ48, l48, y48, z48⟩, st48⟩ := Jvm.LawKit.callS X47 hx (y := (⟨"com/example/strikeboard/strikeboard/engine/ColumnToStringPinLaw", "step", "(JLjava/lang/String;II)J"⟩ : MethodName)) hown9 (mvT hZ9 (ow hw 229 rfl)) (mvT hZ9 (ow hw 230 rfl)) (mvT hZ9 (ow hw 231 rfl)) (mvT hZ9 (ow hw 232 rfl)) (by decide) (backOf (W := 0) (rm_step l Z a0 hw [] g_CS S_CS nz_CS g_SF S_SF r_SF (own_t (2 + 1) p4) os_14 ((own_q jcs p4) + (3 : Int32)) (own_e jcs p4) (own_RC jcs p4) ob_15 kb_16 p4 (8 + jcs.length + (own_sg p4).length) 3 T9.heap n0 O9 q9_1 q9_2 q9_3 q9_4 (own_smallRC p4 hpcj) (own_leRC p4 hl3) rfl (own_addj 3 rfl) (own_eRC jcs p4) (own_b4000 p4 hl3 (by decide)) (own_getRC jcs p4)) hZ9 (ow hw 232 rfl) (ow hw 231 rfl) (by decide) (by decide)) (g := (mkF m 473 #[lI p0, lI p1, lI p2, lI p3, lJ p4, lS, lI (Int32.ofNat jcs.length), lI (own_ch p0), lI (own_ch p1), lI (own_ch p2), lR js, lR os_14, lI (own_e jcs p4), lI (own_p jcs), lI (1 : Int32), lI jn, lI (own_q jcs p4), lI (own_m p4), lJ (own_t (2 + 1) p4), lS, lU] [(.int (own_e jcs p4)), (.int ((own_q jcs p4) + (3 : Int32))), (.ref os_14), (.long (own_t (2 + 1) p4))])) rfl (by rw [hml]; rfl) (argsL := [(.long (own_t (2 + 1) p4)), (.ref os_14), (.int ((own_q jcs p4) + (3 : Int32))), (.int (own_e jcs p4))]) (rest := []) (lenOf own_pd29 rfl) rfl (by show 2 * 0 + _ ≤ _; exact Nat.le_of_eq rfl) (hb hby at_473) (fun _ _ => ⟨rfl, e47, (by decide : 18 + 0 ≤ _), (by decide : 208 + 0 ≤ _)⟩)
              dsimp only [Pt.U, Pt.locs, Pt.cells, Pt.slots] at X48 l48 y48 z48 st48 hQ48
              subst y48 z48
              refine Go.st st48 ?_
              obtain ⟨rfl, N48q, e48⟩ := hQ48
              have N48 : Fr n0 L48 := by rw [l48]; exact Fr.app N47 N48q
              show Go _ _ _ _ (T48.setTop (mkF m 476 #[lI p0, lI p1, lI p2, lI p3, lJ p4, lS, lI (Int32.ofNat jcs.length), lI (own_ch p0), lI (own_ch p1), lI (own_ch p2), lR js, lR os_14, lI (own_e jcs p4), lI (own_p jcs), lI (1 : Int32), lI jn, lI (own_q jcs p4), lI (own_m p4), lJ (own_t (2 + 1) p4), lS, lU] [(.long (own_t (3 + 1) p4))]))
              refine Go.st (fun _ => XS.lstore X48.here hx rfl (hb hby at_476) rfl (l' := #[lI p0, lI p1, lI p2, lI p3, lJ p4, lS, lI (Int32.ofNat jcs.length), lI (own_ch p0), lI (own_ch p1), lI (own_ch p2), lR js, lR os_14, lI (own_e jcs p4), lI (own_p jcs), lI (1 : Int32), lI jn, lI (own_q jcs p4), lI (own_m p4), lJ (own_t (3 + 1) p4), lS, lU]) rfl) ?_
              show Go _ _ _ _ (T48.setTop (mkF m 478 #[lI p0, lI p1, lI p2, lI p3, lJ p4, lS, lI (Int32.ofNat jcs.length), lI (own_ch p0), lI (own_ch p1), lI (own_ch p2), lR js, lR os_14, lI (own_e jcs p4), lI (own_p jcs), lI (1 : Int32), lI jn, lI (own_q jcs p4), lI (own_m p4), lJ (own_t (3 + 1) p4), lS, lU] []))
              refine Go.st (fun _ => XS.lload X48.here hx rfl (hb hby at_478) rfl) ?_
              refine Go.st (fun _ => XS.aload X48.here hx rfl (hb hby at_480) rfl rfl) ?_
              refine Go.st (fun _ => XS.iload X48.here hx rfl (hb hby at_482) rfl) ?_
              refine Go.st (fun _ => XS.iconst X48.here hx rfl (hb hby at_484)) ?_
              show Go _ _ _ _ (T48.setTop (mkF m 485 #[lI p0, lI p1, lI p2, lI p3, lJ p4, lS, lI (Int32.ofNat jcs.length), lI (own_ch p0), lI (own_ch p1), lI (own_ch p2), lR js, lR os_14, lI (own_e jcs p4), lI (own_p jcs), lI (1 : Int32), lI jn, lI (own_q jcs p4), lI (own_m p4), lJ (own_t (3 + 1) p4), lS, lU] [(.int 4), (.int (own_q jcs p4)), (.ref os_14), (.long (own_t (3 + 1) p4))]))
              refine Go.st (fun _ => XS.iadd X48.here hx rfl (hb hby at_485) rfl) ?_
              show Go _ _ _ _ (T48.setTop (mkF m 486 #[lI p0, lI p1, lI p2, lI p3, lJ p4, lS, lI (Int32.ofNat jcs.length), lI (own_ch p0), lI (own_ch p1), lI (own_ch p2), lR js, lR os_14, lI (own_e jcs p4), lI (own_p jcs), lI (1 : Int32), lI jn, lI (own_q jcs p4), lI (own_m p4), lJ (own_t (3 + 1) p4), lS, lU] [(.int ((own_q jcs p4) + (4 : Int32))), (.ref os_14), (.long (own_t (3 + 1) p4))]))
              refine Go.st (fun _ => XS.iload X48.here hx rfl (hb hby at_486) rfl) ?_
              show Go _ _ _ _ (T48.setTop (mkF m 488 #[lI p0, lI p1, lI p2, lI p3, lJ p4, lS, lI (Int32.ofNat jcs.length), lI (own_ch p0), lI (own_ch p1), lI (own_ch p2), lR js, lR os_14, lI (own_e jcs p4), lI (own_p jcs), lI (1 : Int32), lI jn, lI (own_q jcs p4), lI (own_m p4), lJ (own_t (3 + 1) p4), lS, lU] [(.int (own_e jcs p4)), (.int ((own_q jcs p4) + (4 : Int32))), (.ref os_14), (.long (own_t (3 + 1) p4))]))
              obtain ⟨_, _, ⟨T49, L49, k49, n49⟩, -, X49, ⟨Lc49, hQ49, l49, y49, z49⟩, st49⟩ := Jvm.LawKit.callS X48 hx (y := (⟨"com/example/strikeboard/strikeboard/engine/ColumnToStringPinLaw", "step", "(JLjava/lang/String;II)J"⟩ : MethodName)) hown9 (mvT hZ9 (ow hw 229 rfl)) (mvT hZ9 (ow hw 230 rfl)) (mvT hZ9 (ow hw 231 rfl)) (mvT hZ9 (ow hw 232 rfl)) (by decide) (backOf (W := 0) (rm_step l Z a0 hw [] g_CS S_CS nz_CS g_SF S_SF r_SF (own_t (3 + 1) p4) os_14 ((own_q jcs p4) + (4 : Int32)) (own_e jcs p4) (own_RC jcs p4) ob_15 kb_16 p4 (8 + jcs.length + (own_sg p4).length) 4 T9.heap n0 O9 q9_1 q9_2 q9_3 q9_4 (own_smallRC p4 hpcj) (own_leRC p4 hl3) rfl (own_addj 4 rfl) (own_eRC jcs p4) (own_b4000 p4 hl3 (by decide)) (own_getRC jcs p4)) hZ9 (ow hw 232 rfl) (ow hw 231 rfl) (by decide) (by decide)) (g := (mkF m 488 #[lI p0, lI p1, lI p2, lI p3, lJ p4, lS, lI (Int32.ofNat jcs.length), lI (own_ch p0), lI (own_ch p1), lI (own_ch p2), lR js, lR os_14, lI (own_e jcs p4), lI (own_p jcs), lI (1 : Int32), lI jn, lI (own_q jcs p4), lI (own_m p4), lJ (own_t (3 + 1) p4), lS, lU] [(.int (own_e jcs p4)), (.int ((own_q jcs p4) + (4 : Int32))), (.ref os_14), (.long (own_t (3 + 1) p4))])) rfl (by rw [hml]; rfl) (argsL := [(.long (own_t (3 + 1) p4)), (.ref os_14), (.int ((own_q jcs p4) + (4 : Int32))), (.int (own_e jcs p4))]) (rest := []) (lenOf own_pd29 rfl) rfl (by show 2 * 0 + _ ≤ _; exact Nat.le_of_eq rfl) (hb hby at_488) (fun _ _ => ⟨rfl, e48, (by decide : 18 + 0 ≤ _), (by decide : 208 + 0 ≤ _)⟩)
              dsimp only [Pt.U, Pt.locs, Pt.cells, Pt.slots] at X49 l49 y49 z49 st49 hQ49
              subst y49 z49
              refine Go.st st49 ?_
              obtain ⟨rfl, N49q, e49⟩ := hQ49
              have N49 : Fr n0 L49 := by rw [l49]; exact Fr.app N48 N49q
              show Go _ _ _ _ (T49.setTop (mkF m 491 #[lI p0, lI p1, lI p2, lI p3, lJ p4, lS, lI (Int32.ofNat jcs.length), lI (own_ch p0), lI (own_ch p1), lI (own_ch p2), lR js, lR os_14, lI (own_e jcs p4), lI (own_p jcs), lI (1 : Int32), lI jn, lI (own_q jcs p4), lI (own_m p4), lJ (own_t (3 + 1) p4), lS, lU] [(.long (own_t (4 + 1) p4))]))
              refine Go.st (fun _ => XS.lstore X49.here hx rfl (hb hby at_491) rfl (l' := #[lI p0, lI p1, lI p2, lI p3, lJ p4, lS, lI (Int32.ofNat jcs.length), lI (own_ch p0), lI (own_ch p1), lI (own_ch p2), lR js, lR os_14, lI (own_e jcs p4), lI (own_p jcs), lI (1 : Int32), lI jn, lI (own_q jcs p4), lI (own_m p4), lJ (own_t (4 + 1) p4), lS, lU]) rfl) ?_
              show Go _ _ _ _ (T49.setTop (mkF m 493 #[lI p0, lI p1, lI p2, lI p3, lJ p4, lS, lI (Int32.ofNat jcs.length), lI (own_ch p0), lI (own_ch p1), lI (own_ch p2), lR js, lR os_14, lI (own_e jcs p4), lI (own_p jcs), lI (1 : Int32), lI jn, lI (own_q jcs p4), lI (own_m p4), lJ (own_t (4 + 1) p4), lS, lU] []))
              refine Go.st (fun _ => XS.lload X49.here hx rfl (hb hby at_493) rfl) ?_
              refine Go.st (fun _ => XS.aload X49.here hx rfl (hb hby at_495) rfl rfl) ?_
              refine Go.st (fun _ => XS.iload X49.here hx rfl (hb hby at_497) rfl) ?_
              refine Go.st (fun _ => XS.iconst X49.here hx rfl (hb hby at_499)) ?_
              show Go _ _ _ _ (T49.setTop (mkF m 500 #[lI p0, lI p1, lI p2, lI p3, lJ p4, lS, lI (Int32.ofNat jcs.length), lI (own_ch p0), lI (own_ch p1), lI (own_ch p2), lR js, lR os_14, lI (own_e jcs p4), lI (own_p jcs), lI (1 : Int32), lI jn, lI (own_q jcs p4), lI (own_m p4), lJ (own_t (4 + 1) p4), lS, lU] [(.int 5), (.int (own_q jcs p4)), (.ref os_14), (.long (own_t (4 + 1) p4))]))
              refine Go.st (fun _ => XS.iadd X49.here hx rfl (hb hby at_500) rfl) ?_
              show Go _ _ _ _ (T49.setTop (mkF m 501 #[lI p0, lI p1, lI p2, lI p3, lJ p4, lS, lI (Int32.ofNat jcs.length), lI (own_ch p0), lI (own_ch p1), lI (own_ch p2), lR js, lR os_14, lI (own_e jcs p4), lI (own_p jcs), lI (1 : Int32), lI jn, lI (own_q jcs p4), lI (own_m p4), lJ (own_t (4 + 1) p4), lS, lU] [(.int ((own_q jcs p4) + (5 : Int32))), (.ref os_14), (.long (own_t (4 + 1) p4))]))
              refine Go.st (fun _ => XS.iload X49.here hx rfl (hb hby at_501) rfl) ?_
              show Go _ _ _ _ (T49.setTop (mkF m 503 #[lI p0, lI p1, lI p2, lI p3, lJ p4, lS, lI (Int32.ofNat jcs.length), lI (own_ch p0), lI (own_ch p1), lI (own_ch p2), lR js, lR os_14, lI (own_e jcs p4), lI (own_p jcs), lI (1 : Int32), lI jn, lI (own_q jcs p4), lI (own_m p4), lJ (own_t (4 + 1) p4), lS, lU] [(.int (own_e jcs p4)), (.int ((own_q jcs p4) + (5 : Int32))), (.ref os_14), (.long (own_t (4 + 1) p4))]))
              obtain ⟨_, _, ⟨T50, L50, k50, n50⟩, -, X50, ⟨Lc50, hQ50, l50, y50, z50⟩, st50⟩ := Jvm.LawKit.callS X49 hx (y := (⟨"com/example/strikeboard/strikeboard/engine/ColumnToStringPinLaw", "step", "(JLjava/lang/String;II)J"⟩ : MethodName)) hown9 (mvT hZ9 (ow hw 229 rfl)) (mvT hZ9 (ow hw 230 rfl)) (mvT hZ9 (ow hw 231 rfl)) (mvT hZ9 (ow hw 232 rfl)) (by decide) (backOf (W := 0) (rm_step l Z a0 hw [] g_CS S_CS nz_CS g_SF S_SF r_SF (own_t (4 + 1) p4) os_14 ((own_q jcs p4) + (5 : Int32)) (own_e jcs p4) (own_RC jcs p4) ob_15 kb_16 p4 (8 + jcs.length + (own_sg p4).length) 5 T9.heap n0 O9 q9_1 q9_2 q9_3 q9_4 (own_smallRC p4 hpcj) (own_leRC p4 hl3) rfl (own_addj 5 rfl) (own_eRC jcs p4) (own_b4000 p4 hl3 (by decide)) (own_getRC jcs p4)) hZ9 (ow hw 232 rfl) (ow hw 231 rfl) (by decide) (by decide)) (g := (mkF m 503 #[lI p0, lI p1, lI p2, lI p3, lJ p4, lS, lI (Int32.ofNat jcs.length), lI (own_ch p0), lI (own_ch p1), lI (own_ch p2), lR js, lR os_14, lI (own_e jcs p4), lI (own_p jcs), lI (1 : Int32), lI jn, lI (own_q jcs p4), lI (own_m p4), lJ (own_t (4 + 1) p4), lS, lU] [(.int (own_e jcs p4)), (.int ((own_q jcs p4) + (5 : Int32))), (.ref os_14), (.long (own_t (4 + 1) p4))])) rfl (by rw [hml]; rfl) (argsL := [(.long (own_t (4 + 1) p4)), (.ref os_14), (.int ((own_q jcs p4) + (5 : Int32))), (.int (own_e jcs p4))]) (rest := []) (lenOf own_pd29 rfl) rfl (by show 2 * 0 + _ ≤ _; exact Nat.le_of_eq rfl) (hb hby at_503) (fun _ _ => ⟨rfl, e49, (by decide : 18 + 0 ≤ _), (by decide : 208 + 0 ≤ _)⟩)
              dsimp only [Pt.U, Pt.locs, Pt.cells, Pt.slots] at X50 l50 y50 z50 st50 hQ50
              subst y50 z50
              refine Go.st st50 ?_
              obtain ⟨rfl, N50q, e50⟩ := hQ50
              have N50 : Fr n0 L50 := by rw [l50]; exact Fr.app N49 N50q
              show Go _ _ _ _ (T50.setTop (mkF m 506 #[lI p0, lI p1, lI p2, lI p3, lJ p4, lS, lI (Int32.ofNat jcs.length), lI (own_ch p0), lI (own_ch p1), lI (own_ch p2), lR js, lR os_14, lI (own_e jcs p4), lI (own_p jcs), lI (1 : Int32), lI jn, lI (own_q jcs p4), lI (own_m p4), lJ (own_t (4 + 1) p4), lS, lU] [(.long (own_t (5 + 1) p4))]))
              refine Go.st (fun _ => XS.lstore X50.here hx rfl (hb hby at_506) rfl (l' := #[lI p0, lI p1, lI p2, lI p3, lJ p4, lS, lI (Int32.ofNat jcs.length), lI (own_ch p0), lI (own_ch p1), lI (own_ch p2), lR js, lR os_14, lI (own_e jcs p4), lI (own_p jcs), lI (1 : Int32), lI jn, lI (own_q jcs p4), lI (own_m p4), lJ (own_t (5 + 1) p4), lS, lU]) rfl) ?_
              show Go _ _ _ _ (T50.setTop (mkF m 508 #[lI p0, lI p1, lI p2, lI p3, lJ p4, lS, lI (Int32.ofNat jcs.length), lI (own_ch p0), lI (own_ch p1), lI (own_ch p2), lR js, lR os_14, lI (own_e jcs p4), lI (own_p jcs), lI (1 : Int32), lI jn, lI (own_q jcs p4), lI (own_m p4), lJ (own_t (5 + 1) p4), lS, lU] []))
              refine Go.st (fun _ => XS.lload X50.here hx rfl (hb hby at_508) rfl) ?_
              refine Go.st (fun _ => XS.aload X50.here hx rfl (hb hby at_510) rfl rfl) ?_
              refine Go.st (fun _ => XS.iload X50.here hx rfl (hb hby at_512) rfl) ?_
              refine Go.st (fun _ => XS.bipush X50.here hx rfl (hb hby at_514)) ?_
              show Go _ _ _ _ (T50.setTop (mkF m 516 #[lI p0, lI p1, lI p2, lI p3, lJ p4, lS, lI (Int32.ofNat jcs.length), lI (own_ch p0), lI (own_ch p1), lI (own_ch p2), lR js, lR os_14, lI (own_e jcs p4), lI (own_p jcs), lI (1 : Int32), lI jn, lI (own_q jcs p4), lI (own_m p4), lJ (own_t (5 + 1) p4), lS, lU] [(.int 6), (.int (own_q jcs p4)), (.ref os_14), (.long (own_t (5 + 1) p4))]))
              refine Go.st (fun _ => XS.iadd X50.here hx rfl (hb hby at_516) rfl) ?_
              show Go _ _ _ _ (T50.setTop (mkF m 517 #[lI p0, lI p1, lI p2, lI p3, lJ p4, lS, lI (Int32.ofNat jcs.length), lI (own_ch p0), lI (own_ch p1), lI (own_ch p2), lR js, lR os_14, lI (own_e jcs p4), lI (own_p jcs), lI (1 : Int32), lI jn, lI (own_q jcs p4), lI (own_m p4), lJ (own_t (5 + 1) p4), lS, lU] [(.int ((own_q jcs p4) + (6 : Int32))), (.ref os_14), (.long (own_t (5 + 1) p4))]))
              refine Go.st (fun _ => XS.iload X50.here hx rfl (hb hby at_517) rfl) ?_
              show Go _ _ _ _ (T50.setTop (mkF m 519 #[lI p0, lI p1, lI p2, lI p3, lJ p4, lS, lI (Int32.ofNat jcs.length), lI (own_ch p0), lI (own_ch p1), lI (own_ch p2), lR js, lR os_14, lI (own_e jcs p4), lI (own_p jcs), lI (1 : Int32), lI jn, lI (own_q jcs p4), lI (own_m p4), lJ (own_t (5 + 1) p4), lS, lU] [(.int (own_e jcs p4)), (.int ((own_q jcs p4) + (6 : Int32))), (.ref os_14), (.long (own_t (5 + 1) p4))]))
              obtain ⟨_, _, ⟨T51, L51, k51, n51⟩, -, X51, ⟨Lc51, hQ51, l51, y51, z51⟩, st51⟩ := Jvm.LawKit.callS X50 hx (y := (⟨"com/example/strikeboard/strikeboard/engine/ColumnToStringPinLaw", "step", "(JLjava/lang/String;II)J"⟩ : MethodName)) hown9 (mvT hZ9 (ow hw 229 rfl)) (mvT hZ9 (ow hw 230 rfl)) (mvT hZ9 (ow hw 231 rfl)) (mvT hZ9 (ow hw 232 rfl)) (by decide) (backOf (W := 0) (rm_step l Z a0 hw [] g_CS S_CS nz_CS g_SF S_SF r_SF (own_t (5 + 1) p4) os_14 ((own_q jcs p4) + (6 : Int32)) (own_e jcs p4) (own_RC jcs p4) ob_15 kb_16 p4 (8 + jcs.length + (own_sg p4).length) 6 T9.heap n0 O9 q9_1 q9_2 q9_3 q9_4 (own_smallRC p4 hpcj) (own_leRC p4 hl3) rfl (own_addj 6 rfl) (own_eRC jcs p4) (own_b4000 p4 hl3 (by decide)) (own_getRC jcs p4)) hZ9 (ow hw 232 rfl) (ow hw 231 rfl) (by decide) (by decide)) (g := (mkF m 519 #[lI p0, lI p1, lI p2, lI p3, lJ p4, lS, lI (Int32.ofNat jcs.length), lI (own_ch p0), lI (own_ch p1), lI (own_ch p2), lR js, lR os_14, lI (own_e jcs p4), lI (own_p jcs), lI (1 : Int32), lI jn, lI (own_q jcs p4), lI (own_m p4), lJ (own_t (5 + 1) p4), lS, lU] [(.int (own_e jcs p4)), (.int ((own_q jcs p4) + (6 : Int32))), (.ref os_14), (.long (own_t (5 + 1) p4))])) rfl (by rw [hml]; rfl) (argsL := [(.long (own_t (5 + 1) p4)), (.ref os_14), (.int ((own_q jcs p4) + (6 : Int32))), (.int (own_e jcs p4))]) (rest := []) (lenOf own_pd29 rfl) rfl (by show 2 * 0 + _ ≤ _; exact Nat.le_of_eq rfl) (hb hby at_519) (fun _ _ => ⟨rfl, e50, (by decide : 18 + 0 ≤ _), (by decide : 208 + 0 ≤ _)⟩)
              dsimp only [Pt.U, Pt.locs, Pt.cells, Pt.slots] at X51 l51 y51 z51 st51 hQ51
              subst y51 z51
              refine Go.st st51 ?_
              obtain ⟨rfl, N51q, e51⟩ := hQ51
              have N51 : Fr n0 L51 := by rw [l51]; exact Fr.app N50 N51q
              show Go _ _ _ _ (T51.setTop (mkF m 522 #[lI p0, lI p1, lI p2, lI p3, lJ p4, lS, lI (Int32.ofNat jcs.length), lI (own_ch p0), lI (own_ch p1), lI (own_ch p2), lR js, lR os_14, lI (own_e jcs p4), lI (own_p jcs), lI (1 : Int32), lI jn, lI (own_q jcs p4), lI (own_m p4), lJ (own_t (5 + 1) p4), lS, lU] [(.long (own_t (6 + 1) p4))]))
              refine Go.st (fun _ => XS.lstore X51.here hx rfl (hb hby at_522) rfl (l' := #[lI p0, lI p1, lI p2, lI p3, lJ p4, lS, lI (Int32.ofNat jcs.length), lI (own_ch p0), lI (own_ch p1), lI (own_ch p2), lR js, lR os_14, lI (own_e jcs p4), lI (own_p jcs), lI (1 : Int32), lI jn, lI (own_q jcs p4), lI (own_m p4), lJ (own_t (6 + 1) p4), lS, lU]) rfl) ?_
              show Go _ _ _ _ (T51.setTop (mkF m 524 #[lI p0, lI p1, lI p2, lI p3, lJ p4, lS, lI (Int32.ofNat jcs.length), lI (own_ch p0), lI (own_ch p1), lI (own_ch p2), lR js, lR os_14, lI (own_e jcs p4), lI (own_p jcs), lI (1 : Int32), lI jn, lI (own_q jcs p4), lI (own_m p4), lJ (own_t (6 + 1) p4), lS, lU] []))
              refine Go.st (fun _ => XS.lload X51.here hx rfl (hb hby at_524) rfl) ?_
              refine Go.st (fun _ => XS.aload X51.here hx rfl (hb hby at_526) rfl rfl) ?_
              refine Go.st (fun _ => XS.iload X51.here hx rfl (hb hby at_528) rfl) ?_
              refine Go.st (fun _ => XS.bipush X51.here hx rfl (hb hby at_530)) ?_
              show Go _ _ _ _ (T51.setTop (mkF m 532 #[lI p0, lI p1, lI p2, lI p3, lJ p4, lS, lI (Int32.ofNat jcs.length), lI (own_ch p0), lI (own_ch p1), lI (own_ch p2), lR js, lR os_14, lI (own_e jcs p4), lI (own_p jcs), lI (1 : Int32), lI jn, lI (own_q jcs p4), lI (own_m p4), lJ (own_t (6 + 1) p4), lS, lU] [(.int 7), (.int (own_q jcs p4)), (.ref os_14), (.long (own_t (6 + 1) p4))]))
              refine Go.st (fun _ => XS.iadd X51.here hx rfl (hb hby at_532) rfl) ?_
              show Go _ _ _ _ (T51.setTop (mkF m 533 #[lI p0, lI p1, lI p2, lI p3, lJ p4, lS, lI (Int32.ofNat jcs.length), lI (own_ch p0), lI (own_ch p1), lI (own_ch p2), lR js, lR os_14, lI (own_e jcs p4), lI (own_p jcs), lI (1 : Int32), lI jn, lI (own_q jcs p4), lI (own_m p4), lJ (own_t (6 + 1) p4), lS, lU] [(.int ((own_q jcs p4) + (7 : Int32))), (.ref os_14), (.long (own_t (6 + 1) p4))]))
              refine Go.st (fun _ => XS.iload X51.here hx rfl (hb hby at_533) rfl) ?_
              show Go _ _ _ _ (T51.setTop (mkF m 535 #[lI p0, lI p1, lI p2, lI p3, lJ p4, lS, lI (Int32.ofNat jcs.length), lI (own_ch p0), lI (own_ch p1), lI (own_ch p2), lR js, lR os_14, lI (own_e jcs p4), lI (own_p jcs), lI (1 : Int32), lI jn, lI (own_q jcs p4), lI (own_m p4), lJ (own_t (6 + 1) p4), lS, lU] [(.int (own_e jcs p4)), (.int ((own_q jcs p4) + (7 : Int32))), (.ref os_14), (.long (own_t (6 + 1) p4))]))
              obtain ⟨_, _, ⟨T52, L52, k52, n52⟩, -, X52, ⟨Lc52, hQ52, l52, y52, z52⟩, st52⟩ := Jvm.LawKit.callS X51 hx (y := (⟨"com/example/strikeboard/strikeboard/engine/ColumnToStringPinLaw", "step", "(JLjava/lang/String;II)J"⟩ : MethodName)) hown9 (mvT hZ9 (ow hw 229 rfl)) (mvT hZ9 (ow hw 230 rfl)) (mvT hZ9 (ow hw 231 rfl)) (mvT hZ9 (ow hw 232 rfl)) (by decide) (backOf (W := 0) (rm_step l Z a0 hw [] g_CS S_CS nz_CS g_SF S_SF r_SF (own_t (6 + 1) p4) os_14 ((own_q jcs p4) + (7 : Int32)) (own_e jcs p4) (own_RC jcs p4) ob_15 kb_16 p4 (8 + jcs.length + (own_sg p4).length) 7 T9.heap n0 O9 q9_1 q9_2 q9_3 q9_4 (own_smallRC p4 hpcj) (own_leRC p4 hl3) rfl (own_addj 7 rfl) (own_eRC jcs p4) (own_b4000 p4 hl3 (by decide)) (own_getRC jcs p4)) hZ9 (ow hw 232 rfl) (ow hw 231 rfl) (by decide) (by decide)) (g := (mkF m 535 #[lI p0, lI p1, lI p2, lI p3, lJ p4, lS, lI (Int32.ofNat jcs.length), lI (own_ch p0), lI (own_ch p1), lI (own_ch p2), lR js, lR os_14, lI (own_e jcs p4), lI (own_p jcs), lI (1 : Int32), lI jn, lI (own_q jcs p4), lI (own_m p4), lJ (own_t (6 + 1) p4), lS, lU] [(.int (own_e jcs p4)), (.int ((own_q jcs p4) + (7 : Int32))), (.ref os_14), (.long (own_t (6 + 1) p4))])) rfl (by rw [hml]; rfl) (argsL := [(.long (own_t (6 + 1) p4)), (.ref os_14), (.int ((own_q jcs p4) + (7 : Int32))), (.int (own_e jcs p4))]) (rest := []) (lenOf own_pd29 rfl) rfl (by show 2 * 0 + _ ≤ _; exact Nat.le_of_eq rfl) (hb hby at_535) (fun _ _ => ⟨rfl, e51, (by decide : 18 + 0 ≤ _), (by decide : 208 + 0 ≤ _)⟩)
              dsimp only [Pt.U, Pt.locs, Pt.cells, Pt.slots] at X52 l52 y52 z52 st52 hQ52
              subst y52 z52
              refine Go.st st52 ?_
              obtain ⟨rfl, N52q, e52⟩ := hQ52
              have N52 : Fr n0 L52 := by rw [l52]; exact Fr.app N51 N52q
              show Go _ _ _ _ (T52.setTop (mkF m 538 #[lI p0, lI p1, lI p2, lI p3, lJ p4, lS, lI (Int32.ofNat jcs.length), lI (own_ch p0), lI (own_ch p1), lI (own_ch p2), lR js, lR os_14, lI (own_e jcs p4), lI (own_p jcs), lI (1 : Int32), lI jn, lI (own_q jcs p4), lI (own_m p4), lJ (own_t (6 + 1) p4), lS, lU] [(.long (own_t (7 + 1) p4))]))
              refine Go.st (fun _ => XS.lstore X52.here hx rfl (hb hby at_538) rfl (l' := #[lI p0, lI p1, lI p2, lI p3, lJ p4, lS, lI (Int32.ofNat jcs.length), lI (own_ch p0), lI (own_ch p1), lI (own_ch p2), lR js, lR os_14, lI (own_e jcs p4), lI (own_p jcs), lI (1 : Int32), lI jn, lI (own_q jcs p4), lI (own_m p4), lJ (own_t (7 + 1) p4), lS, lU]) rfl) ?_
              show Go _ _ _ _ (T52.setTop (mkF m 540 #[lI p0, lI p1, lI p2, lI p3, lJ p4, lS, lI (Int32.ofNat jcs.length), lI (own_ch p0), lI (own_ch p1), lI (own_ch p2), lR js, lR os_14, lI (own_e jcs p4), lI (own_p jcs), lI (1 : Int32), lI jn, lI (own_q jcs p4), lI (own_m p4), lJ (own_t (7 + 1) p4), lS, lU] []))
              refine Go.st (fun _ => XS.lload X52.here hx rfl (hb hby at_540) rfl) ?_
              refine Go.st (fun _ => XS.aload X52.here hx rfl (hb hby at_542) rfl rfl) ?_
              refine Go.st (fun _ => XS.iload X52.here hx rfl (hb hby at_544) rfl) ?_
              refine Go.st (fun _ => XS.bipush X52.here hx rfl (hb hby at_546)) ?_
              show Go _ _ _ _ (T52.setTop (mkF m 548 #[lI p0, lI p1, lI p2, lI p3, lJ p4, lS, lI (Int32.ofNat jcs.length), lI (own_ch p0), lI (own_ch p1), lI (own_ch p2), lR js, lR os_14, lI (own_e jcs p4), lI (own_p jcs), lI (1 : Int32), lI jn, lI (own_q jcs p4), lI (own_m p4), lJ (own_t (7 + 1) p4), lS, lU] [(.int 8), (.int (own_q jcs p4)), (.ref os_14), (.long (own_t (7 + 1) p4))]))
              refine Go.st (fun _ => XS.iadd X52.here hx rfl (hb hby at_548) rfl) ?_
              show Go _ _ _ _ (T52.setTop (mkF m 549 #[lI p0, lI p1, lI p2, lI p3, lJ p4, lS, lI (Int32.ofNat jcs.length), lI (own_ch p0), lI (own_ch p1), lI (own_ch p2), lR js, lR os_14, lI (own_e jcs p4), lI (own_p jcs), lI (1 : Int32), lI jn, lI (own_q jcs p4), lI (own_m p4), lJ (own_t (7 + 1) p4), lS, lU] [(.int ((own_q jcs p4) + (8 : Int32))), (.ref os_14), (.long (own_t (7 + 1) p4))]))
              refine Go.st (fun _ => XS.iload X52.here hx rfl (hb hby at_549) rfl) ?_
              show Go _ _ _ _ (T52.setTop (mkF m 551 #[lI p0, lI p1, lI p2, lI p3, lJ p4, lS, lI (Int32.ofNat jcs.length), lI (own_ch p0), lI (own_ch p1), lI (own_ch p2), lR js, lR os_14, lI (own_e jcs p4), lI (own_p jcs), lI (1 : Int32), lI jn, lI (own_q jcs p4), lI (own_m p4), lJ (own_t (7 + 1) p4), lS, lU] [(.int (own_e jcs p4)), (.int ((own_q jcs p4) + (8 : Int32))), (.ref os_14), (.long (own_t (7 + 1) p4))]))
              obtain ⟨_, _, ⟨T53, L53, k53, n53⟩, -, X53, ⟨Lc53, hQ53, l53, y53, z53⟩, st53⟩ := Jvm.LawKit.callS X52 hx (y := (⟨"com/example/strikeboard/strikeboard/engine/ColumnToStringPinLaw", "step", "(JLjava/lang/String;II)J"⟩ : MethodName)) hown9 (mvT hZ9 (ow hw 229 rfl)) (mvT hZ9 (ow hw 230 rfl)) (mvT hZ9 (ow hw 231 rfl)) (mvT hZ9 (ow hw 232 rfl)) (by decide) (backOf (W := 0) (rm_step l Z a0 hw [] g_CS S_CS nz_CS g_SF S_SF r_SF (own_t (7 + 1) p4) os_14 ((own_q jcs p4) + (8 : Int32)) (own_e jcs p4) (own_RC jcs p4) ob_15 kb_16 p4 (8 + jcs.length + (own_sg p4).length) 8 T9.heap n0 O9 q9_1 q9_2 q9_3 q9_4 (own_smallRC p4 hpcj) (own_leRC p4 hl3) rfl (own_addj 8 rfl) (own_eRC jcs p4) (own_b4000 p4 hl3 (by decide)) (own_getRC jcs p4)) hZ9 (ow hw 232 rfl) (ow hw 231 rfl) (by decide) (by decide)) (g := (mkF m 551 #[lI p0, lI p1, lI p2, lI p3, lJ p4, lS, lI (Int32.ofNat jcs.length), lI (own_ch p0), lI (own_ch p1), lI (own_ch p2), lR js, lR os_14, lI (own_e jcs p4), lI (own_p jcs), lI (1 : Int32), lI jn, lI (own_q jcs p4), lI (own_m p4), lJ (own_t (7 + 1) p4), lS, lU] [(.int (own_e jcs p4)), (.int ((own_q jcs p4) + (8 : Int32))), (.ref os_14), (.long (own_t (7 + 1) p4))])) rfl (by rw [hml]; rfl) (argsL := [(.long (own_t (7 + 1) p4)), (.ref os_14), (.int ((own_q jcs p4) + (8 : Int32))), (.int (own_e jcs p4))]) (rest := []) (lenOf own_pd29 rfl) rfl (by show 2 * 0 + _ ≤ _; exact Nat.le_of_eq rfl) (hb hby at_551) (fun _ _ => ⟨rfl, e52, (by decide : 18 + 0 ≤ _), (by decide : 208 + 0 ≤ _)⟩)
              dsimp only [Pt.U, Pt.locs, Pt.cells, Pt.slots] at X53 l53 y53 z53 st53 hQ53
              subst y53 z53
              refine Go.st st53 ?_
              obtain ⟨rfl, N53q, e53⟩ := hQ53
              have N53 : Fr n0 L53 := by rw [l53]; exact Fr.app N52 N53q
              show Go _ _ _ _ (T53.setTop (mkF m 554 #[lI p0, lI p1, lI p2, lI p3, lJ p4, lS, lI (Int32.ofNat jcs.length), lI (own_ch p0), lI (own_ch p1), lI (own_ch p2), lR js, lR os_14, lI (own_e jcs p4), lI (own_p jcs), lI (1 : Int32), lI jn, lI (own_q jcs p4), lI (own_m p4), lJ (own_t (7 + 1) p4), lS, lU] [(.long (own_t (8 + 1) p4))]))
              refine Go.st (fun _ => XS.lstore X53.here hx rfl (hb hby at_554) rfl (l' := #[lI p0, lI p1, lI p2, lI p3, lJ p4, lS, lI (Int32.ofNat jcs.length), lI (own_ch p0), lI (own_ch p1), lI (own_ch p2), lR js, lR os_14, lI (own_e jcs p4), lI (own_p jcs), lI (1 : Int32), lI jn, lI (own_q jcs p4), lI (own_m p4), lJ (own_t (8 + 1) p4), lS, lU]) rfl) ?_
              show Go _ _ _ _ (T53.setTop (mkF m 556 #[lI p0, lI p1, lI p2, lI p3, lJ p4, lS, lI (Int32.ofNat jcs.length), lI (own_ch p0), lI (own_ch p1), lI (own_ch p2), lR js, lR os_14, lI (own_e jcs p4), lI (own_p jcs), lI (1 : Int32), lI jn, lI (own_q jcs p4), lI (own_m p4), lJ (own_t (8 + 1) p4), lS, lU] []))
              refine Go.st (fun _ => XS.lload X53.here hx rfl (hb hby at_556) rfl) ?_
              refine Go.st (fun _ => XS.aload X53.here hx rfl (hb hby at_558) rfl rfl) ?_
              refine Go.st (fun _ => XS.iload X53.here hx rfl (hb hby at_560) rfl) ?_
              refine Go.st (fun _ => XS.bipush X53.here hx rfl (hb hby at_562)) ?_
              show Go _ _ _ _ (T53.setTop (mkF m 564 #[lI p0, lI p1, lI p2, lI p3, lJ p4, lS, lI (Int32.ofNat jcs.length), lI (own_ch p0), lI (own_ch p1), lI (own_ch p2), lR js, lR os_14, lI (own_e jcs p4), lI (own_p jcs), lI (1 : Int32), lI jn, lI (own_q jcs p4), lI (own_m p4), lJ (own_t (8 + 1) p4), lS, lU] [(.int 9), (.int (own_q jcs p4)), (.ref os_14), (.long (own_t (8 + 1) p4))]))
              refine Go.st (fun _ => XS.iadd X53.here hx rfl (hb hby at_564) rfl) ?_
              show Go _ _ _ _ (T53.setTop (mkF m 565 #[lI p0, lI p1, lI p2, lI p3, lJ p4, lS, lI (Int32.ofNat jcs.length), lI (own_ch p0), lI (own_ch p1), lI (own_ch p2), lR js, lR os_14, lI (own_e jcs p4), lI (own_p jcs), lI (1 : Int32), lI jn, lI (own_q jcs p4), lI (own_m p4), lJ (own_t (8 + 1) p4), lS, lU] [(.int ((own_q jcs p4) + (9 : Int32))), (.ref os_14), (.long (own_t (8 + 1) p4))]))
              refine Go.st (fun _ => XS.iload X53.here hx rfl (hb hby at_565) rfl) ?_
              show Go _ _ _ _ (T53.setTop (mkF m 567 #[lI p0, lI p1, lI p2, lI p3, lJ p4, lS, lI (Int32.ofNat jcs.length), lI (own_ch p0), lI (own_ch p1), lI (own_ch p2), lR js, lR os_14, lI (own_e jcs p4), lI (own_p jcs), lI (1 : Int32), lI jn, lI (own_q jcs p4), lI (own_m p4), lJ (own_t (8 + 1) p4), lS, lU] [(.int (own_e jcs p4)), (.int ((own_q jcs p4) + (9 : Int32))), (.ref os_14), (.long (own_t (8 + 1) p4))]))
              obtain ⟨_, _, ⟨T54, L54, k54, n54⟩, -, X54, ⟨Lc54, hQ54, l54, y54, z54⟩, st54⟩ := Jvm.LawKit.callS X53 hx (y := (⟨"com/example/strikeboard/strikeboard/engine/ColumnToStringPinLaw", "step", "(JLjava/lang/String;II)J"⟩ : MethodName)) hown9 (mvT hZ9 (ow hw 229 rfl)) (mvT hZ9 (ow hw 230 rfl)) (mvT hZ9 (ow hw 231 rfl)) (mvT hZ9 (ow hw 232 rfl)) (by decide) (backOf (W := 0) (rm_step l Z a0 hw [] g_CS S_CS nz_CS g_SF S_SF r_SF (own_t (8 + 1) p4) os_14 ((own_q jcs p4) + (9 : Int32)) (own_e jcs p4) (own_RC jcs p4) ob_15 kb_16 p4 (8 + jcs.length + (own_sg p4).length) 9 T9.heap n0 O9 q9_1 q9_2 q9_3 q9_4 (own_smallRC p4 hpcj) (own_leRC p4 hl3) rfl (own_addj 9 rfl) (own_eRC jcs p4) (own_b4000 p4 hl3 (by decide)) (own_getRC jcs p4)) hZ9 (ow hw 232 rfl) (ow hw 231 rfl) (by decide) (by decide)) (g := (mkF m 567 #[lI p0, lI p1, lI p2, lI p3, lJ p4, lS, lI (Int32.ofNat jcs.length), lI (own_ch p0), lI (own_ch p1), lI (own_ch p2), lR js, lR os_14, lI (own_e jcs p4), lI (own_p jcs), lI (1 : Int32), lI jn, lI (own_q jcs p4), lI (own_m p4), lJ (own_t (8 + 1) p4), lS, lU] [(.int (own_e jcs p4)), (.int ((own_q jcs p4) + (9 : Int32))), (.ref os_14), (.long (own_t (8 + 1) p4))])) rfl (by rw [hml]; rfl) (argsL := [(.long (own_t (8 + 1) p4)), (.ref os_14), (.int ((own_q jcs p4) + (9 : Int32))), (.int (own_e jcs p4))]) (rest := []) (lenOf own_pd29 rfl) rfl (by show 2 * 0 + _ ≤ _; exact Nat.le_of_eq rfl) (hb hby at_567) (fun _ _ => ⟨rfl, e53, (by decide : 18 + 0 ≤ _), (by decide : 208 + 0 ≤ _)⟩)
              dsimp only [Pt.U, Pt.locs, Pt.cells, Pt.slots] at X54 l54 y54 z54 st54 hQ54
              subst y54 z54
              refine Go.st st54 ?_
              obtain ⟨rfl, N54q, e54⟩ := hQ54
              have N54 : Fr n0 L54 := by rw [l54]; exact Fr.app N53 N54q
              show Go _ _ _ _ (T54.setTop (mkF m 570 #[lI p0, lI p1, lI p2, lI p3, lJ p4, lS, lI (Int32.ofNat jcs.length), lI (own_ch p0), lI (own_ch p1), lI (own_ch p2), lR js, lR os_14, lI (own_e jcs p4), lI (own_p jcs), lI (1 : Int32), lI jn, lI (own_q jcs p4), lI (own_m p4), lJ (own_t (8 + 1) p4), lS, lU] [(.long (own_t (9 + 1) p4))]))
              refine Go.st (fun _ => XS.lstore X54.here hx rfl (hb hby at_570) rfl (l' := #[lI p0, lI p1, lI p2, lI p3, lJ p4, lS, lI (Int32.ofNat jcs.length), lI (own_ch p0), lI (own_ch p1), lI (own_ch p2), lR js, lR os_14, lI (own_e jcs p4), lI (own_p jcs), lI (1 : Int32), lI jn, lI (own_q jcs p4), lI (own_m p4), lJ (own_t (9 + 1) p4), lS, lU]) rfl) ?_
              show Go _ _ _ _ (T54.setTop (mkF m 572 #[lI p0, lI p1, lI p2, lI p3, lJ p4, lS, lI (Int32.ofNat jcs.length), lI (own_ch p0), lI (own_ch p1), lI (own_ch p2), lR js, lR os_14, lI (own_e jcs p4), lI (own_p jcs), lI (1 : Int32), lI jn, lI (own_q jcs p4), lI (own_m p4), lJ (own_t (9 + 1) p4), lS, lU] []))
              refine Go.st (fun _ => XS.lload X54.here hx rfl (hb hby at_572) rfl) ?_
              refine Go.st (fun _ => XS.aload X54.here hx rfl (hb hby at_574) rfl rfl) ?_
              refine Go.st (fun _ => XS.iload X54.here hx rfl (hb hby at_576) rfl) ?_
              refine Go.st (fun _ => XS.bipush X54.here hx rfl (hb hby at_578)) ?_
              show Go _ _ _ _ (T54.setTop (mkF m 580 #[lI p0, lI p1, lI p2, lI p3, lJ p4, lS, lI (Int32.ofNat jcs.length), lI (own_ch p0), lI (own_ch p1), lI (own_ch p2), lR js, lR os_14, lI (own_e jcs p4), lI (own_p jcs), lI (1 : Int32), lI jn, lI (own_q jcs p4), lI (own_m p4), lJ (own_t (9 + 1) p4), lS, lU] [(.int 10), (.int (own_q jcs p4)), (.ref os_14), (.long (own_t (9 + 1) p4))]))
              refine Go.st (fun _ => XS.iadd X54.here hx rfl (hb hby at_580) rfl) ?_
              show Go _ _ _ _ (T54.setTop (mkF m 581 #[lI p0, lI p1, lI p2, lI p3, lJ p4, lS, lI (Int32.ofNat jcs.length), lI (own_ch p0), lI (own_ch p1), lI (own_ch p2), lR js, lR os_14, lI (own_e jcs p4), lI (own_p jcs), lI (1 : Int32), lI jn, lI (own_q jcs p4), lI (own_m p4), lJ (own_t (9 + 1) p4), lS, lU] [(.int ((own_q jcs p4) + (10 : Int32))), (.ref os_14), (.long (own_t (9 + 1) p4))]))
              refine Go.st (fun _ => XS.iload X54.here hx rfl (hb hby at_581) rfl) ?_
              show Go _ _ _ _ (T54.setTop (mkF m 583 #[lI p0, lI p1, lI p2, lI p3, lJ p4, lS, lI (Int32.ofNat jcs.length), lI (own_ch p0), lI (own_ch p1), lI (own_ch p2), lR js, lR os_14, lI (own_e jcs p4), lI (own_p jcs), lI (1 : Int32), lI jn, lI (own_q jcs p4), lI (own_m p4), lJ (own_t (9 + 1) p4), lS, lU] [(.int (own_e jcs p4)), (.int ((own_q jcs p4) + (10 : Int32))), (.ref os_14), (.long (own_t (9 + 1) p4))]))
              obtain ⟨_, _, ⟨T55, L55, k55, n55⟩, -, X55, ⟨Lc55, hQ55, l55, y55, z55⟩, st55⟩ := Jvm.LawKit.callS X54 hx (y := (⟨"com/example/strikeboard/strikeboard/engine/ColumnToStringPinLaw", "step", "(JLjava/lang/String;II)J"⟩ : MethodName)) hown9 (mvT hZ9 (ow hw 229 rfl)) (mvT hZ9 (ow hw 230 rfl)) (mvT hZ9 (ow hw 231 rfl)) (mvT hZ9 (ow hw 232 rfl)) (by decide) (backOf (W := 0) (rm_step l Z a0 hw [] g_CS S_CS nz_CS g_SF S_SF r_SF (own_t (9 + 1) p4) os_14 ((own_q jcs p4) + (10 : Int32)) (own_e jcs p4) (own_RC jcs p4) ob_15 kb_16 p4 (8 + jcs.length + (own_sg p4).length) 10 T9.heap n0 O9 q9_1 q9_2 q9_3 q9_4 (own_smallRC p4 hpcj) (own_leRC p4 hl3) rfl (own_addj 10 rfl) (own_eRC jcs p4) (own_b4000 p4 hl3 (by decide)) (own_getRC jcs p4)) hZ9 (ow hw 232 rfl) (ow hw 231 rfl) (by decide) (by decide)) (g := (mkF m 583 #[lI p0, lI p1, lI p2, lI p3, lJ p4, lS, lI (Int32.ofNat jcs.length), lI (own_ch p0), lI (own_ch p1), lI (own_ch p2), lR js, lR os_14, lI (own_e jcs p4), lI (own_p jcs), lI (1 : Int32), lI jn, lI (own_q jcs p4), lI (own_m p4), lJ (own_t (9 + 1) p4), lS, lU] [(.int (own_e jcs p4)), (.int ((own_q jcs p4) + (10 : Int32))), (.ref os_14), (.long (own_t (9 + 1) p4))])) rfl (by rw [hml]; rfl) (argsL := [(.long (own_t (9 + 1) p4)), (.ref os_14), (.int ((own_q jcs p4) + (10 : Int32))), (.int (own_e jcs p4))]) (rest := []) (lenOf own_pd29 rfl) rfl (by show 2 * 0 + _ ≤ _; exact Nat.le_of_eq rfl) (hb hby at_583) (fun _ _ => ⟨rfl, e54, (by decide : 18 + 0 ≤ _), (by decide : 208 + 0 ≤ _)⟩)
              dsimp only [Pt.U, Pt.locs, Pt.cells, Pt.slots] at X55 l55 y55 z55 st55 hQ55
              subst y55 z55
              refine Go.st st55 ?_
              obtain ⟨rfl, N55q, e55⟩ := hQ55
              have N55 : Fr n0 L55 := by rw [l55]; exact Fr.app N54 N55q
              show Go _ _ _ _ (T55.setTop (mkF m 586 #[lI p0, lI p1, lI p2, lI p3, lJ p4, lS, lI (Int32.ofNat jcs.length), lI (own_ch p0), lI (own_ch p1), lI (own_ch p2), lR js, lR os_14, lI (own_e jcs p4), lI (own_p jcs), lI (1 : Int32), lI jn, lI (own_q jcs p4), lI (own_m p4), lJ (own_t (9 + 1) p4), lS, lU] [(.long (own_t (10 + 1) p4))]))
              refine Go.st (fun _ => XS.lstore X55.here hx rfl (hb hby at_586) rfl (l' := #[lI p0, lI p1, lI p2, lI p3, lJ p4, lS, lI (Int32.ofNat jcs.length), lI (own_ch p0), lI (own_ch p1), lI (own_ch p2), lR js, lR os_14, lI (own_e jcs p4), lI (own_p jcs), lI (1 : Int32), lI jn, lI (own_q jcs p4), lI (own_m p4), lJ (own_t (10 + 1) p4), lS, lU]) rfl) ?_
              show Go _ _ _ _ (T55.setTop (mkF m 588 #[lI p0, lI p1, lI p2, lI p3, lJ p4, lS, lI (Int32.ofNat jcs.length), lI (own_ch p0), lI (own_ch p1), lI (own_ch p2), lR js, lR os_14, lI (own_e jcs p4), lI (own_p jcs), lI (1 : Int32), lI jn, lI (own_q jcs p4), lI (own_m p4), lJ (own_t (10 + 1) p4), lS, lU] []))
              refine Go.st (fun _ => XS.lload X55.here hx rfl (hb hby at_588) rfl) ?_
              refine Go.st (fun _ => XS.aload X55.here hx rfl (hb hby at_590) rfl rfl) ?_
              refine Go.st (fun _ => XS.iload X55.here hx rfl (hb hby at_592) rfl) ?_
              refine Go.st (fun _ => XS.bipush X55.here hx rfl (hb hby at_594)) ?_
              show Go _ _ _ _ (T55.setTop (mkF m 596 #[lI p0, lI p1, lI p2, lI p3, lJ p4, lS, lI (Int32.ofNat jcs.length), lI (own_ch p0), lI (own_ch p1), lI (own_ch p2), lR js, lR os_14, lI (own_e jcs p4), lI (own_p jcs), lI (1 : Int32), lI jn, lI (own_q jcs p4), lI (own_m p4), lJ (own_t (10 + 1) p4), lS, lU] [(.int 11), (.int (own_q jcs p4)), (.ref os_14), (.long (own_t (10 + 1) p4))]))
              refine Go.st (fun _ => XS.iadd X55.here hx rfl (hb hby at_596) rfl) ?_
              show Go _ _ _ _ (T55.setTop (mkF m 597 #[lI p0, lI p1, lI p2, lI p3, lJ p4, lS, lI (Int32.ofNat jcs.length), lI (own_ch p0), lI (own_ch p1), lI (own_ch p2), lR js, lR os_14, lI (own_e jcs p4), lI (own_p jcs), lI (1 : Int32), lI jn, lI (own_q jcs p4), lI (own_m p4), lJ (own_t (10 + 1) p4), lS, lU] [(.int ((own_q jcs p4) + (11 : Int32))), (.ref os_14), (.long (own_t (10 + 1) p4))]))
              refine Go.st (fun _ => XS.iload X55.here hx rfl (hb hby at_597) rfl) ?_
              show Go _ _ _ _ (T55.setTop (mkF m 599 #[lI p0, lI p1, lI p2, lI p3, lJ p4, lS, lI (Int32.ofNat jcs.length), lI (own_ch p0), lI (own_ch p1), lI (own_ch p2), lR js, lR os_14, lI (own_e jcs p4), lI (own_p jcs), lI (1 : Int32), lI jn, lI (own_q jcs p4), lI (own_m p4), lJ (own_t (10 + 1) p4), lS, lU] [(.int (own_e jcs p4)), (.int ((own_q jcs p4) + (11 : Int32))), (.ref os_14), (.long (own_t (10 + 1) p4))]))
              obtain ⟨_, _, ⟨T56, L56, k56, n56⟩, -, X56, ⟨Lc56, hQ56, l56, y56, z56⟩, st56⟩ := Jvm.LawKit.callS X55 hx (y := (⟨"com/example/strikeboard/strikeboard/engine/ColumnToStringPinLaw", "step", "(JLjava/lang/String;II)J"⟩ : MethodName)) hown9 (mvT hZ9 (ow hw 229 rfl)) (mvT hZ9 (ow hw 230 rfl)) (mvT hZ9 (ow hw 231 rfl)) (mvT hZ9 (ow hw 232 rfl)) (by decide) (backOf (W := 0) (rm_step l Z a0 hw [] g_CS S_CS nz_CS g_SF S_SF r_SF (own_t (10 + 1) p4) os_14 ((own_q jcs p4) + (11 : Int32)) (own_e jcs p4) (own_RC jcs p4) ob_15 kb_16 p4 (8 + jcs.length + (own_sg p4).length) 11 T9.heap n0 O9 q9_1 q9_2 q9_3 q9_4 (own_smallRC p4 hpcj) (own_leRC p4 hl3) rfl (own_addj 11 rfl) (own_eRC jcs p4) (own_b4000 p4 hl3 (by decide)) (own_getRC jcs p4)) hZ9 (ow hw 232 rfl) (ow hw 231 rfl) (by decide) (by decide)) (g := (mkF m 599 #[lI p0, lI p1, lI p2, lI p3, lJ p4, lS, lI (Int32.ofNat jcs.length), lI (own_ch p0), lI (own_ch p1), lI (own_ch p2), lR js, lR os_14, lI (own_e jcs p4), lI (own_p jcs), lI (1 : Int32), lI jn, lI (own_q jcs p4), lI (own_m p4), lJ (own_t (10 + 1) p4), lS, lU] [(.int (own_e jcs p4)), (.int ((own_q jcs p4) + (11 : Int32))), (.ref os_14), (.long (own_t (10 + 1) p4))])) rfl (by rw [hml]; rfl) (argsL := [(.long (own_t (10 + 1) p4)), (.ref os_14), (.int ((own_q jcs p4) + (11 : Int32))), (.int (own_e jcs p4))]) (rest := []) (lenOf own_pd29 rfl) rfl (by show 2 * 0 + _ ≤ _; exact Nat.le_of_eq rfl) (hb hby at_599) (fun _ _ => ⟨rfl, e55, (by decide : 18 + 0 ≤ _), (by decide : 208 + 0 ≤ _)⟩)
              dsimp only [Pt.U, Pt.locs, Pt.cells, Pt.slots] at X56 l56 y56 z56 st56 hQ56
              subst y56 z56
              refine Go.st st56 ?_
              obtain ⟨rfl, N56q, e56⟩ := hQ56
              have N56 : Fr n0 L56 := by rw [l56]; exact Fr.app N55 N56q
              show Go _ _ _ _ (T56.setTop (mkF m 602 #[lI p0, lI p1, lI p2, lI p3, lJ p4, lS, lI (Int32.ofNat jcs.length), lI (own_ch p0), lI (own_ch p1), lI (own_ch p2), lR js, lR os_14, lI (own_e jcs p4), lI (own_p jcs), lI (1 : Int32), lI jn, lI (own_q jcs p4), lI (own_m p4), lJ (own_t (10 + 1) p4), lS, lU] [(.long (own_t (11 + 1) p4))]))
              refine Go.st (fun _ => XS.lstore X56.here hx rfl (hb hby at_602) rfl (l' := #[lI p0, lI p1, lI p2, lI p3, lJ p4, lS, lI (Int32.ofNat jcs.length), lI (own_ch p0), lI (own_ch p1), lI (own_ch p2), lR js, lR os_14, lI (own_e jcs p4), lI (own_p jcs), lI (1 : Int32), lI jn, lI (own_q jcs p4), lI (own_m p4), lJ (own_t (11 + 1) p4), lS, lU]) rfl) ?_
              show Go _ _ _ _ (T56.setTop (mkF m 604 #[lI p0, lI p1, lI p2, lI p3, lJ p4, lS, lI (Int32.ofNat jcs.length), lI (own_ch p0), lI (own_ch p1), lI (own_ch p2), lR js, lR os_14, lI (own_e jcs p4), lI (own_p jcs), lI (1 : Int32), lI jn, lI (own_q jcs p4), lI (own_m p4), lJ (own_t (11 + 1) p4), lS, lU] []))
              refine Go.st (fun _ => XS.lload X56.here hx rfl (hb hby at_604) rfl) ?_
              refine Go.st (fun _ => XS.aload X56.here hx rfl (hb hby at_606) rfl rfl) ?_
              refine Go.st (fun _ => XS.iload X56.here hx rfl (hb hby at_608) rfl) ?_
              refine Go.st (fun _ => XS.bipush X56.here hx rfl (hb hby at_610)) ?_
              show Go _ _ _ _ (T56.setTop (mkF m 612 #[lI p0, lI p1, lI p2, lI p3, lJ p4, lS, lI (Int32.ofNat jcs.length), lI (own_ch p0), lI (own_ch p1), lI (own_ch p2), lR js, lR os_14, lI (own_e jcs p4), lI (own_p jcs), lI (1 : Int32), lI jn, lI (own_q jcs p4), lI (own_m p4), lJ (own_t (11 + 1) p4), lS, lU] [(.int 12), (.int (own_q jcs p4)), (.ref os_14), (.long (own_t (11 + 1) p4))]))
              refine Go.st (fun _ => XS.iadd X56.here hx rfl (hb hby at_612) rfl) ?_
              show Go _ _ _ _ (T56.setTop (mkF m 613 #[lI p0, lI p1, lI p2, lI p3, lJ p4, lS, lI (Int32.ofNat jcs.length), lI (own_ch p0), lI (own_ch p1), lI (own_ch p2), lR js, lR os_14, lI (own_e jcs p4), lI (own_p jcs), lI (1 : Int32), lI jn, lI (own_q jcs p4), lI (own_m p4), lJ (own_t (11 + 1) p4), lS, lU] [(.int ((own_q jcs p4) + (12 : Int32))), (.ref os_14), (.long (own_t (11 + 1) p4))]))
              refine Go.st (fun _ => XS.iload X56.here hx rfl (hb hby at_613) rfl) ?_
              show Go _ _ _ _ (T56.setTop (mkF m 615 #[lI p0, lI p1, lI p2, lI p3, lJ p4, lS, lI (Int32.ofNat jcs.length), lI (own_ch p0), lI (own_ch p1), lI (own_ch p2), lR js, lR os_14, lI (own_e jcs p4), lI (own_p jcs), lI (1 : Int32), lI jn, lI (own_q jcs p4), lI (own_m p4), lJ (own_t (11 + 1) p4), lS, lU] [(.int (own_e jcs p4)), (.int ((own_q jcs p4) + (12 : Int32))), (.ref os_14), (.long (own_t (11 + 1) p4))]))
              obtain ⟨_, _, ⟨T57, L57, k57, n57⟩, -, X57, ⟨Lc57, hQ57, l57, y57, z57⟩, st57⟩ := Jvm.LawKit.callS X56 hx (y := (⟨"com/example/strikeboard/strikeboard/engine/ColumnToStringPinLaw", "step", "(JLjava/lang/String;II)J"⟩ : MethodName)) hown9 (mvT hZ9 (ow hw 229 rfl)) (mvT hZ9 (ow hw 230 rfl)) (mvT hZ9 (ow hw 231 rfl)) (mvT hZ9 (ow hw 232 rfl)) (by decide) (backOf (W := 0) (rm_step l Z a0 hw [] g_CS S_CS nz_CS g_SF S_SF r_SF (own_t (11 + 1) p4) os_14 ((own_q jcs p4) + (12 : Int32)) (own_e jcs p4) (own_RC jcs p4) ob_15 kb_16 p4 (8 + jcs.length + (own_sg p4).length) 12 T9.heap n0 O9 q9_1 q9_2 q9_3 q9_4 (own_smallRC p4 hpcj) (own_leRC p4 hl3) rfl (own_addj 12 rfl) (own_eRC jcs p4) (own_b4000 p4 hl3 (by decide)) (own_getRC jcs p4)) hZ9 (ow hw 232 rfl) (ow hw 231 rfl) (by decide) (by decide)) (g := (mkF m 615 #[lI p0, lI p1, lI p2, lI p3, lJ p4, lS, lI (Int32.ofNat jcs.length), lI (own_ch p0), lI (own_ch p1), lI (own_ch p2), lR js, lR os_14, lI (own_e jcs p4), lI (own_p jcs), lI (1 : Int32), lI jn, lI (own_q jcs p4), lI (own_m p4), lJ (own_t (11 + 1) p4), lS, lU] [(.int (own_e jcs p4)), (.int ((own_q jcs p4) + (12 : Int32))), (.ref os_14), (.long (own_t (11 + 1) p4))])) rfl (by rw [hml]; rfl) (argsL := [(.long (own_t (11 + 1) p4)), (.ref os_14), (.int ((own_q jcs p4) + (12 : Int32))), (.int (own_e jcs p4))]) (rest := []) (lenOf own_pd29 rfl) rfl (by show 2 * 0 + _ ≤ _; exact Nat.le_of_eq rfl) (hb hby at_615) (fun _ _ => ⟨rfl, e56, (by decide : 18 + 0 ≤ _), (by decide : 208 + 0 ≤ _)⟩)
              dsimp only [Pt.U, Pt.locs, Pt.cells, Pt.slots] at X57 l57 y57 z57 st57 hQ57
              subst y57 z57
              refine Go.st st57 ?_
              obtain ⟨rfl, N57q, e57⟩ := hQ57
              have N57 : Fr n0 L57 := by rw [l57]; exact Fr.app N56 N57q
              show Go _ _ _ _ (T57.setTop (mkF m 618 #[lI p0, lI p1, lI p2, lI p3, lJ p4, lS, lI (Int32.ofNat jcs.length), lI (own_ch p0), lI (own_ch p1), lI (own_ch p2), lR js, lR os_14, lI (own_e jcs p4), lI (own_p jcs), lI (1 : Int32), lI jn, lI (own_q jcs p4), lI (own_m p4), lJ (own_t (11 + 1) p4), lS, lU] [(.long (own_t (12 + 1) p4))]))
              refine Go.st (fun _ => XS.lstore X57.here hx rfl (hb hby at_618) rfl (l' := #[lI p0, lI p1, lI p2, lI p3, lJ p4, lS, lI (Int32.ofNat jcs.length), lI (own_ch p0), lI (own_ch p1), lI (own_ch p2), lR js, lR os_14, lI (own_e jcs p4), lI (own_p jcs), lI (1 : Int32), lI jn, lI (own_q jcs p4), lI (own_m p4), lJ (own_t (12 + 1) p4), lS, lU]) rfl) ?_
              show Go _ _ _ _ (T57.setTop (mkF m 620 #[lI p0, lI p1, lI p2, lI p3, lJ p4, lS, lI (Int32.ofNat jcs.length), lI (own_ch p0), lI (own_ch p1), lI (own_ch p2), lR js, lR os_14, lI (own_e jcs p4), lI (own_p jcs), lI (1 : Int32), lI jn, lI (own_q jcs p4), lI (own_m p4), lJ (own_t (12 + 1) p4), lS, lU] []))
              refine Go.st (fun _ => XS.lload X57.here hx rfl (hb hby at_620) rfl) ?_
              refine Go.st (fun _ => XS.aload X57.here hx rfl (hb hby at_622) rfl rfl) ?_
              refine Go.st (fun _ => XS.iload X57.here hx rfl (hb hby at_624) rfl) ?_
              refine Go.st (fun _ => XS.bipush X57.here hx rfl (hb hby at_626)) ?_
              show Go _ _ _ _ (T57.setTop (mkF m 628 #[lI p0, lI p1, lI p2, lI p3, lJ p4, lS, lI (Int32.ofNat jcs.length), lI (own_ch p0), lI (own_ch p1), lI (own_ch p2), lR js, lR os_14, lI (own_e jcs p4), lI (own_p jcs), lI (1 : Int32), lI jn, lI (own_q jcs p4), lI (own_m p4), lJ (own_t (12 + 1) p4), lS, lU] [(.int 13), (.int (own_q jcs p4)), (.ref os_14), (.long (own_t (12 + 1) p4))]))
              refine Go.st (fun _ => XS.iadd X57.here hx rfl (hb hby at_628) rfl) ?_
              show Go _ _ _ _ (T57.setTop (mkF m 629 #[lI p0, lI p1, lI p2, lI p3, lJ p4, lS, lI (Int32.ofNat jcs.length), lI (own_ch p0), lI (own_ch p1), lI (own_ch p2), lR js, lR os_14, lI (own_e jcs p4), lI (own_p jcs), lI (1 : Int32), lI jn, lI (own_q jcs p4), lI (own_m p4), lJ (own_t (12 + 1) p4), lS, lU] [(.int ((own_q jcs p4) + (13 : Int32))), (.ref os_14), (.long (own_t (12 + 1) p4))]))
              refine Go.st (fun _ => XS.iload X57.here hx rfl (hb hby at_629) rfl) ?_
              show Go _ _ _ _ (T57.setTop (mkF m 631 #[lI p0, lI p1, lI p2, lI p3, lJ p4, lS, lI (Int32.ofNat jcs.length), lI (own_ch p0), lI (own_ch p1), lI (own_ch p2), lR js, lR os_14, lI (own_e jcs p4), lI (own_p jcs), lI (1 : Int32), lI jn, lI (own_q jcs p4), lI (own_m p4), lJ (own_t (12 + 1) p4), lS, lU] [(.int (own_e jcs p4)), (.int ((own_q jcs p4) + (13 : Int32))), (.ref os_14), (.long (own_t (12 + 1) p4))]))
              obtain ⟨_, _, ⟨T58, L58, k58, n58⟩, -, X58, ⟨Lc58, hQ58, l58, y58, z58⟩, st58⟩ := Jvm.LawKit.callS X57 hx (y := (⟨"com/example/strikeboard/strikeboard/engine/ColumnToStringPinLaw", "step", "(JLjava/lang/String;II)J"⟩ : MethodName)) hown9 (mvT hZ9 (ow hw 229 rfl)) (mvT hZ9 (ow hw 230 rfl)) (mvT hZ9 (ow hw 231 rfl)) (mvT hZ9 (ow hw 232 rfl)) (by decide) (backOf (W := 0) (rm_step l Z a0 hw [] g_CS S_CS nz_CS g_SF S_SF r_SF (own_t (12 + 1) p4) os_14 ((own_q jcs p4) + (13 : Int32)) (own_e jcs p4) (own_RC jcs p4) ob_15 kb_16 p4 (8 + jcs.length + (own_sg p4).length) 13 T9.heap n0 O9 q9_1 q9_2 q9_3 q9_4 (own_smallRC p4 hpcj) (own_leRC p4 hl3) rfl (own_addj 13 rfl) (own_eRC jcs p4) (own_b4000 p4 hl3 (by decide)) (own_getRC jcs p4)) hZ9 (ow hw 232 rfl) (ow hw 231 rfl) (by decide) (by decide)) (g := (mkF m 631 #[lI p0, lI p1, lI p2, lI p3, lJ p4, lS, lI (Int32.ofNat jcs.length), lI (own_ch p0), lI (own_ch p1), lI (own_ch p2), lR js, lR os_14, lI (own_e jcs p4), lI (own_p jcs), lI (1 : Int32), lI jn, lI (own_q jcs p4), lI (own_m p4), lJ (own_t (12 + 1) p4), lS, lU] [(.int (own_e jcs p4)), (.int ((own_q jcs p4) + (13 : Int32))), (.ref os_14), (.long (own_t (12 + 1) p4))])) rfl (by rw [hml]; rfl) (argsL := [(.long (own_t (12 + 1) p4)), (.ref os_14), (.int ((own_q jcs p4) + (13 : Int32))), (.int (own_e jcs p4))]) (rest := []) (lenOf own_pd29 rfl) rfl (by show 2 * 0 + _ ≤ _; exact Nat.le_of_eq rfl) (hb hby at_631) (fun _ _ => ⟨rfl, e57, (by decide : 18 + 0 ≤ _), (by decide : 208 + 0 ≤ _)⟩)
              dsimp only [Pt.U, Pt.locs, Pt.cells, Pt.slots] at X58 l58 y58 z58 st58 hQ58
              subst y58 z58
              refine Go.st st58 ?_
              obtain ⟨rfl, N58q, e58⟩ := hQ58
              have N58 : Fr n0 L58 := by rw [l58]; exact Fr.app N57 N58q
              show Go _ _ _ _ (T58.setTop (mkF m 634 #[lI p0, lI p1, lI p2, lI p3, lJ p4, lS, lI (Int32.ofNat jcs.length), lI (own_ch p0), lI (own_ch p1), lI (own_ch p2), lR js, lR os_14, lI (own_e jcs p4), lI (own_p jcs), lI (1 : Int32), lI jn, lI (own_q jcs p4), lI (own_m p4), lJ (own_t (12 + 1) p4), lS, lU] [(.long (own_t (13 + 1) p4))]))
              refine Go.st (fun _ => XS.lstore X58.here hx rfl (hb hby at_634) rfl (l' := #[lI p0, lI p1, lI p2, lI p3, lJ p4, lS, lI (Int32.ofNat jcs.length), lI (own_ch p0), lI (own_ch p1), lI (own_ch p2), lR js, lR os_14, lI (own_e jcs p4), lI (own_p jcs), lI (1 : Int32), lI jn, lI (own_q jcs p4), lI (own_m p4), lJ (own_t (13 + 1) p4), lS, lU]) rfl) ?_
              show Go _ _ _ _ (T58.setTop (mkF m 636 #[lI p0, lI p1, lI p2, lI p3, lJ p4, lS, lI (Int32.ofNat jcs.length), lI (own_ch p0), lI (own_ch p1), lI (own_ch p2), lR js, lR os_14, lI (own_e jcs p4), lI (own_p jcs), lI (1 : Int32), lI jn, lI (own_q jcs p4), lI (own_m p4), lJ (own_t (13 + 1) p4), lS, lU] []))
              refine Go.st (fun _ => XS.lload X58.here hx rfl (hb hby at_636) rfl) ?_
              refine Go.st (fun _ => XS.aload X58.here hx rfl (hb hby at_638) rfl rfl) ?_
              refine Go.st (fun _ => XS.iload X58.here hx rfl (hb hby at_640) rfl) ?_
              refine Go.st (fun _ => XS.bipush X58.here hx rfl (hb hby at_642)) ?_
              show Go _ _ _ _ (T58.setTop (mkF m 644 #[lI p0, lI p1, lI p2, lI p3, lJ p4, lS, lI (Int32.ofNat jcs.length), lI (own_ch p0), lI (own_ch p1), lI (own_ch p2), lR js, lR os_14, lI (own_e jcs p4), lI (own_p jcs), lI (1 : Int32), lI jn, lI (own_q jcs p4), lI (own_m p4), lJ (own_t (13 + 1) p4), lS, lU] [(.int 14), (.int (own_q jcs p4)), (.ref os_14), (.long (own_t (13 + 1) p4))]))
              refine Go.st (fun _ => XS.iadd X58.here hx rfl (hb hby at_644) rfl) ?_
              show Go _ _ _ _ (T58.setTop (mkF m 645 #[lI p0, lI p1, lI p2, lI p3, lJ p4, lS, lI (Int32.ofNat jcs.length), lI (own_ch p0), lI (own_ch p1), lI (own_ch p2), lR js, lR os_14, lI (own_e jcs p4), lI (own_p jcs), lI (1 : Int32), lI jn, lI (own_q jcs p4), lI (own_m p4), lJ (own_t (13 + 1) p4), lS, lU] [(.int ((own_q jcs p4) + (14 : Int32))), (.ref os_14), (.long (own_t (13 + 1) p4))]))
              refine Go.st (fun _ => XS.iload X58.here hx rfl (hb hby at_645) rfl) ?_
              show Go _ _ _ _ (T58.setTop (mkF m 647 #[lI p0, lI p1, lI p2, lI p3, lJ p4, lS, lI (Int32.ofNat jcs.length), lI (own_ch p0), lI (own_ch p1), lI (own_ch p2), lR js, lR os_14, lI (own_e jcs p4), lI (own_p jcs), lI (1 : Int32), lI jn, lI (own_q jcs p4), lI (own_m p4), lJ (own_t (13 + 1) p4), lS, lU] [(.int (own_e jcs p4)), (.int ((own_q jcs p4) + (14 : Int32))), (.ref os_14), (.long (own_t (13 + 1) p4))]))
              obtain ⟨_, _, ⟨T59, L59, k59, n59⟩, -, X59, ⟨Lc59, hQ59, l59, y59, z59⟩, st59⟩ := Jvm.LawKit.callS X58 hx (y := (⟨"com/example/strikeboard/strikeboard/engine/ColumnToStringPinLaw", "step", "(JLjava/lang/String;II)J"⟩ : MethodName)) hown9 (mvT hZ9 (ow hw 229 rfl)) (mvT hZ9 (ow hw 230 rfl)) (mvT hZ9 (ow hw 231 rfl)) (mvT hZ9 (ow hw 232 rfl)) (by decide) (backOf (W := 0) (rm_step l Z a0 hw [] g_CS S_CS nz_CS g_SF S_SF r_SF (own_t (13 + 1) p4) os_14 ((own_q jcs p4) + (14 : Int32)) (own_e jcs p4) (own_RC jcs p4) ob_15 kb_16 p4 (8 + jcs.length + (own_sg p4).length) 14 T9.heap n0 O9 q9_1 q9_2 q9_3 q9_4 (own_smallRC p4 hpcj) (own_leRC p4 hl3) rfl (own_addj 14 rfl) (own_eRC jcs p4) (own_b4000 p4 hl3 (by decide)) (own_getRC jcs p4)) hZ9 (ow hw 232 rfl) (ow hw 231 rfl) (by decide) (by decide)) (g := (mkF m 647 #[lI p0, lI p1, lI p2, lI p3, lJ p4, lS, lI (Int32.ofNat jcs.length), lI (own_ch p0), lI (own_ch p1), lI (own_ch p2), lR js, lR os_14, lI (own_e jcs p4), lI (own_p jcs), lI (1 : Int32), lI jn, lI (own_q jcs p4), lI (own_m p4), lJ (own_t (13 + 1) p4), lS, lU] [(.int (own_e jcs p4)), (.int ((own_q jcs p4) + (14 : Int32))), (.ref os_14), (.long (own_t (13 + 1) p4))])) rfl (by rw [hml]; rfl) (argsL := [(.long (own_t (13 + 1) p4)), (.ref os_14), (.int ((own_q jcs p4) + (14 : Int32))), (.int (own_e jcs p4))]) (rest := []) (lenOf own_pd29 rfl) rfl (by show 2 * 0 + _ ≤ _; exact Nat.le_of_eq rfl) (hb hby at_647) (fun _ _ => ⟨rfl, e58, (by decide : 18 + 0 ≤ _), (by decide : 208 + 0 ≤ _)⟩)
              dsimp only [Pt.U, Pt.locs, Pt.cells, Pt.slots] at X59 l59 y59 z59 st59 hQ59
              subst y59 z59
              refine Go.st st59 ?_
              obtain ⟨rfl, N59q, e59⟩ := hQ59
              have N59 : Fr n0 L59 := by rw [l59]; exact Fr.app N58 N59q
              show Go _ _ _ _ (T59.setTop (mkF m 650 #[lI p0, lI p1, lI p2, lI p3, lJ p4, lS, lI (Int32.ofNat jcs.length), lI (own_ch p0), lI (own_ch p1), lI (own_ch p2), lR js, lR os_14, lI (own_e jcs p4), lI (own_p jcs), lI (1 : Int32), lI jn, lI (own_q jcs p4), lI (own_m p4), lJ (own_t (13 + 1) p4), lS, lU] [(.long (own_t (14 + 1) p4))]))
              refine Go.st (fun _ => XS.lstore X59.here hx rfl (hb hby at_650) rfl (l' := #[lI p0, lI p1, lI p2, lI p3, lJ p4, lS, lI (Int32.ofNat jcs.length), lI (own_ch p0), lI (own_ch p1), lI (own_ch p2), lR js, lR os_14, lI (own_e jcs p4), lI (own_p jcs), lI (1 : Int32), lI jn, lI (own_q jcs p4), lI (own_m p4), lJ (own_t (14 + 1) p4), lS, lU]) rfl) ?_
              show Go _ _ _ _ (T59.setTop (mkF m 652 #[lI p0, lI p1, lI p2, lI p3, lJ p4, lS, lI (Int32.ofNat jcs.length), lI (own_ch p0), lI (own_ch p1), lI (own_ch p2), lR js, lR os_14, lI (own_e jcs p4), lI (own_p jcs), lI (1 : Int32), lI jn, lI (own_q jcs p4), lI (own_m p4), lJ (own_t (14 + 1) p4), lS, lU] []))
              refine Go.st (fun _ => XS.lload X59.here hx rfl (hb hby at_652) rfl) ?_
              refine Go.st (fun _ => XS.aload X59.here hx rfl (hb hby at_654) rfl rfl) ?_
              refine Go.st (fun _ => XS.iload X59.here hx rfl (hb hby at_656) rfl) ?_
              refine Go.st (fun _ => XS.bipush X59.here hx rfl (hb hby at_658)) ?_
              show Go _ _ _ _ (T59.setTop (mkF m 660 #[lI p0, lI p1, lI p2, lI p3, lJ p4, lS, lI (Int32.ofNat jcs.length), lI (own_ch p0), lI (own_ch p1), lI (own_ch p2), lR js, lR os_14, lI (own_e jcs p4), lI (own_p jcs), lI (1 : Int32), lI jn, lI (own_q jcs p4), lI (own_m p4), lJ (own_t (14 + 1) p4), lS, lU] [(.int 15), (.int (own_q jcs p4)), (.ref os_14), (.long (own_t (14 + 1) p4))]))
              refine Go.st (fun _ => XS.iadd X59.here hx rfl (hb hby at_660) rfl) ?_
              show Go _ _ _ _ (T59.setTop (mkF m 661 #[lI p0, lI p1, lI p2, lI p3, lJ p4, lS, lI (Int32.ofNat jcs.length), lI (own_ch p0), lI (own_ch p1), lI (own_ch p2), lR js, lR os_14, lI (own_e jcs p4), lI (own_p jcs), lI (1 : Int32), lI jn, lI (own_q jcs p4), lI (own_m p4), lJ (own_t (14 + 1) p4), lS, lU] [(.int ((own_q jcs p4) + (15 : Int32))), (.ref os_14), (.long (own_t (14 + 1) p4))]))
              refine Go.st (fun _ => XS.iload X59.here hx rfl (hb hby at_661) rfl) ?_
              show Go _ _ _ _ (T59.setTop (mkF m 663 #[lI p0, lI p1, lI p2, lI p3, lJ p4, lS, lI (Int32.ofNat jcs.length), lI (own_ch p0), lI (own_ch p1), lI (own_ch p2), lR js, lR os_14, lI (own_e jcs p4), lI (own_p jcs), lI (1 : Int32), lI jn, lI (own_q jcs p4), lI (own_m p4), lJ (own_t (14 + 1) p4), lS, lU] [(.int (own_e jcs p4)), (.int ((own_q jcs p4) + (15 : Int32))), (.ref os_14), (.long (own_t (14 + 1) p4))]))
              obtain ⟨_, _, ⟨T60, L60, k60, n60⟩, -, X60, ⟨Lc60, hQ60, l60, y60, z60⟩, st60⟩ := Jvm.LawKit.callS X59 hx (y := (⟨"com/example/strikeboard/strikeboard/engine/ColumnToStringPinLaw", "step", "(JLjava/lang/String;II)J"⟩ : MethodName)) hown9 (mvT hZ9 (ow hw 229 rfl)) (mvT hZ9 (ow hw 230 rfl)) (mvT hZ9 (ow hw 231 rfl)) (mvT hZ9 (ow hw 232 rfl)) (by decide) (backOf (W := 0) (rm_step l Z a0 hw [] g_CS S_CS nz_CS g_SF S_SF r_SF (own_t (14 + 1) p4) os_14 ((own_q jcs p4) + (15 : Int32)) (own_e jcs p4) (own_RC jcs p4) ob_15 kb_16 p4 (8 + jcs.length + (own_sg p4).length) 15 T9.heap n0 O9 q9_1 q9_2 q9_3 q9_4 (own_smallRC p4 hpcj) (own_leRC p4 hl3) rfl (own_addj 15 rfl) (own_eRC jcs p4) (own_b4000 p4 hl3 (by decide)) (own_getRC jcs p4)) hZ9 (ow hw 232 rfl) (ow hw 231 rfl) (by decide) (by decide)) (g := (mkF m 663 #[lI p0, lI p1, lI p2, lI p3, lJ p4, lS, lI (Int32.ofNat jcs.length), lI (own_ch p0), lI (own_ch p1), lI (own_ch p2), lR js, lR os_14, lI (own_e jcs p4), lI (own_p jcs), lI (1 : Int32), lI jn, lI (own_q jcs p4), lI (own_m p4), lJ (own_t (14 + 1) p4), lS, lU] [(.int (own_e jcs p4)), (.int ((own_q jcs p4) + (15 : Int32))), (.ref os_14), (.long (own_t (14 + 1) p4))])) rfl (by rw [hml]; rfl) (argsL := [(.long (own_t (14 + 1) p4)), (.ref os_14), (.int ((own_q jcs p4) + (15 : Int32))), (.int (own_e jcs p4))]) (rest := []) (lenOf own_pd29 rfl) rfl (by show 2 * 0 + _ ≤ _; exact Nat.le_of_eq rfl) (hb hby at_663) (fun _ _ => ⟨rfl, e59, (by decide : 18 + 0 ≤ _), (by decide : 208 + 0 ≤ _)⟩)
              dsimp only [Pt.U, Pt.locs, Pt.cells, Pt.slots] at X60 l60 y60 z60 st60 hQ60
              subst y60 z60
              refine Go.st st60 ?_
              obtain ⟨rfl, N60q, e60⟩ := hQ60
              have N60 : Fr n0 L60 := by rw [l60]; exact Fr.app N59 N60q
              show Go _ _ _ _ (T60.setTop (mkF m 666 #[lI p0, lI p1, lI p2, lI p3, lJ p4, lS, lI (Int32.ofNat jcs.length), lI (own_ch p0), lI (own_ch p1), lI (own_ch p2), lR js, lR os_14, lI (own_e jcs p4), lI (own_p jcs), lI (1 : Int32), lI jn, lI (own_q jcs p4), lI (own_m p4), lJ (own_t (14 + 1) p4), lS, lU] [(.long (own_t (15 + 1) p4))]))
              refine Go.st (fun _ => XS.lstore X60.here hx rfl (hb hby at_666) rfl (l' := #[lI p0, lI p1, lI p2, lI p3, lJ p4, lS, lI (Int32.ofNat jcs.length), lI (own_ch p0), lI (own_ch p1), lI (own_ch p2), lR js, lR os_14, lI (own_e jcs p4), lI (own_p jcs), lI (1 : Int32), lI jn, lI (own_q jcs p4), lI (own_m p4), lJ (own_t (15 + 1) p4), lS, lU]) rfl) ?_
              show Go _ _ _ _ (T60.setTop (mkF m 668 #[lI p0, lI p1, lI p2, lI p3, lJ p4, lS, lI (Int32.ofNat jcs.length), lI (own_ch p0), lI (own_ch p1), lI (own_ch p2), lR js, lR os_14, lI (own_e jcs p4), lI (own_p jcs), lI (1 : Int32), lI jn, lI (own_q jcs p4), lI (own_m p4), lJ (own_t (15 + 1) p4), lS, lU] []))
              refine Go.st (fun _ => XS.lload X60.here hx rfl (hb hby at_668) rfl) ?_
              refine Go.st (fun _ => XS.aload X60.here hx rfl (hb hby at_670) rfl rfl) ?_
              refine Go.st (fun _ => XS.iload X60.here hx rfl (hb hby at_672) rfl) ?_
              refine Go.st (fun _ => XS.bipush X60.here hx rfl (hb hby at_674)) ?_
              show Go _ _ _ _ (T60.setTop (mkF m 676 #[lI p0, lI p1, lI p2, lI p3, lJ p4, lS, lI (Int32.ofNat jcs.length), lI (own_ch p0), lI (own_ch p1), lI (own_ch p2), lR js, lR os_14, lI (own_e jcs p4), lI (own_p jcs), lI (1 : Int32), lI jn, lI (own_q jcs p4), lI (own_m p4), lJ (own_t (15 + 1) p4), lS, lU] [(.int 16), (.int (own_q jcs p4)), (.ref os_14), (.long (own_t (15 + 1) p4))]))
              refine Go.st (fun _ => XS.iadd X60.here hx rfl (hb hby at_676) rfl) ?_
              show Go _ _ _ _ (T60.setTop (mkF m 677 #[lI p0, lI p1, lI p2, lI p3, lJ p4, lS, lI (Int32.ofNat jcs.length), lI (own_ch p0), lI (own_ch p1), lI (own_ch p2), lR js, lR os_14, lI (own_e jcs p4), lI (own_p jcs), lI (1 : Int32), lI jn, lI (own_q jcs p4), lI (own_m p4), lJ (own_t (15 + 1) p4), lS, lU] [(.int ((own_q jcs p4) + (16 : Int32))), (.ref os_14), (.long (own_t (15 + 1) p4))]))
              refine Go.st (fun _ => XS.iload X60.here hx rfl (hb hby at_677) rfl) ?_
              show Go _ _ _ _ (T60.setTop (mkF m 679 #[lI p0, lI p1, lI p2, lI p3, lJ p4, lS, lI (Int32.ofNat jcs.length), lI (own_ch p0), lI (own_ch p1), lI (own_ch p2), lR js, lR os_14, lI (own_e jcs p4), lI (own_p jcs), lI (1 : Int32), lI jn, lI (own_q jcs p4), lI (own_m p4), lJ (own_t (15 + 1) p4), lS, lU] [(.int (own_e jcs p4)), (.int ((own_q jcs p4) + (16 : Int32))), (.ref os_14), (.long (own_t (15 + 1) p4))]))
              obtain ⟨_, _, ⟨T61, L61, k61, n61⟩, -, X61, ⟨Lc61, hQ61, l61, y61, z61⟩, st61⟩ := Jvm.LawKit.callS X60 hx (y := (⟨"com/example/strikeboard/strikeboard/engine/ColumnToStringPinLaw", "step", "(JLjava/lang/String;II)J"⟩ : MethodName)) hown9 (mvT hZ9 (ow hw 229 rfl)) (mvT hZ9 (ow hw 230 rfl)) (mvT hZ9 (ow hw 231 rfl)) (mvT hZ9 (ow hw 232 rfl)) (by decide) (backOf (W := 0) (rm_step l Z a0 hw [] g_CS S_CS nz_CS g_SF S_SF r_SF (own_t (15 + 1) p4) os_14 ((own_q jcs p4) + (16 : Int32)) (own_e jcs p4) (own_RC jcs p4) ob_15 kb_16 p4 (8 + jcs.length + (own_sg p4).length) 16 T9.heap n0 O9 q9_1 q9_2 q9_3 q9_4 (own_smallRC p4 hpcj) (own_leRC p4 hl3) rfl (own_addj 16 rfl) (own_eRC jcs p4) (own_b4000 p4 hl3 (by decide)) (own_getRC jcs p4)) hZ9 (ow hw 232 rfl) (ow hw 231 rfl) (by decide) (by decide)) (g := (mkF m 679 #[lI p0, lI p1, lI p2, lI p3, lJ p4, lS, lI (Int32.ofNat jcs.length), lI (own_ch p0), lI (own_ch p1), lI (own_ch p2), lR js, lR os_14, lI (own_e jcs p4), lI (own_p jcs), lI (1 : Int32), lI jn, lI (own_q jcs p4), lI (own_m p4), lJ (own_t (15 + 1) p4), lS, lU] [(.int (own_e jcs p4)), (.int ((own_q jcs p4) + (16 : Int32))), (.ref os_14), (.long (own_t (15 + 1) p4))])) rfl (by rw [hml]; rfl) (argsL := [(.long (own_t (15 + 1) p4)), (.ref os_14), (.int ((own_q jcs p4) + (16 : Int32))), (.int (own_e jcs p4))]) (rest := []) (lenOf own_pd29 rfl) rfl (by show 2 * 0 + _ ≤ _; exact Nat.le_of_eq rfl) (hb hby at_679) (fun _ _ => ⟨rfl, e60, (by decide : 18 + 0 ≤ _), (by decide : 208 + 0 ≤ _)⟩)
              dsimp only [Pt.U, Pt.locs, Pt.cells, Pt.slots] at X61 l61 y61 z61 st61 hQ61
              subst y61 z61
              refine Go.st st61 ?_
              obtain ⟨rfl, N61q, e61⟩ := hQ61
              have N61 : Fr n0 L61 := by rw [l61]; exact Fr.app N60 N61q
              show Go _ _ _ _ (T61.setTop (mkF m 682 #[lI p0, lI p1, lI p2, lI p3, lJ p4, lS, lI (Int32.ofNat jcs.length), lI (own_ch p0), lI (own_ch p1), lI (own_ch p2), lR js, lR os_14, lI (own_e jcs p4), lI (own_p jcs), lI (1 : Int32), lI jn, lI (own_q jcs p4), lI (own_m p4), lJ (own_t (15 + 1) p4), lS, lU] [(.long (own_t (16 + 1) p4))]))
              refine Go.st (fun _ => XS.lstore X61.here hx rfl (hb hby at_682) rfl (l' := #[lI p0, lI p1, lI p2, lI p3, lJ p4, lS, lI (Int32.ofNat jcs.length), lI (own_ch p0), lI (own_ch p1), lI (own_ch p2), lR js, lR os_14, lI (own_e jcs p4), lI (own_p jcs), lI (1 : Int32), lI jn, lI (own_q jcs p4), lI (own_m p4), lJ (own_t (16 + 1) p4), lS, lU]) rfl) ?_
              show Go _ _ _ _ (T61.setTop (mkF m 684 #[lI p0, lI p1, lI p2, lI p3, lJ p4, lS, lI (Int32.ofNat jcs.length), lI (own_ch p0), lI (own_ch p1), lI (own_ch p2), lR js, lR os_14, lI (own_e jcs p4), lI (own_p jcs), lI (1 : Int32), lI jn, lI (own_q jcs p4), lI (own_m p4), lJ (own_t (16 + 1) p4), lS, lU] []))
              refine Go.st (fun _ => XS.lload X61.here hx rfl (hb hby at_684) rfl) ?_
              refine Go.st (fun _ => XS.aload X61.here hx rfl (hb hby at_686) rfl rfl) ?_
              refine Go.st (fun _ => XS.iload X61.here hx rfl (hb hby at_688) rfl) ?_
              refine Go.st (fun _ => XS.bipush X61.here hx rfl (hb hby at_690)) ?_
              show Go _ _ _ _ (T61.setTop (mkF m 692 #[lI p0, lI p1, lI p2, lI p3, lJ p4, lS, lI (Int32.ofNat jcs.length), lI (own_ch p0), lI (own_ch p1), lI (own_ch p2), lR js, lR os_14, lI (own_e jcs p4), lI (own_p jcs), lI (1 : Int32), lI jn, lI (own_q jcs p4), lI (own_m p4), lJ (own_t (16 + 1) p4), lS, lU] [(.int 17), (.int (own_q jcs p4)), (.ref os_14), (.long (own_t (16 + 1) p4))]))
              refine Go.st (fun _ => XS.iadd X61.here hx rfl (hb hby at_692) rfl) ?_
              show Go _ _ _ _ (T61.setTop (mkF m 693 #[lI p0, lI p1, lI p2, lI p3, lJ p4, lS, lI (Int32.ofNat jcs.length), lI (own_ch p0), lI (own_ch p1), lI (own_ch p2), lR js, lR os_14, lI (own_e jcs p4), lI (own_p jcs), lI (1 : Int32), lI jn, lI (own_q jcs p4), lI (own_m p4), lJ (own_t (16 + 1) p4), lS, lU] [(.int ((own_q jcs p4) + (17 : Int32))), (.ref os_14), (.long (own_t (16 + 1) p4))]))
              refine Go.st (fun _ => XS.iload X61.here hx rfl (hb hby at_693) rfl) ?_
              show Go _ _ _ _ (T61.setTop (mkF m 695 #[lI p0, lI p1, lI p2, lI p3, lJ p4, lS, lI (Int32.ofNat jcs.length), lI (own_ch p0), lI (own_ch p1), lI (own_ch p2), lR js, lR os_14, lI (own_e jcs p4), lI (own_p jcs), lI (1 : Int32), lI jn, lI (own_q jcs p4), lI (own_m p4), lJ (own_t (16 + 1) p4), lS, lU] [(.int (own_e jcs p4)), (.int ((own_q jcs p4) + (17 : Int32))), (.ref os_14), (.long (own_t (16 + 1) p4))]))
              obtain ⟨_, _, ⟨T62, L62, k62, n62⟩, -, X62, ⟨Lc62, hQ62, l62, y62, z62⟩, st62⟩ := Jvm.LawKit.callS X61 hx (y := (⟨"com/example/strikeboard/strikeboard/engine/ColumnToStringPinLaw", "step", "(JLjava/lang/String;II)J"⟩ : MethodName)) hown9 (mvT hZ9 (ow hw 229 rfl)) (mvT hZ9 (ow hw 230 rfl)) (mvT hZ9 (ow hw 231 rfl)) (mvT hZ9 (ow hw 232 rfl)) (by decide) (backOf (W := 0) (rm_step l Z a0 hw [] g_CS S_CS nz_CS g_SF S_SF r_SF (own_t (16 + 1) p4) os_14 ((own_q jcs p4) + (17 : Int32)) (own_e jcs p4) (own_RC jcs p4) ob_15 kb_16 p4 (8 + jcs.length + (own_sg p4).length) 17 T9.heap n0 O9 q9_1 q9_2 q9_3 q9_4 (own_smallRC p4 hpcj) (own_leRC p4 hl3) rfl (own_addj 17 rfl) (own_eRC jcs p4) (own_b4000 p4 hl3 (by decide)) (own_getRC jcs p4)) hZ9 (ow hw 232 rfl) (ow hw 231 rfl) (by decide) (by decide)) (g := (mkF m 695 #[lI p0, lI p1, lI p2, lI p3, lJ p4, lS, lI (Int32.ofNat jcs.length), lI (own_ch p0), lI (own_ch p1), lI (own_ch p2), lR js, lR os_14, lI (own_e jcs p4), lI (own_p jcs), lI (1 : Int32), lI jn, lI (own_q jcs p4), lI (own_m p4), lJ (own_t (16 + 1) p4), lS, lU] [(.int (own_e jcs p4)), (.int ((own_q jcs p4) + (17 : Int32))), (.ref os_14), (.long (own_t (16 + 1) p4))])) rfl (by rw [hml]; rfl) (argsL := [(.long (own_t (16 + 1) p4)), (.ref os_14), (.int ((own_q jcs p4) + (17 : Int32))), (.int (own_e jcs p4))]) (rest := []) (lenOf own_pd29 rfl) rfl (by show 2 * 0 + _ ≤ _; exact Nat.le_of_eq rfl) (hb hby at_695) (fun _ _ => ⟨rfl, e61, (by decide : 18 + 0 ≤ _), (by decide : 208 + 0 ≤ _)⟩)
              dsimp only [Pt.U, Pt.locs, Pt.cells, Pt.slots] at X62 l62 y62 z62 st62 hQ62
              subst y62 z62
              refine Go.st st62 ?_
              obtain ⟨rfl, N62q, e62⟩ := hQ62
              have N62 : Fr n0 L62 := by rw [l62]; exact Fr.app N61 N62q
              show Go _ _ _ _ (T62.setTop (mkF m 698 #[lI p0, lI p1, lI p2, lI p3, lJ p4, lS, lI (Int32.ofNat jcs.length), lI (own_ch p0), lI (own_ch p1), lI (own_ch p2), lR js, lR os_14, lI (own_e jcs p4), lI (own_p jcs), lI (1 : Int32), lI jn, lI (own_q jcs p4), lI (own_m p4), lJ (own_t (16 + 1) p4), lS, lU] [(.long (own_t (17 + 1) p4))]))
              refine Go.st (fun _ => XS.lstore X62.here hx rfl (hb hby at_698) rfl (l' := #[lI p0, lI p1, lI p2, lI p3, lJ p4, lS, lI (Int32.ofNat jcs.length), lI (own_ch p0), lI (own_ch p1), lI (own_ch p2), lR js, lR os_14, lI (own_e jcs p4), lI (own_p jcs), lI (1 : Int32), lI jn, lI (own_q jcs p4), lI (own_m p4), lJ (own_t (17 + 1) p4), lS, lU]) rfl) ?_
              show Go _ _ _ _ (T62.setTop (mkF m 700 #[lI p0, lI p1, lI p2, lI p3, lJ p4, lS, lI (Int32.ofNat jcs.length), lI (own_ch p0), lI (own_ch p1), lI (own_ch p2), lR js, lR os_14, lI (own_e jcs p4), lI (own_p jcs), lI (1 : Int32), lI jn, lI (own_q jcs p4), lI (own_m p4), lJ (own_t (17 + 1) p4), lS, lU] []))
              refine Go.st (fun _ => XS.lload X62.here hx rfl (hb hby at_700) rfl) ?_
              refine Go.st (fun _ => XS.aload X62.here hx rfl (hb hby at_702) rfl rfl) ?_
              refine Go.st (fun _ => XS.iload X62.here hx rfl (hb hby at_704) rfl) ?_
              refine Go.st (fun _ => XS.bipush X62.here hx rfl (hb hby at_706)) ?_
              show Go _ _ _ _ (T62.setTop (mkF m 708 #[lI p0, lI p1, lI p2, lI p3, lJ p4, lS, lI (Int32.ofNat jcs.length), lI (own_ch p0), lI (own_ch p1), lI (own_ch p2), lR js, lR os_14, lI (own_e jcs p4), lI (own_p jcs), lI (1 : Int32), lI jn, lI (own_q jcs p4), lI (own_m p4), lJ (own_t (17 + 1) p4), lS, lU] [(.int 18), (.int (own_q jcs p4)), (.ref os_14), (.long (own_t (17 + 1) p4))]))
              refine Go.st (fun _ => XS.iadd X62.here hx rfl (hb hby at_708) rfl) ?_
              show Go _ _ _ _ (T62.setTop (mkF m 709 #[lI p0, lI p1, lI p2, lI p3, lJ p4, lS, lI (Int32.ofNat jcs.length), lI (own_ch p0), lI (own_ch p1), lI (own_ch p2), lR js, lR os_14, lI (own_e jcs p4), lI (own_p jcs), lI (1 : Int32), lI jn, lI (own_q jcs p4), lI (own_m p4), lJ (own_t (17 + 1) p4), lS, lU] [(.int ((own_q jcs p4) + (18 : Int32))), (.ref os_14), (.long (own_t (17 + 1) p4))]))
              refine Go.st (fun _ => XS.iload X62.here hx rfl (hb hby at_709) rfl) ?_
              show Go _ _ _ _ (T62.setTop (mkF m 711 #[lI p0, lI p1, lI p2, lI p3, lJ p4, lS, lI (Int32.ofNat jcs.length), lI (own_ch p0), lI (own_ch p1), lI (own_ch p2), lR js, lR os_14, lI (own_e jcs p4), lI (own_p jcs), lI (1 : Int32), lI jn, lI (own_q jcs p4), lI (own_m p4), lJ (own_t (17 + 1) p4), lS, lU] [(.int (own_e jcs p4)), (.int ((own_q jcs p4) + (18 : Int32))), (.ref os_14), (.long (own_t (17 + 1) p4))]))
              obtain ⟨_, _, ⟨T63, L63, k63, n63⟩, -, X63, ⟨Lc63, hQ63, l63, y63, z63⟩, st63⟩ := Jvm.LawKit.callS X62 hx (y := (⟨"com/example/strikeboard/strikeboard/engine/ColumnToStringPinLaw", "step", "(JLjava/lang/String;II)J"⟩ : MethodName)) hown9 (mvT hZ9 (ow hw 229 rfl)) (mvT hZ9 (ow hw 230 rfl)) (mvT hZ9 (ow hw 231 rfl)) (mvT hZ9 (ow hw 232 rfl)) (by decide) (backOf (W := 0) (rm_step l Z a0 hw [] g_CS S_CS nz_CS g_SF S_SF r_SF (own_t (17 + 1) p4) os_14 ((own_q jcs p4) + (18 : Int32)) (own_e jcs p4) (own_RC jcs p4) ob_15 kb_16 p4 (8 + jcs.length + (own_sg p4).length) 18 T9.heap n0 O9 q9_1 q9_2 q9_3 q9_4 (own_smallRC p4 hpcj) (own_leRC p4 hl3) rfl (own_addj 18 rfl) (own_eRC jcs p4) (own_b4000 p4 hl3 (by decide)) (own_getRC jcs p4)) hZ9 (ow hw 232 rfl) (ow hw 231 rfl) (by decide) (by decide)) (g := (mkF m 711 #[lI p0, lI p1, lI p2, lI p3, lJ p4, lS, lI (Int32.ofNat jcs.length), lI (own_ch p0), lI (own_ch p1), lI (own_ch p2), lR js, lR os_14, lI (own_e jcs p4), lI (own_p jcs), lI (1 : Int32), lI jn, lI (own_q jcs p4), lI (own_m p4), lJ (own_t (17 + 1) p4), lS, lU] [(.int (own_e jcs p4)), (.int ((own_q jcs p4) + (18 : Int32))), (.ref os_14), (.long (own_t (17 + 1) p4))])) rfl (by rw [hml]; rfl) (argsL := [(.long (own_t (17 + 1) p4)), (.ref os_14), (.int ((own_q jcs p4) + (18 : Int32))), (.int (own_e jcs p4))]) (rest := []) (lenOf own_pd29 rfl) rfl (by show 2 * 0 + _ ≤ _; exact Nat.le_of_eq rfl) (hb hby at_711) (fun _ _ => ⟨rfl, e62, (by decide : 18 + 0 ≤ _), (by decide : 208 + 0 ≤ _)⟩)
              dsimp only [Pt.U, Pt.locs, Pt.cells, Pt.slots] at X63 l63 y63 z63 st63 hQ63
              subst y63 z63
              refine Go.st st63 ?_
              obtain ⟨rfl, N63q, e63⟩ := hQ63
              have N63 : Fr n0 L63 := by rw [l63]; exact Fr.app N62 N63q
              show Go _ _ _ _ (T63.setTop (mkF m 714 #[lI p0, lI p1, lI p2, lI p3, lJ p4, lS, lI (Int32.ofNat jcs.length), lI (own_ch p0), lI (own_ch p1), lI (own_ch p2), lR js, lR os_14, lI (own_e jcs p4), lI (own_p jcs), lI (1 : Int32), lI jn, lI (own_q jcs p4), lI (own_m p4), lJ (own_t (17 + 1) p4), lS, lU] [(.long (own_t (18 + 1) p4))]))
              refine Go.st (fun _ => XS.lstore X63.here hx rfl (hb hby at_714) rfl (l' := #[lI p0, lI p1, lI p2, lI p3, lJ p4, lS, lI (Int32.ofNat jcs.length), lI (own_ch p0), lI (own_ch p1), lI (own_ch p2), lR js, lR os_14, lI (own_e jcs p4), lI (own_p jcs), lI (1 : Int32), lI jn, lI (own_q jcs p4), lI (own_m p4), lJ (own_t (18 + 1) p4), lS, lU]) rfl) ?_
              show Go _ _ _ _ (T63.setTop (mkF m 716 #[lI p0, lI p1, lI p2, lI p3, lJ p4, lS, lI (Int32.ofNat jcs.length), lI (own_ch p0), lI (own_ch p1), lI (own_ch p2), lR js, lR os_14, lI (own_e jcs p4), lI (own_p jcs), lI (1 : Int32), lI jn, lI (own_q jcs p4), lI (own_m p4), lJ (own_t (18 + 1) p4), lS, lU] []))
              rw [show (own_t (18 + 1) p4) = Jvm.Free.SBG.negL (own_nL p4) from own_all19 p4]
              show Go _ _ _ _ (T63.setTop (mkF m 716 #[lI p0, lI p1, lI p2, lI p3, lJ p4, lS, lI (Int32.ofNat jcs.length), lI (own_ch p0), lI (own_ch p1), lI (own_ch p2), lR js, lR os_14, lI (own_e jcs p4), lI (own_p jcs), lI (1 : Int32), lI jn, lI (own_q jcs p4), lI (own_m p4), lJ (Jvm.Free.SBG.negL (own_nL p4)), lS, lU] []))
              refine Go.st (fun _ => XS.lload X63.here hx rfl (hb hby at_716) rfl) ?_
              refine Go.st (fun _ => XS.lconst X63.here hx rfl (hb hby at_718)) ?_
              show Go _ _ _ _ (T63.setTop (mkF m 719 #[lI p0, lI p1, lI p2, lI p3, lJ p4, lS, lI (Int32.ofNat jcs.length), lI (own_ch p0), lI (own_ch p1), lI (own_ch p2), lR js, lR os_14, lI (own_e jcs p4), lI (own_p jcs), lI (1 : Int32), lI jn, lI (own_q jcs p4), lI (own_m p4), lJ (Jvm.Free.SBG.negL (own_nL p4)), lS, lU] [(.long (0 : Int64)), (.long (Jvm.Free.SBG.negL (own_nL p4)))]))
              refine Go.st (fun _ => XS.lcmp X63.here hx rfl (hb hby at_719) rfl) ?_
              show Go _ _ _ _ (T63.setTop (mkF m 720 #[lI p0, lI p1, lI p2, lI p3, lJ p4, lS, lI (Int32.ofNat jcs.length), lI (own_ch p0), lI (own_ch p1), lI (own_ch p2), lR js, lR os_14, lI (own_e jcs p4), lI (own_p jcs), lI (1 : Int32), lI jn, lI (own_q jcs p4), lI (own_m p4), lJ (Jvm.Free.SBG.negL (own_nL p4)), lS, lU] [(.int (lcmpW (Jvm.Free.SBG.negL (own_nL p4)) (0 : Int64)))]))
              have hb64 : ¬ ((0 : Int32) < (lcmpW (Jvm.Free.SBG.negL (own_nL p4)) (0 : Int64))) := own_nl0 (own_nL_le p4)
              refine Go.st (fun _ => XS.ifYes X63.here hx rfl (pc0 := 720) (pc' := 725) rfl (hb hby at_720) rfl ((if0 _ _).trans (flt hb64).2.2.2) (by decide) (by decide)) ?_
              show Go _ _ _ _ (T63.setTop (mkF m 725 #[lI p0, lI p1, lI p2, lI p3, lJ p4, lS, lI (Int32.ofNat jcs.length), lI (own_ch p0), lI (own_ch p1), lI (own_ch p2), lR js, lR os_14, lI (own_e jcs p4), lI (own_p jcs), lI (1 : Int32), lI jn, lI (own_q jcs p4), lI (own_m p4), lJ (Jvm.Free.SBG.negL (own_nL p4)), lS, lU] []))
              refine Go.st (fun _ => XS.iload X63.here hx rfl (hb hby at_725) rfl) ?_
              show Go _ _ _ _ (T63.setTop (mkF m 727 #[lI p0, lI p1, lI p2, lI p3, lJ p4, lS, lI (Int32.ofNat jcs.length), lI (own_ch p0), lI (own_ch p1), lI (own_ch p2), lR js, lR os_14, lI (own_e jcs p4), lI (own_p jcs), lI (1 : Int32), lI jn, lI (own_q jcs p4), lI (own_m p4), lJ (Jvm.Free.SBG.negL (own_nL p4)), lS, lU] [(.int jn)]))
              by_cases hc65 : jn = (0 : Int32)
              · skip
                refine Go.st (fun _ => XS.ifYes X63.here hx rfl (pc0 := 727) (pc' := 753) rfl (hb hby at_727) rfl ((if0 _ _).trans (teq hc65).1) (by decide) (by decide)) ?_
                show Go _ _ _ _ (T63.setTop (mkF m 753 #[lI p0, lI p1, lI p2, lI p3, lJ p4, lS, lI (Int32.ofNat jcs.length), lI (own_ch p0), lI (own_ch p1), lI (own_ch p2), lR js, lR os_14, lI (own_e jcs p4), lI (own_p jcs), lI (1 : Int32), lI jn, lI (own_q jcs p4), lI (own_m p4), lJ (Jvm.Free.SBG.negL (own_nL p4)), lS, lU] []))
                refine Go.st (fun _ => XS.lload X63.here hx rfl (hb hby at_753) rfl) ?_
                show Go _ _ _ _ (T63.setTop (mkF m 755 #[lI p0, lI p1, lI p2, lI p3, lJ p4, lS, lI (Int32.ofNat jcs.length), lI (own_ch p0), lI (own_ch p1), lI (own_ch p2), lR js, lR os_14, lI (own_e jcs p4), lI (own_p jcs), lI (1 : Int32), lI jn, lI (own_q jcs p4), lI (own_m p4), lJ (Jvm.Free.SBG.negL (own_nL p4)), lS, lU] [(.long (Jvm.Free.SBG.negL (own_nL p4)))]))
                refine Go.st (fun _ => X63.ldc2Long hx hown9 (mvT hZ9 (ow hw 235 rfl)) (g := (mkF m 755 #[lI p0, lI p1, lI p2, lI p3, lJ p4, lS, lI (Int32.ofNat jcs.length), lI (own_ch p0), lI (own_ch p1), lI (own_ch p2), lR js, lR os_14, lI (own_e jcs p4), lI (own_p jcs), lI (1 : Int32), lI jn, lI (own_q jcs p4), lI (own_m p4), lJ (Jvm.Free.SBG.negL (own_nL p4)), lS, lU] [(.long (Jvm.Free.SBG.negL (own_nL p4)))])) rfl (hb hby at_755) _) ?_
                show Go _ _ _ _ (T63.setTop (mkF m 758 #[lI p0, lI p1, lI p2, lI p3, lJ p4, lS, lI (Int32.ofNat jcs.length), lI (own_ch p0), lI (own_ch p1), lI (own_ch p2), lR js, lR os_14, lI (own_e jcs p4), lI (own_p jcs), lI (1 : Int32), lI jn, lI (own_q jcs p4), lI (own_m p4), lJ (Jvm.Free.SBG.negL (own_nL p4)), lS, lU] [(.long (-9223372036854775808 : Int64)), (.long (Jvm.Free.SBG.negL (own_nL p4)))]))
                refine Go.st (fun _ => XS.lcmp X63.here hx rfl (hb hby at_758) rfl) ?_
                show Go _ _ _ _ (T63.setTop (mkF m 759 #[lI p0, lI p1, lI p2, lI p3, lJ p4, lS, lI (Int32.ofNat jcs.length), lI (own_ch p0), lI (own_ch p1), lI (own_ch p2), lR js, lR os_14, lI (own_e jcs p4), lI (own_p jcs), lI (1 : Int32), lI jn, lI (own_q jcs p4), lI (own_m p4), lJ (Jvm.Free.SBG.negL (own_nL p4)), lS, lU] [(.int (lcmpW (Jvm.Free.SBG.negL (own_nL p4)) (-9223372036854775808 : Int64)))]))
                have hb66 : ¬ ((lcmpW (Jvm.Free.SBG.negL (own_nL p4)) (-9223372036854775808 : Int64)) = (0 : Int32)) := (own_posend (hjn.mp (by assumption))).1
                refine Go.st (fun _ => XS.ifNo X63.here hx rfl (hb hby at_759) rfl ((if0 _ _).trans (feq hb66).1)) ?_
                show Go _ _ _ _ (T63.setTop (mkF m 762 #[lI p0, lI p1, lI p2, lI p3, lJ p4, lS, lI (Int32.ofNat jcs.length), lI (own_ch p0), lI (own_ch p1), lI (own_ch p2), lR js, lR os_14, lI (own_e jcs p4), lI (own_p jcs), lI (1 : Int32), lI jn, lI (own_q jcs p4), lI (own_m p4), lJ (Jvm.Free.SBG.negL (own_nL p4)), lS, lU] []))
                refine Go.st (fun _ => XS.lload X63.here hx rfl (hb hby at_762) rfl) ?_
                show Go _ _ _ _ (T63.setTop (mkF m 764 #[lI p0, lI p1, lI p2, lI p3, lJ p4, lS, lI (Int32.ofNat jcs.length), lI (own_ch p0), lI (own_ch p1), lI (own_ch p2), lR js, lR os_14, lI (own_e jcs p4), lI (own_p jcs), lI (1 : Int32), lI jn, lI (own_q jcs p4), lI (own_m p4), lJ (Jvm.Free.SBG.negL (own_nL p4)), lS, lU] [(.long (Jvm.Free.SBG.negL (own_nL p4)))]))
                refine Go.st (fun _ => XS.lneg X63.here hx rfl (hb hby at_764) rfl) ?_
                show Go _ _ _ _ (T63.setTop (mkF m 765 #[lI p0, lI p1, lI p2, lI p3, lJ p4, lS, lI (Int32.ofNat jcs.length), lI (own_ch p0), lI (own_ch p1), lI (own_ch p2), lR js, lR os_14, lI (own_e jcs p4), lI (own_p jcs), lI (1 : Int32), lI jn, lI (own_q jcs p4), lI (own_m p4), lJ (Jvm.Free.SBG.negL (own_nL p4)), lS, lU] [(.long (-(Jvm.Free.SBG.negL (own_nL p4))))]))
                refine Go.st (fun _ => XS.lload X63.here hx rfl (hb hby at_765) rfl) ?_
                show Go _ _ _ _ (T63.setTop (mkF m 767 #[lI p0, lI p1, lI p2, lI p3, lJ p4, lS, lI (Int32.ofNat jcs.length), lI (own_ch p0), lI (own_ch p1), lI (own_ch p2), lR js, lR os_14, lI (own_e jcs p4), lI (own_p jcs), lI (1 : Int32), lI jn, lI (own_q jcs p4), lI (own_m p4), lJ (Jvm.Free.SBG.negL (own_nL p4)), lS, lU] [(.long p4), (.long (-(Jvm.Free.SBG.negL (own_nL p4))))]))
                refine Go.st (fun _ => XS.lcmp X63.here hx rfl (hb hby at_767) rfl) ?_
                show Go _ _ _ _ (T63.setTop (mkF m 768 #[lI p0, lI p1, lI p2, lI p3, lJ p4, lS, lI (Int32.ofNat jcs.length), lI (own_ch p0), lI (own_ch p1), lI (own_ch p2), lR js, lR os_14, lI (own_e jcs p4), lI (own_p jcs), lI (1 : Int32), lI jn, lI (own_q jcs p4), lI (own_m p4), lJ (Jvm.Free.SBG.negL (own_nL p4)), lS, lU] [(.int (lcmpW (-(Jvm.Free.SBG.negL (own_nL p4))) p4))]))
                have hb67 : (lcmpW (-(Jvm.Free.SBG.negL (own_nL p4))) p4) = (0 : Int32) := (own_posend (hjn.mp (by assumption))).2
                refine Go.st (fun _ => XS.ifNo X63.here hx rfl (hb hby at_768) rfl ((if0 _ _).trans (teq hb67).2)) ?_
                show Go _ _ _ _ (T63.setTop (mkF m 771 #[lI p0, lI p1, lI p2, lI p3, lJ p4, lS, lI (Int32.ofNat jcs.length), lI (own_ch p0), lI (own_ch p1), lI (own_ch p2), lR js, lR os_14, lI (own_e jcs p4), lI (own_p jcs), lI (1 : Int32), lI jn, lI (own_q jcs p4), lI (own_m p4), lJ (Jvm.Free.SBG.negL (own_nL p4)), lS, lU] []))
                refine Go.st (fun _ => XS.iconst X63.here hx rfl (hb hby at_771)) ?_
                show Go _ _ _ _ (T63.setTop (mkF m 772 #[lI p0, lI p1, lI p2, lI p3, lJ p4, lS, lI (Int32.ofNat jcs.length), lI (own_ch p0), lI (own_ch p1), lI (own_ch p2), lR js, lR os_14, lI (own_e jcs p4), lI (own_p jcs), lI (1 : Int32), lI jn, lI (own_q jcs p4), lI (own_m p4), lJ (Jvm.Free.SBG.negL (own_nL p4)), lS, lU] [(.int 1)]))
                refine Go.st (fun _ => XS.goto X63.here hx rfl (pc0 := 772) (pc' := 776) rfl (hb hby at_772) (by decide) (by decide)) ?_
                show Go _ _ _ _ (T63.setTop (mkF m 776 #[lI p0, lI p1, lI p2, lI p3, lJ p4, lS, lI (Int32.ofNat jcs.length), lI (own_ch p0), lI (own_ch p1), lI (own_ch p2), lR js, lR os_14, lI (own_e jcs p4), lI (own_p jcs), lI (1 : Int32), lI jn, lI (own_q jcs p4), lI (own_m p4), lJ (Jvm.Free.SBG.negL (own_nL p4)), lS, lU] [(.int 1)]))
                refine Go.st (fun _ => XS.istore X63.here hx rfl (hb hby at_776) rfl (l' := #[lI p0, lI p1, lI p2, lI p3, lJ p4, lS, lI (Int32.ofNat jcs.length), lI (own_ch p0), lI (own_ch p1), lI (own_ch p2), lR js, lR os_14, lI (own_e jcs p4), lI (own_p jcs), lI (1 : Int32), lI jn, lI (own_q jcs p4), lI (own_m p4), lJ (Jvm.Free.SBG.negL (own_nL p4)), lS, lI (1 : Int32)]) rfl) ?_
                show Go _ _ _ _ (T63.setTop (mkF m 778 #[lI p0, lI p1, lI p2, lI p3, lJ p4, lS, lI (Int32.ofNat jcs.length), lI (own_ch p0), lI (own_ch p1), lI (own_ch p2), lR js, lR os_14, lI (own_e jcs p4), lI (own_p jcs), lI (1 : Int32), lI jn, lI (own_q jcs p4), lI (own_m p4), lJ (Jvm.Free.SBG.negL (own_nL p4)), lS, lI (1 : Int32)] []))
                refine Go.st (fun _ => XS.iload X63.here hx rfl (hb hby at_778) rfl) ?_
                show Go _ _ _ _ (T63.setTop (mkF m 780 #[lI p0, lI p1, lI p2, lI p3, lJ p4, lS, lI (Int32.ofNat jcs.length), lI (own_ch p0), lI (own_ch p1), lI (own_ch p2), lR js, lR os_14, lI (own_e jcs p4), lI (own_p jcs), lI (1 : Int32), lI jn, lI (own_q jcs p4), lI (own_m p4), lJ (Jvm.Free.SBG.negL (own_nL p4)), lS, lI (1 : Int32)] [(.int 1)]))
                refine Go.st (fun _ => XS.ifNo X63.here hx rfl (hb hby at_780) rfl ((if0 _ _).trans (feq (by decide)).1)) ?_
                show Go _ _ _ _ (T63.setTop (mkF m 783 #[lI p0, lI p1, lI p2, lI p3, lJ p4, lS, lI (Int32.ofNat jcs.length), lI (own_ch p0), lI (own_ch p1), lI (own_ch p2), lR js, lR os_14, lI (own_e jcs p4), lI (own_p jcs), lI (1 : Int32), lI jn, lI (own_q jcs p4), lI (own_m p4), lJ (Jvm.Free.SBG.negL (own_nL p4)), lS, lI (1 : Int32)] []))
                refine Go.st (fun _ => XS.iload X63.here hx rfl (hb hby at_783) rfl) ?_
                show Go _ _ _ _ (T63.setTop (mkF m 785 #[lI p0, lI p1, lI p2, lI p3, lJ p4, lS, lI (Int32.ofNat jcs.length), lI (own_ch p0), lI (own_ch p1), lI (own_ch p2), lR js, lR os_14, lI (own_e jcs p4), lI (own_p jcs), lI (1 : Int32), lI jn, lI (own_q jcs p4), lI (own_m p4), lJ (Jvm.Free.SBG.negL (own_nL p4)), lS, lI (1 : Int32)] [(.int 1)]))
                refine Go.st (fun _ => XS.ifNo X63.here hx rfl (hb hby at_785) rfl ((if0 _ _).trans (feq (by decide)).1)) ?_
                show Go _ _ _ _ (T63.setTop (mkF m 788 #[lI p0, lI p1, lI p2, lI p3, lJ p4, lS, lI (Int32.ofNat jcs.length), lI (own_ch p0), lI (own_ch p1), lI (own_ch p2), lR js, lR os_14, lI (own_e jcs p4), lI (own_p jcs), lI (1 : Int32), lI jn, lI (own_q jcs p4), lI (own_m p4), lJ (Jvm.Free.SBG.negL (own_nL p4)), lS, lI (1 : Int32)] []))
                refine Go.st (fun _ => XS.iconst X63.here hx rfl (hb hby at_788)) ?_
                show Go _ _ _ _ (T63.setTop (mkF m 789 #[lI p0, lI p1, lI p2, lI p3, lJ p4, lS, lI (Int32.ofNat jcs.length), lI (own_ch p0), lI (own_ch p1), lI (own_ch p2), lR js, lR os_14, lI (own_e jcs p4), lI (own_p jcs), lI (1 : Int32), lI jn, lI (own_q jcs p4), lI (own_m p4), lJ (Jvm.Free.SBG.negL (own_nL p4)), lS, lI (1 : Int32)] [(.int 1)]))
                refine Go.st (fun _ => XS.goto X63.here hx rfl (pc0 := 789) (pc' := 793) rfl (hb hby at_789) (by decide) (by decide)) ?_
                show Go _ _ _ _ (T63.setTop (mkF m 793 #[lI p0, lI p1, lI p2, lI p3, lJ p4, lS, lI (Int32.ofNat jcs.length), lI (own_ch p0), lI (own_ch p1), lI (own_ch p2), lR js, lR os_14, lI (own_e jcs p4), lI (own_p jcs), lI (1 : Int32), lI jn, lI (own_q jcs p4), lI (own_m p4), lJ (Jvm.Free.SBG.negL (own_nL p4)), lS, lI (1 : Int32)] [(.int 1)]))
                obtain ⟨fs, hr, hrun, hended, -, hW, hpair, hsame⟩ := X63.leaveW hSS9 (by rw [e63]; exact (Nat.le_refl _)) (v := some (.int 1)) (fun h => by rw [Bd.returns] at h; cases h)
                have hCRe := CR9.trans (CHv.at X63 hZ9 hEL CR9.1)
                refine ⟨_, ?_, hPend _ _ hrun hended ⟨_, _, rfl, ?_, ?_, ⟨_, rfl⟩, hW, hpair, hsame.mono (by decide) (by decide)⟩⟩
                · exact retN X63 hx (t := .boolean) Bd.returns (by simp) (hb hby at_793) hr
                · show Q_rm_law Z _ _ _ _ _ _ _ _ _ _ h0 n0 _ T63.heap _
                  rw [e63]
                  exact ⟨rfl, N63, K9⟩
                · show CHr Z consts_1 s.vm s.heap T63.vm T63.heap
                  rw [hh, e63]
                  exact hCRe
              · skip
                refine Go.st (fun _ => XS.ifNo X63.here hx rfl (hb hby at_727) rfl ((if0 _ _).trans (feq hc65).1)) ?_
                show Go _ _ _ _ (T63.setTop (mkF m 730 #[lI p0, lI p1, lI p2, lI p3, lJ p4, lS, lI (Int32.ofNat jcs.length), lI (own_ch p0), lI (own_ch p1), lI (own_ch p2), lR js, lR os_14, lI (own_e jcs p4), lI (own_p jcs), lI (1 : Int32), lI jn, lI (own_q jcs p4), lI (own_m p4), lJ (Jvm.Free.SBG.negL (own_nL p4)), lS, lU] []))
                refine Go.st (fun _ => XS.lload X63.here hx rfl (hb hby at_730) rfl) ?_
                refine Go.st (fun _ => XS.lconst X63.here hx rfl (hb hby at_732)) ?_
                show Go _ _ _ _ (T63.setTop (mkF m 733 #[lI p0, lI p1, lI p2, lI p3, lJ p4, lS, lI (Int32.ofNat jcs.length), lI (own_ch p0), lI (own_ch p1), lI (own_ch p2), lR js, lR os_14, lI (own_e jcs p4), lI (own_p jcs), lI (1 : Int32), lI jn, lI (own_q jcs p4), lI (own_m p4), lJ (Jvm.Free.SBG.negL (own_nL p4)), lS, lU] [(.long (0 : Int64)), (.long (Jvm.Free.SBG.negL (own_nL p4)))]))
                refine Go.st (fun _ => XS.lcmp X63.here hx rfl (hb hby at_733) rfl) ?_
                show Go _ _ _ _ (T63.setTop (mkF m 734 #[lI p0, lI p1, lI p2, lI p3, lJ p4, lS, lI (Int32.ofNat jcs.length), lI (own_ch p0), lI (own_ch p1), lI (own_ch p2), lR js, lR os_14, lI (own_e jcs p4), lI (own_p jcs), lI (1 : Int32), lI jn, lI (own_q jcs p4), lI (own_m p4), lJ (Jvm.Free.SBG.negL (own_nL p4)), lS, lU] [(.int (lcmpW (Jvm.Free.SBG.negL (own_nL p4)) (0 : Int64)))]))
                have hb68 : (lcmpW (Jvm.Free.SBG.negL (own_nL p4)) (0 : Int64)) < (0 : Int32) := by rw [own_negend (own_neg_of hjn (by assumption))]; exact (lw_lt _ _).mpr (own_neg_of hjn (by assumption))
                refine Go.st (fun _ => XS.ifNo X63.here hx rfl (hb hby at_734) rfl ((if0 _ _).trans (tlt hb68).2.1)) ?_
                show Go _ _ _ _ (T63.setTop (mkF m 737 #[lI p0, lI p1, lI p2, lI p3, lJ p4, lS, lI (Int32.ofNat jcs.length), lI (own_ch p0), lI (own_ch p1), lI (own_ch p2), lR js, lR os_14, lI (own_e jcs p4), lI (own_p jcs), lI (1 : Int32), lI jn, lI (own_q jcs p4), lI (own_m p4), lJ (Jvm.Free.SBG.negL (own_nL p4)), lS, lU] []))
                refine Go.st (fun _ => XS.lload X63.here hx rfl (hb hby at_737) rfl) ?_
                refine Go.st (fun _ => XS.lload X63.here hx rfl (hb hby at_739) rfl) ?_
                show Go _ _ _ _ (T63.setTop (mkF m 741 #[lI p0, lI p1, lI p2, lI p3, lJ p4, lS, lI (Int32.ofNat jcs.length), lI (own_ch p0), lI (own_ch p1), lI (own_ch p2), lR js, lR os_14, lI (own_e jcs p4), lI (own_p jcs), lI (1 : Int32), lI jn, lI (own_q jcs p4), lI (own_m p4), lJ (Jvm.Free.SBG.negL (own_nL p4)), lS, lU] [(.long p4), (.long (Jvm.Free.SBG.negL (own_nL p4)))]))
                refine Go.st (fun _ => XS.lcmp X63.here hx rfl (hb hby at_741) rfl) ?_
                show Go _ _ _ _ (T63.setTop (mkF m 742 #[lI p0, lI p1, lI p2, lI p3, lJ p4, lS, lI (Int32.ofNat jcs.length), lI (own_ch p0), lI (own_ch p1), lI (own_ch p2), lR js, lR os_14, lI (own_e jcs p4), lI (own_p jcs), lI (1 : Int32), lI jn, lI (own_q jcs p4), lI (own_m p4), lJ (Jvm.Free.SBG.negL (own_nL p4)), lS, lU] [(.int (lcmpW (Jvm.Free.SBG.negL (own_nL p4)) p4))]))
                have hb69 : (lcmpW (Jvm.Free.SBG.negL (own_nL p4)) p4) = (0 : Int32) := by rw [own_negend (own_neg_of hjn (by assumption))]; exact (lw_eq _ _).mpr rfl
                refine Go.st (fun _ => XS.ifNo X63.here hx rfl (hb hby at_742) rfl ((if0 _ _).trans (teq hb69).2)) ?_
                show Go _ _ _ _ (T63.setTop (mkF m 745 #[lI p0, lI p1, lI p2, lI p3, lJ p4, lS, lI (Int32.ofNat jcs.length), lI (own_ch p0), lI (own_ch p1), lI (own_ch p2), lR js, lR os_14, lI (own_e jcs p4), lI (own_p jcs), lI (1 : Int32), lI jn, lI (own_q jcs p4), lI (own_m p4), lJ (Jvm.Free.SBG.negL (own_nL p4)), lS, lU] []))
                refine Go.st (fun _ => XS.iconst X63.here hx rfl (hb hby at_745)) ?_
                show Go _ _ _ _ (T63.setTop (mkF m 746 #[lI p0, lI p1, lI p2, lI p3, lJ p4, lS, lI (Int32.ofNat jcs.length), lI (own_ch p0), lI (own_ch p1), lI (own_ch p2), lR js, lR os_14, lI (own_e jcs p4), lI (own_p jcs), lI (1 : Int32), lI jn, lI (own_q jcs p4), lI (own_m p4), lJ (Jvm.Free.SBG.negL (own_nL p4)), lS, lU] [(.int 1)]))
                refine Go.st (fun _ => XS.goto X63.here hx rfl (pc0 := 746) (pc' := 776) rfl (hb hby at_746) (by decide) (by decide)) ?_
                show Go _ _ _ _ (T63.setTop (mkF m 776 #[lI p0, lI p1, lI p2, lI p3, lJ p4, lS, lI (Int32.ofNat jcs.length), lI (own_ch p0), lI (own_ch p1), lI (own_ch p2), lR js, lR os_14, lI (own_e jcs p4), lI (own_p jcs), lI (1 : Int32), lI jn, lI (own_q jcs p4), lI (own_m p4), lJ (Jvm.Free.SBG.negL (own_nL p4)), lS, lU] [(.int 1)]))
                refine Go.st (fun _ => XS.istore X63.here hx rfl (hb hby at_776) rfl (l' := #[lI p0, lI p1, lI p2, lI p3, lJ p4, lS, lI (Int32.ofNat jcs.length), lI (own_ch p0), lI (own_ch p1), lI (own_ch p2), lR js, lR os_14, lI (own_e jcs p4), lI (own_p jcs), lI (1 : Int32), lI jn, lI (own_q jcs p4), lI (own_m p4), lJ (Jvm.Free.SBG.negL (own_nL p4)), lS, lI (1 : Int32)]) rfl) ?_
                show Go _ _ _ _ (T63.setTop (mkF m 778 #[lI p0, lI p1, lI p2, lI p3, lJ p4, lS, lI (Int32.ofNat jcs.length), lI (own_ch p0), lI (own_ch p1), lI (own_ch p2), lR js, lR os_14, lI (own_e jcs p4), lI (own_p jcs), lI (1 : Int32), lI jn, lI (own_q jcs p4), lI (own_m p4), lJ (Jvm.Free.SBG.negL (own_nL p4)), lS, lI (1 : Int32)] []))
                refine Go.st (fun _ => XS.iload X63.here hx rfl (hb hby at_778) rfl) ?_
                show Go _ _ _ _ (T63.setTop (mkF m 780 #[lI p0, lI p1, lI p2, lI p3, lJ p4, lS, lI (Int32.ofNat jcs.length), lI (own_ch p0), lI (own_ch p1), lI (own_ch p2), lR js, lR os_14, lI (own_e jcs p4), lI (own_p jcs), lI (1 : Int32), lI jn, lI (own_q jcs p4), lI (own_m p4), lJ (Jvm.Free.SBG.negL (own_nL p4)), lS, lI (1 : Int32)] [(.int 1)]))
                refine Go.st (fun _ => XS.ifNo X63.here hx rfl (hb hby at_780) rfl ((if0 _ _).trans (feq (by decide)).1)) ?_
                show Go _ _ _ _ (T63.setTop (mkF m 783 #[lI p0, lI p1, lI p2, lI p3, lJ p4, lS, lI (Int32.ofNat jcs.length), lI (own_ch p0), lI (own_ch p1), lI (own_ch p2), lR js, lR os_14, lI (own_e jcs p4), lI (own_p jcs), lI (1 : Int32), lI jn, lI (own_q jcs p4), lI (own_m p4), lJ (Jvm.Free.SBG.negL (own_nL p4)), lS, lI (1 : Int32)] []))
                refine Go.st (fun _ => XS.iload X63.here hx rfl (hb hby at_783) rfl) ?_
                show Go _ _ _ _ (T63.setTop (mkF m 785 #[lI p0, lI p1, lI p2, lI p3, lJ p4, lS, lI (Int32.ofNat jcs.length), lI (own_ch p0), lI (own_ch p1), lI (own_ch p2), lR js, lR os_14, lI (own_e jcs p4), lI (own_p jcs), lI (1 : Int32), lI jn, lI (own_q jcs p4), lI (own_m p4), lJ (Jvm.Free.SBG.negL (own_nL p4)), lS, lI (1 : Int32)] [(.int 1)]))
                refine Go.st (fun _ => XS.ifNo X63.here hx rfl (hb hby at_785) rfl ((if0 _ _).trans (feq (by decide)).1)) ?_
                show Go _ _ _ _ (T63.setTop (mkF m 788 #[lI p0, lI p1, lI p2, lI p3, lJ p4, lS, lI (Int32.ofNat jcs.length), lI (own_ch p0), lI (own_ch p1), lI (own_ch p2), lR js, lR os_14, lI (own_e jcs p4), lI (own_p jcs), lI (1 : Int32), lI jn, lI (own_q jcs p4), lI (own_m p4), lJ (Jvm.Free.SBG.negL (own_nL p4)), lS, lI (1 : Int32)] []))
                refine Go.st (fun _ => XS.iconst X63.here hx rfl (hb hby at_788)) ?_
                show Go _ _ _ _ (T63.setTop (mkF m 789 #[lI p0, lI p1, lI p2, lI p3, lJ p4, lS, lI (Int32.ofNat jcs.length), lI (own_ch p0), lI (own_ch p1), lI (own_ch p2), lR js, lR os_14, lI (own_e jcs p4), lI (own_p jcs), lI (1 : Int32), lI jn, lI (own_q jcs p4), lI (own_m p4), lJ (Jvm.Free.SBG.negL (own_nL p4)), lS, lI (1 : Int32)] [(.int 1)]))
                refine Go.st (fun _ => XS.goto X63.here hx rfl (pc0 := 789) (pc' := 793) rfl (hb hby at_789) (by decide) (by decide)) ?_
                show Go _ _ _ _ (T63.setTop (mkF m 793 #[lI p0, lI p1, lI p2, lI p3, lJ p4, lS, lI (Int32.ofNat jcs.length), lI (own_ch p0), lI (own_ch p1), lI (own_ch p2), lR js, lR os_14, lI (own_e jcs p4), lI (own_p jcs), lI (1 : Int32), lI jn, lI (own_q jcs p4), lI (own_m p4), lJ (Jvm.Free.SBG.negL (own_nL p4)), lS, lI (1 : Int32)] [(.int 1)]))
                obtain ⟨fs, hr, hrun, hended, -, hW, hpair, hsame⟩ := X63.leaveW hSS9 (by rw [e63]; exact (Nat.le_refl _)) (v := some (.int 1)) (fun h => by rw [Bd.returns] at h; cases h)
                have hCRe := CR9.trans (CHv.at X63 hZ9 hEL CR9.1)
                refine ⟨_, ?_, hPend _ _ hrun hended ⟨_, _, rfl, ?_, ?_, ⟨_, rfl⟩, hW, hpair, hsame.mono (by decide) (by decide)⟩⟩
                · exact retN X63 hx (t := .boolean) Bd.returns (by simp) (hb hby at_793) hr
                · show Q_rm_law Z _ _ _ _ _ _ _ _ _ _ h0 n0 _ T63.heap _
                  rw [e63]
                  exact ⟨rfl, N63, K9⟩
                · show CHr Z consts_1 s.vm s.heap T63.vm T63.heap
                  rw [hh, e63]
                  exact hCRe
            by_cases hc70 : (1 : Int32) < (own_m p4)
            · skip
              have hw1 := own_l400 hc70
              refine Go.st (fun _ => XS.icmpNo Xj41.here hx rfl (hb hby at_400) rfl (tlt hc70).2.2.2) ?_
              show Go _ _ _ _ (Tj41.setTop (mkF m 403 #[lI p0, lI p1, lI p2, lI p3, lJ p4, lS, lI (Int32.ofNat jcs.length), lI (own_ch p0), lI (own_ch p1), lI (own_ch p2), lR js, lR os_14, lI (own_e jcs p4), lI (own_p jcs), lI (1 : Int32), lI jn, lI (own_q jcs p4), lI (own_m p4), lU, lU, lU] []))
              refine Go.st (fun _ => XS.aload Xj41.here hx rfl (hb hby at_403) rfl rfl) ?_
              refine Go.st (fun _ => XS.iload Xj41.here hx rfl (hb hby at_405) rfl) ?_
              show Go _ _ _ _ (Tj41.setTop (mkF m 407 #[lI p0, lI p1, lI p2, lI p3, lJ p4, lS, lI (Int32.ofNat jcs.length), lI (own_ch p0), lI (own_ch p1), lI (own_ch p2), lR js, lR os_14, lI (own_e jcs p4), lI (own_p jcs), lI (1 : Int32), lI jn, lI (own_q jcs p4), lI (own_m p4), lU, lU, lU] [(.int (own_q jcs p4)), (.ref os_14)]))
              have hcd71 : StrChars.Road.CodA (own_RC jcs p4) 0 (Int32.ofNat (own_RC jcs p4).length) (((own_RC jcs p4).map StrChars.lo8).map Value.int) := StrChars.Road.codOf (n := (own_RC jcs p4).length) rfl (fun c hc => ((own_smallRC p4 hpcj) c hc).2)
              obtain ⟨cq71, kq71, q71a, q71b, q71c⟩ := isOf hZ9 ej41 q9_1
              obtain ⟨_, _, ⟨T71, L71, k71, n71⟩, -, X71, ⟨Lc71, hQ71, l71, y71, z71⟩, st71⟩ := Xj41.virtualBack hx (y := (⟨"java/lang/String", "charAt", "(I)C"⟩ : MethodName)) (z := (⟨"java/lang/String", "charAt", "(I)C"⟩ : MethodName)) hown9 (mvT hZ9 (ow hw 208 rfl)) (mvT hZ9 (ow hw 209 rfl)) (notFace_of_selects (args := #[]) (mvT hZ9 (ow hw 211 rfl))) (mvT hZ9 (ow hw 211 rfl)) (mvT hZ9 (ow hw 210 rfl)) (by decide) (StrChars.Road.chN (W := 0) hZ9 (fun d hd => hw d (own_wCh d hd)) (kI := 4) (ow hw 10 rfl) q9_1 q9_3 q9_2 q9_4 hcd71 (own_up _ (own_smallRC p4 hpcj)) (S_CS.ext O9.2) nz_CS (S_SF.ext O9.2) r_SF (own_leRC p4 hl3) (i := (8 + jcs.length + (own_sg p4).length)) (by have := own_wpos p4; have := own_sg1 p4; rw [own_lenRC]; omega) (j := (own_q jcs p4)) rfl (by decide) (by decide)) q71a q71c (g := (mkF m 407 #[lI p0, lI p1, lI p2, lI p3, lJ p4, lS, lI (Int32.ofNat jcs.length), lI (own_ch p0), lI (own_ch p1), lI (own_ch p2), lR js, lR os_14, lI (own_e jcs p4), lI (own_p jcs), lI (1 : Int32), lI jn, lI (own_q jcs p4), lI (own_m p4), lU, lU, lU] [(.int (own_q jcs p4)), (.ref os_14)])) rfl (by rw [hml]; rfl) (Steps.refl _) (argsL := [(.int (own_q jcs p4))]) (rest := []) (lenOf own_pd27 rfl) rfl (by show 2 * 0 + _ ≤ _; exact Nat.le_of_eq rfl) (hb hby at_407) (fun _ _ => ⟨rfl, ej41, (by decide : 18 + 0 ≤ _), (by decide : 208 + 0 ≤ _)⟩)
              dsimp only [Pt.U, Pt.locs, Pt.cells, Pt.slots] at X71 l71 y71 z71 st71 hQ71
              subst y71 z71
              refine Go.tr st71 ?_
              obtain ⟨rfl, rfl, e71⟩ := hQ71
              have N71 : Fr n0 L71 := by rw [l71]; exact Fr.app Nj41 (Fr.nil n0)
              show Go _ _ _ _ (T71.setTop (mkF m 410 #[lI p0, lI p1, lI p2, lI p3, lJ p4, lS, lI (Int32.ofNat jcs.length), lI (own_ch p0), lI (own_ch p1), lI (own_ch p2), lR js, lR os_14, lI (own_e jcs p4), lI (own_p jcs), lI (1 : Int32), lI jn, lI (own_q jcs p4), lI (own_m p4), lU, lU, lU] [(.int ((own_RC jcs p4).getD (8 + jcs.length + (own_sg p4).length) 0))]))
              refine Go.st (fun _ => XS.bipush X71.here hx rfl (hb hby at_410)) ?_
              show Go _ _ _ _ (T71.setTop (mkF m 412 #[lI p0, lI p1, lI p2, lI p3, lJ p4, lS, lI (Int32.ofNat jcs.length), lI (own_ch p0), lI (own_ch p1), lI (own_ch p2), lR js, lR os_14, lI (own_e jcs p4), lI (own_p jcs), lI (1 : Int32), lI jn, lI (own_q jcs p4), lI (own_m p4), lU, lU, lU] [(.int 48), (.int ((own_RC jcs p4).getD (8 + jcs.length + (own_sg p4).length) 0))]))
              have hb72 : ¬ (((own_RC jcs p4).getD (8 + jcs.length + (own_sg p4).length) 0) = (48 : Int32)) := own_l412 hw1
              refine Go.st (fun _ => XS.icmpYes X71.here hx rfl (pc0 := 412) (pc' := 417) rfl (hb hby at_412) rfl (feq hb72).2 (by decide) (by decide)) ?_
              show Go _ _ _ _ (T71.setTop (mkF m 417 #[lI p0, lI p1, lI p2, lI p3, lJ p4, lS, lI (Int32.ofNat jcs.length), lI (own_ch p0), lI (own_ch p1), lI (own_ch p2), lR js, lR os_14, lI (own_e jcs p4), lI (own_p jcs), lI (1 : Int32), lI jn, lI (own_q jcs p4), lI (own_m p4), lU, lU, lU] []))
              exact J44 T71 _ (X71.more (by decide) (by decide)) e71 N71   
            · skip
              refine Go.st (fun _ => XS.icmpYes Xj41.here hx rfl (pc0 := 400) (pc' := 417) rfl (hb hby at_400) rfl (flt hc70).2.2.2 (by decide) (by decide)) ?_
              show Go _ _ _ _ (Tj41.setTop (mkF m 417 #[lI p0, lI p1, lI p2, lI p3, lJ p4, lS, lI (Int32.ofNat jcs.length), lI (own_ch p0), lI (own_ch p1), lI (own_ch p2), lR js, lR os_14, lI (own_e jcs p4), lI (own_p jcs), lI (1 : Int32), lI jn, lI (own_q jcs p4), lI (own_m p4), lU, lU, lU] []))
              exact J44 Tj41 _ (Xj41.more (by decide) (by decide)) ej41 Nj41   
          refine Go.st (fun _ => XS.bipush X40.here hx rfl (hb hby at_347)) ?_
          show Go _ _ _ _ (T40.setTop (mkF m 349 #[lI p0, lI p1, lI p2, lI p3, lJ p4, lS, lI (Int32.ofNat jcs.length), lI (own_ch p0), lI (own_ch p1), lI (own_ch p2), lR js, lR os_14, lI (own_e jcs p4), lI (own_p jcs), lI (1 : Int32), lU, lU, lU, lU, lU, lU] [(.int 45), (.int ((own_RC jcs p4).getD (8 + jcs.length) 0))]))
          by_cases hc73 : ((own_RC jcs p4).getD (8 + jcs.length) 0) = (45 : Int32)
          · skip
            refine Go.st (fun _ => XS.icmpNo X40.here hx rfl (hb hby at_349) rfl (teq hc73).2) ?_
            show Go _ _ _ _ (T40.setTop (mkF m 352 #[lI p0, lI p1, lI p2, lI p3, lJ p4, lS, lI (Int32.ofNat jcs.length), lI (own_ch p0), lI (own_ch p1), lI (own_ch p2), lR js, lR os_14, lI (own_e jcs p4), lI (own_p jcs), lI (1 : Int32), lU, lU, lU, lU, lU, lU] []))
            refine Go.st (fun _ => XS.iconst X40.here hx rfl (hb hby at_352)) ?_
            show Go _ _ _ _ (T40.setTop (mkF m 353 #[lI p0, lI p1, lI p2, lI p3, lJ p4, lS, lI (Int32.ofNat jcs.length), lI (own_ch p0), lI (own_ch p1), lI (own_ch p2), lR js, lR os_14, lI (own_e jcs p4), lI (own_p jcs), lI (1 : Int32), lU, lU, lU, lU, lU, lU] [(.int 1)]))
            refine Go.st (fun _ => XS.goto X40.here hx rfl (pc0 := 353) (pc' := 357) rfl (hb hby at_353) (by decide) (by decide)) ?_
            show Go _ _ _ _ (T40.setTop (mkF m 357 #[lI p0, lI p1, lI p2, lI p3, lJ p4, lS, lI (Int32.ofNat jcs.length), lI (own_ch p0), lI (own_ch p1), lI (own_ch p2), lR js, lR os_14, lI (own_e jcs p4), lI (own_p jcs), lI (1 : Int32), lU, lU, lU, lU, lU, lU] [(.int 1)]))
            refine Go.st (fun _ => XS.istore X40.here hx rfl (hb hby at_357) rfl (l' := #[lI p0, lI p1, lI p2, lI p3, lJ p4, lS, lI (Int32.ofNat jcs.length), lI (own_ch p0), lI (own_ch p1), lI (own_ch p2), lR js, lR os_14, lI (own_e jcs p4), lI (own_p jcs), lI (1 : Int32), lI (1 : Int32), lU, lU, lU, lU, lU]) rfl) ?_
            show Go _ _ _ _ (T40.setTop (mkF m 359 #[lI p0, lI p1, lI p2, lI p3, lJ p4, lS, lI (Int32.ofNat jcs.length), lI (own_ch p0), lI (own_ch p1), lI (own_ch p2), lR js, lR os_14, lI (own_e jcs p4), lI (own_p jcs), lI (1 : Int32), lI (1 : Int32), lU, lU, lU, lU, lU] []))
            refine Go.st (fun _ => XS.iload X40.here hx rfl (hb hby at_359) rfl) ?_
            show Go _ _ _ _ (T40.setTop (mkF m 361 #[lI p0, lI p1, lI p2, lI p3, lJ p4, lS, lI (Int32.ofNat jcs.length), lI (own_ch p0), lI (own_ch p1), lI (own_ch p2), lR js, lR os_14, lI (own_e jcs p4), lI (own_p jcs), lI (1 : Int32), lI (1 : Int32), lU, lU, lU, lU, lU] [(.int 1)]))
            refine Go.st (fun _ => XS.ifNo X40.here hx rfl (hb hby at_361) rfl ((if0 _ _).trans (feq (by decide)).1)) ?_
            show Go _ _ _ _ (T40.setTop (mkF m 364 #[lI p0, lI p1, lI p2, lI p3, lJ p4, lS, lI (Int32.ofNat jcs.length), lI (own_ch p0), lI (own_ch p1), lI (own_ch p2), lR js, lR os_14, lI (own_e jcs p4), lI (own_p jcs), lI (1 : Int32), lI (1 : Int32), lU, lU, lU, lU, lU] []))
            refine Go.st (fun _ => XS.iload X40.here hx rfl (hb hby at_364) rfl) ?_
            refine Go.st (fun _ => XS.iconst X40.here hx rfl (hb hby at_366)) ?_
            show Go _ _ _ _ (T40.setTop (mkF m 367 #[lI p0, lI p1, lI p2, lI p3, lJ p4, lS, lI (Int32.ofNat jcs.length), lI (own_ch p0), lI (own_ch p1), lI (own_ch p2), lR js, lR os_14, lI (own_e jcs p4), lI (own_p jcs), lI (1 : Int32), lI (1 : Int32), lU, lU, lU, lU, lU] [(.int 1), (.int (own_p jcs))]))
            refine Go.st (fun _ => XS.iadd X40.here hx rfl (hb hby at_367) rfl) ?_
            show Go _ _ _ _ (T40.setTop (mkF m 368 #[lI p0, lI p1, lI p2, lI p3, lJ p4, lS, lI (Int32.ofNat jcs.length), lI (own_ch p0), lI (own_ch p1), lI (own_ch p2), lR js, lR os_14, lI (own_e jcs p4), lI (own_p jcs), lI (1 : Int32), lI (1 : Int32), lU, lU, lU, lU, lU] [(.int ((own_p jcs) + (1 : Int32)))]))
            refine Go.st (fun _ => XS.goto X40.here hx rfl (pc0 := 368) (pc' := 373) rfl (hb hby at_368) (by decide) (by decide)) ?_
            show Go _ _ _ _ (T40.setTop (mkF m 373 #[lI p0, lI p1, lI p2, lI p3, lJ p4, lS, lI (Int32.ofNat jcs.length), lI (own_ch p0), lI (own_ch p1), lI (own_ch p2), lR js, lR os_14, lI (own_e jcs p4), lI (own_p jcs), lI (1 : Int32), lI (1 : Int32), lU, lU, lU, lU, lU] [(.int ((own_p jcs) + (1 : Int32)))]))
            refine Go.st (fun _ => XS.istore X40.here hx rfl (hb hby at_373) rfl (l' := #[lI p0, lI p1, lI p2, lI p3, lJ p4, lS, lI (Int32.ofNat jcs.length), lI (own_ch p0), lI (own_ch p1), lI (own_ch p2), lR js, lR os_14, lI (own_e jcs p4), lI (own_p jcs), lI (1 : Int32), lI (1 : Int32), lI ((own_p jcs) + (1 : Int32)), lU, lU, lU, lU]) rfl) ?_
            show Go _ _ _ _ (T40.setTop (mkF m 375 #[lI p0, lI p1, lI p2, lI p3, lJ p4, lS, lI (Int32.ofNat jcs.length), lI (own_ch p0), lI (own_ch p1), lI (own_ch p2), lR js, lR os_14, lI (own_e jcs p4), lI (own_p jcs), lI (1 : Int32), lI (1 : Int32), lI ((own_p jcs) + (1 : Int32)), lU, lU, lU, lU] []))
            exact J41 T40 _ (X40.more (by decide) (by decide)) e40 N40 (1 : Int32) ((own_p jcs) + (1 : Int32))  ⟨fun z => absurd z (by decide), fun z => absurd ((own_isneg jcs p4).mp (by assumption)) z⟩ ((own_addj 1 rfl).trans (congrArg Int32.ofNat (by rw [show own_sg p4 = [45] from if_pos ((own_isneg jcs p4).mp (by assumption))]; rfl)))
          · skip
            refine Go.st (fun _ => XS.icmpYes X40.here hx rfl (pc0 := 349) (pc' := 356) rfl (hb hby at_349) rfl (feq hc73).2 (by decide) (by decide)) ?_
            show Go _ _ _ _ (T40.setTop (mkF m 356 #[lI p0, lI p1, lI p2, lI p3, lJ p4, lS, lI (Int32.ofNat jcs.length), lI (own_ch p0), lI (own_ch p1), lI (own_ch p2), lR js, lR os_14, lI (own_e jcs p4), lI (own_p jcs), lI (1 : Int32), lU, lU, lU, lU, lU, lU] []))
            refine Go.st (fun _ => XS.iconst X40.here hx rfl (hb hby at_356)) ?_
            show Go _ _ _ _ (T40.setTop (mkF m 357 #[lI p0, lI p1, lI p2, lI p3, lJ p4, lS, lI (Int32.ofNat jcs.length), lI (own_ch p0), lI (own_ch p1), lI (own_ch p2), lR js, lR os_14, lI (own_e jcs p4), lI (own_p jcs), lI (1 : Int32), lU, lU, lU, lU, lU, lU] [(.int 0)]))
            refine Go.st (fun _ => XS.istore X40.here hx rfl (hb hby at_357) rfl (l' := #[lI p0, lI p1, lI p2, lI p3, lJ p4, lS, lI (Int32.ofNat jcs.length), lI (own_ch p0), lI (own_ch p1), lI (own_ch p2), lR js, lR os_14, lI (own_e jcs p4), lI (own_p jcs), lI (1 : Int32), lI (0 : Int32), lU, lU, lU, lU, lU]) rfl) ?_
            show Go _ _ _ _ (T40.setTop (mkF m 359 #[lI p0, lI p1, lI p2, lI p3, lJ p4, lS, lI (Int32.ofNat jcs.length), lI (own_ch p0), lI (own_ch p1), lI (own_ch p2), lR js, lR os_14, lI (own_e jcs p4), lI (own_p jcs), lI (1 : Int32), lI (0 : Int32), lU, lU, lU, lU, lU] []))
            refine Go.st (fun _ => XS.iload X40.here hx rfl (hb hby at_359) rfl) ?_
            show Go _ _ _ _ (T40.setTop (mkF m 361 #[lI p0, lI p1, lI p2, lI p3, lJ p4, lS, lI (Int32.ofNat jcs.length), lI (own_ch p0), lI (own_ch p1), lI (own_ch p2), lR js, lR os_14, lI (own_e jcs p4), lI (own_p jcs), lI (1 : Int32), lI (0 : Int32), lU, lU, lU, lU, lU] [(.int 0)]))
            refine Go.st (fun _ => XS.ifYes X40.here hx rfl (pc0 := 361) (pc' := 371) rfl (hb hby at_361) rfl ((if0 _ _).trans (teq (by decide)).1) (by decide) (by decide)) ?_
            show Go _ _ _ _ (T40.setTop (mkF m 371 #[lI p0, lI p1, lI p2, lI p3, lJ p4, lS, lI (Int32.ofNat jcs.length), lI (own_ch p0), lI (own_ch p1), lI (own_ch p2), lR js, lR os_14, lI (own_e jcs p4), lI (own_p jcs), lI (1 : Int32), lI (0 : Int32), lU, lU, lU, lU, lU] []))
            refine Go.st (fun _ => XS.iload X40.here hx rfl (hb hby at_371) rfl) ?_
            show Go _ _ _ _ (T40.setTop (mkF m 373 #[lI p0, lI p1, lI p2, lI p3, lJ p4, lS, lI (Int32.ofNat jcs.length), lI (own_ch p0), lI (own_ch p1), lI (own_ch p2), lR js, lR os_14, lI (own_e jcs p4), lI (own_p jcs), lI (1 : Int32), lI (0 : Int32), lU, lU, lU, lU, lU] [(.int (own_p jcs))]))
            refine Go.st (fun _ => XS.istore X40.here hx rfl (hb hby at_373) rfl (l' := #[lI p0, lI p1, lI p2, lI p3, lJ p4, lS, lI (Int32.ofNat jcs.length), lI (own_ch p0), lI (own_ch p1), lI (own_ch p2), lR js, lR os_14, lI (own_e jcs p4), lI (own_p jcs), lI (1 : Int32), lI (0 : Int32), lI (own_p jcs), lU, lU, lU, lU]) rfl) ?_
            show Go _ _ _ _ (T40.setTop (mkF m 375 #[lI p0, lI p1, lI p2, lI p3, lJ p4, lS, lI (Int32.ofNat jcs.length), lI (own_ch p0), lI (own_ch p1), lI (own_ch p2), lR js, lR os_14, lI (own_e jcs p4), lI (own_p jcs), lI (1 : Int32), lI (0 : Int32), lI (own_p jcs), lU, lU, lU, lU] []))
            exact J41 T40 _ (X40.more (by decide) (by decide)) e40 N40 (0 : Int32) (own_p jcs)  ⟨fun _ z => absurd ((own_isneg jcs p4).mpr z) (by assumption), fun _ => rfl⟩ (congrArg Int32.ofNat (by rw [show own_sg p4 = [] from if_neg (fun z => absurd ((own_isneg jcs p4).mpr z) (by assumption))]; rfl))
        by_cases hc74 : (Int32.ofNat jcs.length) < (3 : Int32)
        · skip
          refine Go.st (fun _ => XS.icmpYes Xj36.here hx rfl (pc0 := 303) (pc' := 318) rfl (hb hby at_303) rfl (tlt hc74).1 (by decide) (by decide)) ?_
          show Go _ _ _ _ (Tj36.setTop (mkF m 318 #[lI p0, lI p1, lI p2, lI p3, lJ p4, lS, lI (Int32.ofNat jcs.length), lI (own_ch p0), lI (own_ch p1), lI (own_ch p2), lR js, lR os_14, lI (own_e jcs p4), lI (own_p jcs), lI (1 : Int32), lU, lU, lU, lU, lU, lU] []))
          exact J37 Tj36 _ (Xj36.more (by decide) (by decide)) ej36 Nj36   
        · skip
          have hn2 : 3 ≤ jcs.length := own_lt_n (k := 3) hc74 hl3 (by decide)
          refine Go.st (fun _ => XS.icmpNo Xj36.here hx rfl (hb hby at_303) rfl (flt hc74).1) ?_
          show Go _ _ _ _ (Tj36.setTop (mkF m 306 #[lI p0, lI p1, lI p2, lI p3, lJ p4, lS, lI (Int32.ofNat jcs.length), lI (own_ch p0), lI (own_ch p1), lI (own_ch p2), lR js, lR os_14, lI (own_e jcs p4), lI (own_p jcs), lI (1 : Int32), lU, lU, lU, lU, lU, lU] []))
          refine Go.st (fun _ => XS.aload Xj36.here hx rfl (hb hby at_306) rfl rfl) ?_
          refine Go.st (fun _ => XS.bipush Xj36.here hx rfl (hb hby at_308)) ?_
          show Go _ _ _ _ (Tj36.setTop (mkF m 310 #[lI p0, lI p1, lI p2, lI p3, lJ p4, lS, lI (Int32.ofNat jcs.length), lI (own_ch p0), lI (own_ch p1), lI (own_ch p2), lR js, lR os_14, lI (own_e jcs p4), lI (own_p jcs), lI (1 : Int32), lU, lU, lU, lU, lU, lU] [(.int 9), (.ref os_14)]))
          have hcd75 : StrChars.Road.CodA (own_RC jcs p4) 0 (Int32.ofNat (own_RC jcs p4).length) (((own_RC jcs p4).map StrChars.lo8).map Value.int) := StrChars.Road.codOf (n := (own_RC jcs p4).length) rfl (fun c hc => ((own_smallRC p4 hpcj) c hc).2)
          obtain ⟨cq75, kq75, q75a, q75b, q75c⟩ := isOf hZ9 ej36 q9_1
          obtain ⟨_, _, ⟨T75, L75, k75, n75⟩, -, X75, ⟨Lc75, hQ75, l75, y75, z75⟩, st75⟩ := Xj36.virtualBack hx (y := (⟨"java/lang/String", "charAt", "(I)C"⟩ : MethodName)) (z := (⟨"java/lang/String", "charAt", "(I)C"⟩ : MethodName)) hown9 (mvT hZ9 (ow hw 208 rfl)) (mvT hZ9 (ow hw 209 rfl)) (notFace_of_selects (args := #[]) (mvT hZ9 (ow hw 211 rfl))) (mvT hZ9 (ow hw 211 rfl)) (mvT hZ9 (ow hw 210 rfl)) (by decide) (StrChars.Road.chN (W := 0) hZ9 (fun d hd => hw d (own_wCh d hd)) (kI := 4) (ow hw 10 rfl) q9_1 q9_3 q9_2 q9_4 hcd75 (own_up _ (own_smallRC p4 hpcj)) (S_CS.ext O9.2) nz_CS (S_SF.ext O9.2) r_SF (own_leRC p4 hl3) (i := 9) (by have := own_wpos p4; have := own_sg1 p4; rw [own_lenRC]; omega) (j := (9 : Int32)) rfl (by decide) (by decide)) q75a q75c (g := (mkF m 310 #[lI p0, lI p1, lI p2, lI p3, lJ p4, lS, lI (Int32.ofNat jcs.length), lI (own_ch p0), lI (own_ch p1), lI (own_ch p2), lR js, lR os_14, lI (own_e jcs p4), lI (own_p jcs), lI (1 : Int32), lU, lU, lU, lU, lU, lU] [(.int 9), (.ref os_14)])) rfl (by rw [hml]; rfl) (Steps.refl _) (argsL := [(.int 9)]) (rest := []) (lenOf own_pd27 rfl) rfl (by show 2 * 0 + _ ≤ _; exact Nat.le_of_eq rfl) (hb hby at_310) (fun _ _ => ⟨rfl, ej36, (by decide : 18 + 0 ≤ _), (by decide : 208 + 0 ≤ _)⟩)
          dsimp only [Pt.U, Pt.locs, Pt.cells, Pt.slots] at X75 l75 y75 z75 st75 hQ75
          subst y75 z75
          refine Go.tr st75 ?_
          obtain ⟨rfl, rfl, e75⟩ := hQ75
          have N75 : Fr n0 L75 := by rw [l75]; exact Fr.app Nj36 (Fr.nil n0)
          show Go _ _ _ _ (T75.setTop (mkF m 313 #[lI p0, lI p1, lI p2, lI p3, lJ p4, lS, lI (Int32.ofNat jcs.length), lI (own_ch p0), lI (own_ch p1), lI (own_ch p2), lR js, lR os_14, lI (own_e jcs p4), lI (own_p jcs), lI (1 : Int32), lU, lU, lU, lU, lU, lU] [(.int ((own_RC jcs p4).getD 9 0))]))
          refine Go.st (fun _ => XS.iload X75.here hx rfl (hb hby at_313) rfl) ?_
          show Go _ _ _ _ (T75.setTop (mkF m 315 #[lI p0, lI p1, lI p2, lI p3, lJ p4, lS, lI (Int32.ofNat jcs.length), lI (own_ch p0), lI (own_ch p1), lI (own_ch p2), lR js, lR os_14, lI (own_e jcs p4), lI (own_p jcs), lI (1 : Int32), lU, lU, lU, lU, lU, lU] [(.int (own_ch p2)), (.int ((own_RC jcs p4).getD 9 0))]))
          have hb76 : ((own_RC jcs p4).getD 9 0) = (own_ch p2) := (own_RCo jcs p4 (t := 2) (by omega)).trans (hjx.2.2 hn2)
          refine Go.st (fun _ => XS.icmpNo X75.here hx rfl (hb hby at_315) rfl (teq hb76).2) ?_
          show Go _ _ _ _ (T75.setTop (mkF m 318 #[lI p0, lI p1, lI p2, lI p3, lJ p4, lS, lI (Int32.ofNat jcs.length), lI (own_ch p0), lI (own_ch p1), lI (own_ch p2), lR js, lR os_14, lI (own_e jcs p4), lI (own_p jcs), lI (1 : Int32), lU, lU, lU, lU, lU, lU] []))
          exact J37 T75 _ (X75.more (by decide) (by decide)) e75 N75   
      by_cases hc77 : (Int32.ofNat jcs.length) < (2 : Int32)
      · skip
        refine Go.st (fun _ => XS.icmpYes Xj35.here hx rfl (pc0 := 285) (pc' := 300) rfl (hb hby at_285) rfl (tlt hc77).1 (by decide) (by decide)) ?_
        show Go _ _ _ _ (Tj35.setTop (mkF m 300 #[lI p0, lI p1, lI p2, lI p3, lJ p4, lS, lI (Int32.ofNat jcs.length), lI (own_ch p0), lI (own_ch p1), lI (own_ch p2), lR js, lR os_14, lI (own_e jcs p4), lI (own_p jcs), lI (1 : Int32), lU, lU, lU, lU, lU, lU] []))
        exact J36 Tj35 _ (Xj35.more (by decide) (by decide)) ej35 Nj35   
      · skip
        have hn1 : 2 ≤ jcs.length := own_lt_n (k := 2) hc77 hl3 (by decide)
        refine Go.st (fun _ => XS.icmpNo Xj35.here hx rfl (hb hby at_285) rfl (flt hc77).1) ?_
        show Go _ _ _ _ (Tj35.setTop (mkF m 288 #[lI p0, lI p1, lI p2, lI p3, lJ p4, lS, lI (Int32.ofNat jcs.length), lI (own_ch p0), lI (own_ch p1), lI (own_ch p2), lR js, lR os_14, lI (own_e jcs p4), lI (own_p jcs), lI (1 : Int32), lU, lU, lU, lU, lU, lU] []))
        refine Go.st (fun _ => XS.aload Xj35.here hx rfl (hb hby at_288) rfl rfl) ?_
        refine Go.st (fun _ => XS.bipush Xj35.here hx rfl (hb hby at_290)) ?_
        show Go _ _ _ _ (Tj35.setTop (mkF m 292 #[lI p0, lI p1, lI p2, lI p3, lJ p4, lS, lI (Int32.ofNat jcs.length), lI (own_ch p0), lI (own_ch p1), lI (own_ch p2), lR js, lR os_14, lI (own_e jcs p4), lI (own_p jcs), lI (1 : Int32), lU, lU, lU, lU, lU, lU] [(.int 8), (.ref os_14)]))
        have hcd78 : StrChars.Road.CodA (own_RC jcs p4) 0 (Int32.ofNat (own_RC jcs p4).length) (((own_RC jcs p4).map StrChars.lo8).map Value.int) := StrChars.Road.codOf (n := (own_RC jcs p4).length) rfl (fun c hc => ((own_smallRC p4 hpcj) c hc).2)
        obtain ⟨cq78, kq78, q78a, q78b, q78c⟩ := isOf hZ9 ej35 q9_1
        obtain ⟨_, _, ⟨T78, L78, k78, n78⟩, -, X78, ⟨Lc78, hQ78, l78, y78, z78⟩, st78⟩ := Xj35.virtualBack hx (y := (⟨"java/lang/String", "charAt", "(I)C"⟩ : MethodName)) (z := (⟨"java/lang/String", "charAt", "(I)C"⟩ : MethodName)) hown9 (mvT hZ9 (ow hw 208 rfl)) (mvT hZ9 (ow hw 209 rfl)) (notFace_of_selects (args := #[]) (mvT hZ9 (ow hw 211 rfl))) (mvT hZ9 (ow hw 211 rfl)) (mvT hZ9 (ow hw 210 rfl)) (by decide) (StrChars.Road.chN (W := 0) hZ9 (fun d hd => hw d (own_wCh d hd)) (kI := 4) (ow hw 10 rfl) q9_1 q9_3 q9_2 q9_4 hcd78 (own_up _ (own_smallRC p4 hpcj)) (S_CS.ext O9.2) nz_CS (S_SF.ext O9.2) r_SF (own_leRC p4 hl3) (i := 8) (by have := own_wpos p4; have := own_sg1 p4; rw [own_lenRC]; omega) (j := (8 : Int32)) rfl (by decide) (by decide)) q78a q78c (g := (mkF m 292 #[lI p0, lI p1, lI p2, lI p3, lJ p4, lS, lI (Int32.ofNat jcs.length), lI (own_ch p0), lI (own_ch p1), lI (own_ch p2), lR js, lR os_14, lI (own_e jcs p4), lI (own_p jcs), lI (1 : Int32), lU, lU, lU, lU, lU, lU] [(.int 8), (.ref os_14)])) rfl (by rw [hml]; rfl) (Steps.refl _) (argsL := [(.int 8)]) (rest := []) (lenOf own_pd27 rfl) rfl (by show 2 * 0 + _ ≤ _; exact Nat.le_of_eq rfl) (hb hby at_292) (fun _ _ => ⟨rfl, ej35, (by decide : 18 + 0 ≤ _), (by decide : 208 + 0 ≤ _)⟩)
        dsimp only [Pt.U, Pt.locs, Pt.cells, Pt.slots] at X78 l78 y78 z78 st78 hQ78
        subst y78 z78
        refine Go.tr st78 ?_
        obtain ⟨rfl, rfl, e78⟩ := hQ78
        have N78 : Fr n0 L78 := by rw [l78]; exact Fr.app Nj35 (Fr.nil n0)
        show Go _ _ _ _ (T78.setTop (mkF m 295 #[lI p0, lI p1, lI p2, lI p3, lJ p4, lS, lI (Int32.ofNat jcs.length), lI (own_ch p0), lI (own_ch p1), lI (own_ch p2), lR js, lR os_14, lI (own_e jcs p4), lI (own_p jcs), lI (1 : Int32), lU, lU, lU, lU, lU, lU] [(.int ((own_RC jcs p4).getD 8 0))]))
        refine Go.st (fun _ => XS.iload X78.here hx rfl (hb hby at_295) rfl) ?_
        show Go _ _ _ _ (T78.setTop (mkF m 297 #[lI p0, lI p1, lI p2, lI p3, lJ p4, lS, lI (Int32.ofNat jcs.length), lI (own_ch p0), lI (own_ch p1), lI (own_ch p2), lR js, lR os_14, lI (own_e jcs p4), lI (own_p jcs), lI (1 : Int32), lU, lU, lU, lU, lU, lU] [(.int (own_ch p1)), (.int ((own_RC jcs p4).getD 8 0))]))
        have hb79 : ((own_RC jcs p4).getD 8 0) = (own_ch p1) := (own_RCo jcs p4 (t := 1) (by omega)).trans (hjx.2.1 hn1)
        refine Go.st (fun _ => XS.icmpNo X78.here hx rfl (hb hby at_297) rfl (teq hb79).2) ?_
        show Go _ _ _ _ (T78.setTop (mkF m 300 #[lI p0, lI p1, lI p2, lI p3, lJ p4, lS, lI (Int32.ofNat jcs.length), lI (own_ch p0), lI (own_ch p1), lI (own_ch p2), lR js, lR os_14, lI (own_e jcs p4), lI (own_p jcs), lI (1 : Int32), lU, lU, lU, lU, lU, lU] []))
        exact J36 T78 _ (X78.more (by decide) (by decide)) e78 N78   
    by_cases hc80 : (Int32.ofNat jcs.length) < (1 : Int32)
    · skip
      refine Go.st (fun _ => XS.icmpYes X33.here hx rfl (pc0 := 267) (pc' := 282) rfl (hb hby at_267) rfl (tlt hc80).1 (by decide) (by decide)) ?_
      show Go _ _ _ _ (T33.setTop (mkF m 282 #[lI p0, lI p1, lI p2, lI p3, lJ p4, lS, lI (Int32.ofNat jcs.length), lI (own_ch p0), lI (own_ch p1), lI (own_ch p2), lR js, lR os_14, lI (own_e jcs p4), lI (own_p jcs), lI (1 : Int32), lU, lU, lU, lU, lU, lU] []))
      exact J35 T33 _ (X33.more (by decide) (by decide)) e33 N33   
    · skip
      have hn0 : 1 ≤ jcs.length := own_lt_n (k := 1) hc80 hl3 (by decide)
      refine Go.st (fun _ => XS.icmpNo X33.here hx rfl (hb hby at_267) rfl (flt hc80).1) ?_
      show Go _ _ _ _ (T33.setTop (mkF m 270 #[lI p0, lI p1, lI p2, lI p3, lJ p4, lS, lI (Int32.ofNat jcs.length), lI (own_ch p0), lI (own_ch p1), lI (own_ch p2), lR js, lR os_14, lI (own_e jcs p4), lI (own_p jcs), lI (1 : Int32), lU, lU, lU, lU, lU, lU] []))
      refine Go.st (fun _ => XS.aload X33.here hx rfl (hb hby at_270) rfl rfl) ?_
      refine Go.st (fun _ => XS.bipush X33.here hx rfl (hb hby at_272)) ?_
      show Go _ _ _ _ (T33.setTop (mkF m 274 #[lI p0, lI p1, lI p2, lI p3, lJ p4, lS, lI (Int32.ofNat jcs.length), lI (own_ch p0), lI (own_ch p1), lI (own_ch p2), lR js, lR os_14, lI (own_e jcs p4), lI (own_p jcs), lI (1 : Int32), lU, lU, lU, lU, lU, lU] [(.int 7), (.ref os_14)]))
      have hcd81 : StrChars.Road.CodA (own_RC jcs p4) 0 (Int32.ofNat (own_RC jcs p4).length) (((own_RC jcs p4).map StrChars.lo8).map Value.int) := StrChars.Road.codOf (n := (own_RC jcs p4).length) rfl (fun c hc => ((own_smallRC p4 hpcj) c hc).2)
      obtain ⟨cq81, kq81, q81a, q81b, q81c⟩ := isOf hZ9 e33 q9_1
      obtain ⟨_, _, ⟨T81, L81, k81, n81⟩, -, X81, ⟨Lc81, hQ81, l81, y81, z81⟩, st81⟩ := X33.virtualBack hx (y := (⟨"java/lang/String", "charAt", "(I)C"⟩ : MethodName)) (z := (⟨"java/lang/String", "charAt", "(I)C"⟩ : MethodName)) hown9 (mvT hZ9 (ow hw 208 rfl)) (mvT hZ9 (ow hw 209 rfl)) (notFace_of_selects (args := #[]) (mvT hZ9 (ow hw 211 rfl))) (mvT hZ9 (ow hw 211 rfl)) (mvT hZ9 (ow hw 210 rfl)) (by decide) (StrChars.Road.chN (W := 0) hZ9 (fun d hd => hw d (own_wCh d hd)) (kI := 4) (ow hw 10 rfl) q9_1 q9_3 q9_2 q9_4 hcd81 (own_up _ (own_smallRC p4 hpcj)) (S_CS.ext O9.2) nz_CS (S_SF.ext O9.2) r_SF (own_leRC p4 hl3) (i := 7) (by have := own_wpos p4; have := own_sg1 p4; rw [own_lenRC]; omega) (j := (7 : Int32)) rfl (by decide) (by decide)) q81a q81c (g := (mkF m 274 #[lI p0, lI p1, lI p2, lI p3, lJ p4, lS, lI (Int32.ofNat jcs.length), lI (own_ch p0), lI (own_ch p1), lI (own_ch p2), lR js, lR os_14, lI (own_e jcs p4), lI (own_p jcs), lI (1 : Int32), lU, lU, lU, lU, lU, lU] [(.int 7), (.ref os_14)])) rfl (by rw [hml]; rfl) (Steps.refl _) (argsL := [(.int 7)]) (rest := []) (lenOf own_pd27 rfl) rfl (by show 2 * 0 + _ ≤ _; exact Nat.le_of_eq rfl) (hb hby at_274) (fun _ _ => ⟨rfl, e33, (by decide : 18 + 0 ≤ _), (by decide : 208 + 0 ≤ _)⟩)
      dsimp only [Pt.U, Pt.locs, Pt.cells, Pt.slots] at X81 l81 y81 z81 st81 hQ81
      subst y81 z81
      refine Go.tr st81 ?_
      obtain ⟨rfl, rfl, e81⟩ := hQ81
      have N81 : Fr n0 L81 := by rw [l81]; exact Fr.app N33 (Fr.nil n0)
      show Go _ _ _ _ (T81.setTop (mkF m 277 #[lI p0, lI p1, lI p2, lI p3, lJ p4, lS, lI (Int32.ofNat jcs.length), lI (own_ch p0), lI (own_ch p1), lI (own_ch p2), lR js, lR os_14, lI (own_e jcs p4), lI (own_p jcs), lI (1 : Int32), lU, lU, lU, lU, lU, lU] [(.int ((own_RC jcs p4).getD 7 0))]))
      refine Go.st (fun _ => XS.iload X81.here hx rfl (hb hby at_277) rfl) ?_
      show Go _ _ _ _ (T81.setTop (mkF m 279 #[lI p0, lI p1, lI p2, lI p3, lJ p4, lS, lI (Int32.ofNat jcs.length), lI (own_ch p0), lI (own_ch p1), lI (own_ch p2), lR js, lR os_14, lI (own_e jcs p4), lI (own_p jcs), lI (1 : Int32), lU, lU, lU, lU, lU, lU] [(.int (own_ch p0)), (.int ((own_RC jcs p4).getD 7 0))]))
      have hb82 : ((own_RC jcs p4).getD 7 0) = (own_ch p0) := (own_RCo jcs p4 (t := 0) (by omega)).trans (hjx.1 hn0)
      refine Go.st (fun _ => XS.icmpNo X81.here hx rfl (hb hby at_279) rfl (teq hb82).2) ?_
      show Go _ _ _ _ (T81.setTop (mkF m 282 #[lI p0, lI p1, lI p2, lI p3, lJ p4, lS, lI (Int32.ofNat jcs.length), lI (own_ch p0), lI (own_ch p1), lI (own_ch p2), lR js, lR os_14, lI (own_e jcs p4), lI (own_p jcs), lI (1 : Int32), lU, lU, lU, lU, lU, lU] []))
      exact J35 T81 _ (X81.more (by decide) (by decide)) e81 N81   
  refine Go.st (fun _ => XS.iload X0.here hx rfl (hb hby at_29) rfl) ?_
  show Go _ _ _ _ (s₁.setTop (mkF m 31 #[lI p0, lI p1, lI p2, lI p3, lJ p4, lS, lI jl, lI (p0 &&& (255 : Int32)), lI (p1 &&& (255 : Int32)), lI (p2 &&& (255 : Int32)), lU, lU, lU, lU, lU, lU, lU, lU, lU, lU, lU] [(.int jl)]))
  by_cases hc83 : jl = (0 : Int32)
  · skip
    refine Go.st (fun _ => XS.ifNo X0.here hx rfl (hb hby at_31) rfl ((if0 _ _).trans (teq hc83).2)) ?_
    show Go _ _ _ _ (s₁.setTop (mkF m 34 #[lI p0, lI p1, lI p2, lI p3, lJ p4, lS, lI jl, lI (p0 &&& (255 : Int32)), lI (p1 &&& (255 : Int32)), lI (p2 &&& (255 : Int32)), lU, lU, lU, lU, lU, lU, lU, lU, lU, lU, lU] []))
    obtain ⟨T84, h84, X84, e84, E84, A84, D84, -, st84⟩ := newO X0 hx hZ hown (ow hw 236 rfl) (ow hw 10 rfl) (ow hw 2 rfl) e0 (g := (mkF m 34 #[lI p0, lI p1, lI p2, lI p3, lJ p4, lS, lI jl, lI (p0 &&& (255 : Int32)), lI (p1 &&& (255 : Int32)), lI (p2 &&& (255 : Int32)), lU, lU, lU, lU, lU, lU, lU, lU, lU, lU, lU] [])) rfl (hb hby at_34) (by decide) (by decide)
    obtain ⟨b84, g84⟩ : ∃ z, z = h0.size := ⟨_, rfl⟩
    rw [← g84] at A84 D84 st84
    refine Go.st st84 ?_
    have g_b84 : n0 ≤ b84 := Nat.le_trans (own_oldsz X00) (Nat.le_of_eq g84.symm)
    have sz_b84 : h0.size ≤ b84 := Nat.le_trans (Keep.refl h0 []).1 (Nat.le_of_eq g84.symm)
    have K84 : Keep h0 h84 [] := (Keep.refl h0 []).ext E84
    have O84 := X00.ext E84
    have SF_b84 : Safe Z consts_1 s.vm h84 b84 := Safe.ext E84 CR0.1 (Safe.new (Nat.le_of_eq g84.symm))
    have CR84 := CR0.trans (CHr.ext E84 CR0.1)
    have F85 : Fld Z h84 b84 "java/lang/String" "value" "[B" .null := D84 (Or.inr (ow hw 23 rfl)) (ty := (.array .byte)) (by decide)
    have F86 : Fld Z h84 b84 "java/lang/String" "coder" "B" (.int 0) := D84 (Or.inr (ow hw 25 rfl)) (ty := .byte) (by decide)
    show Go _ _ _ _ (T84.setTop (mkF m 37 #[lI p0, lI p1, lI p2, lI p3, lJ p4, lS, lI jl, lI (p0 &&& (255 : Int32)), lI (p1 &&& (255 : Int32)), lI (p2 &&& (255 : Int32)), lU, lU, lU, lU, lU, lU, lU, lU, lU, lU, lU] [(.ref b84)]))
    refine Go.st (fun _ => XS.dup X84.here hx rfl (hb hby at_37) rfl rfl) ?_
    refine Go.st (fun _ => XS.iconst X84.here hx rfl (hb hby at_38)) ?_
    show Go _ _ _ _ (T84.setTop (mkF m 39 #[lI p0, lI p1, lI p2, lI p3, lJ p4, lS, lI jl, lI (p0 &&& (255 : Int32)), lI (p1 &&& (255 : Int32)), lI (p2 &&& (255 : Int32)), lU, lU, lU, lU, lU, lU, lU, lU, lU, lU, lU] [(.int 0), (.ref b84), (.ref b84)]))
    obtain ⟨T87, h87, k87, X87, e87, E87, A87, st87⟩ := newP X84 hx hZ (ow hw 237 rfl) e84 (g := (mkF m 39 #[lI p0, lI p1, lI p2, lI p3, lJ p4, lS, lI jl, lI (p0 &&& (255 : Int32)), lI (p1 &&& (255 : Int32)), lI (p2 &&& (255 : Int32)), lU, lU, lU, lU, lU, lU, lU, lU, lU, lU, lU] [(.int 0), (.ref b84), (.ref b84)])) rfl (hb hby at_39) rfl (by decide) (cap := 0) (by decide) (by decide) (by decide) (by decide)
    obtain ⟨b87, g87⟩ : ∃ z, z = h84.size := ⟨_, rfl⟩
    rw [← g87] at A87 st87
    refine Go.st st87 ?_
    have g_b87 : n0 ≤ b87 := Nat.le_trans (own_oldsz O84) (Nat.le_of_eq g87.symm)
    have sz_b87 : h0.size ≤ b87 := Nat.le_trans K84.1 (Nat.le_of_eq g87.symm)
    have K87 : Keep h0 h87 [] := K84.ext E87
    have O87 := O84.ext E87
    have sf88 := Safe.ext E87 CR84.1 SF_b84
    have SF_b87 : Safe Z consts_1 s.vm h87 b87 := Safe.ext E87 CR84.1 (Safe.new (Nat.le_of_eq g87.symm))
    have CR87 := CR84.trans (CHr.ext E87 CR84.1)
    have V87 : Arv Z h87 b87 k87 .char (0 : Int32) [] (.int 0) := (Arv.new A87 (by decide)).pad (pad_rep [] (.int 0) 0)
    show Go _ _ _ _ (T87.setTop (mkF m 41 #[lI p0, lI p1, lI p2, lI p3, lJ p4, lS, lI jl, lI (p0 &&& (255 : Int32)), lI (p1 &&& (255 : Int32)), lI (p2 &&& (255 : Int32)), lU, lU, lU, lU, lU, lU, lU, lU, lU, lU, lU] [(.ref b87), (.ref b84), (.ref b84)]))
    have c90 := (A84.ext E87)
    have c91 := (F85.ext E87)
    have c92 := (F86.ext E87)
    obtain ⟨_, _, ⟨T89, L89, k89, n89⟩, -, X89, hS89, hg89, ⟨Lc89, hQ89, l89, y89, z89, hCR89⟩, st89⟩ := X87.specialBackS hx (y := (⟨"java/lang/String", "<init>", "([C)V"⟩ : MethodName)) rfl hown (mvT hZ (ow hw 238 rfl)) (mvT hZ (ow hw 239 rfl)) (mvT hZ (ow hw 240 rfl)) (by decide) (backOfSH (W := 1) (rm_emp1 l Z a0 hw [] g_CS S_CS nz_CS b84 b87 k87 h87 n0 O87 c90 c91 c92 g_b84 V87) hZ (ow hw 240 rfl) (ow hw 2 rfl) (by decide) (by decide) hEL CR87.1) (g := (mkF m 41 #[lI p0, lI p1, lI p2, lI p3, lJ p4, lS, lI jl, lI (p0 &&& (255 : Int32)), lI (p1 &&& (255 : Int32)), lI (p2 &&& (255 : Int32)), lU, lU, lU, lU, lU, lU, lU, lU, lU, lU, lU] [(.ref b87), (.ref b84), (.ref b84)])) rfl (by rw [hml]; rfl) (Steps.refl _) (a := b84) (argsL := [(.ref b87)]) (rest := [(.ref b84)]) (lenOf own_pd30 rfl) rfl (by show 2 * 0 + _ ≤ _; exact Nat.le_of_eq rfl) (hb hby at_41) (fun _ _ => ⟨rfl, e87, (by decide : 2 + 4 ≤ _), (by decide : 4 + 8 ≤ _)⟩)
    dsimp only [Pt.U, Pt.locs, Pt.cells, Pt.slots] at X89 l89 y89 z89 st89 hQ89 hS89 hg89 hCR89
    subst y89 z89
    refine Go.tr st89 ?_
    obtain ⟨XX89, hSS89, hZ89, hown89⟩ := rebS hS0 (by rw [e87]; exact (Nat.le_trans (Nat.le_trans hk0 E84.1) E87.1)) X89 hS89 hg89 hZ hown
    obtain ⟨vb_93, kb_94, rfl, N89q, K89q, q89_0, q89_1, q89_2, q89_3⟩ := hQ89
    have N89 : Fr n0 L89 := by rw [l89]; exact Fr.app N0 N89q
    have sf95 := hCR89.safe c90.lt sf88
    have sf96 := hCR89.safe V87.lt SF_b87
    have CR89 := CR87.trans hCR89
    have O89 := O87.keep K89q (allS g_b84 all0)
    have K89 : Keep h0 T89.heap [] := K87.trans K89q (allS (Or.inr sz_b84) all0)
    show Go _ _ _ _ (T89.setTop (mkF m 44 #[lI p0, lI p1, lI p2, lI p3, lJ p4, lS, lI jl, lI (p0 &&& (255 : Int32)), lI (p1 &&& (255 : Int32)), lI (p2 &&& (255 : Int32)), lU, lU, lU, lU, lU, lU, lU, lU, lU, lU, lU] [(.ref b84)]))
    refine Go.st (fun _ => XS.astore XX89.here hx rfl (hb hby at_44) rfl rfl (l' := #[lI p0, lI p1, lI p2, lI p3, lJ p4, lS, lI jl, lI (p0 &&& (255 : Int32)), lI (p1 &&& (255 : Int32)), lI (p2 &&& (255 : Int32)), lR b84, lU, lU, lU, lU, lU, lU, lU, lU, lU, lU]) rfl) ?_
    show Go _ _ _ _ (T89.setTop (mkF m 46 #[lI p0, lI p1, lI p2, lI p3, lJ p4, lS, lI jl, lI (p0 &&& (255 : Int32)), lI (p1 &&& (255 : Int32)), lI (p2 &&& (255 : Int32)), lR b84, lU, lU, lU, lU, lU, lU, lU, lU, lU, lU] []))
    refine Go.st (fun _ => XS.goto XX89.here hx rfl (pc0 := 46) (pc' := 123) rfl (hb hby at_46) (by decide) (by decide)) ?_
    show Go _ _ _ _ (T89.setTop (mkF m 123 #[lI p0, lI p1, lI p2, lI p3, lJ p4, lS, lI jl, lI (p0 &&& (255 : Int32)), lI (p1 &&& (255 : Int32)), lI (p2 &&& (255 : Int32)), lR b84, lU, lU, lU, lU, lU, lU, lU, lU, lU, lU] []))
    exact J1 T89 T89.heap _ _ _ (XX89.more (by decide) (by decide)) rfl K89 O89 N89 hSS89 (Nat.le_refl _) hZ89 hown89 CR89  b84 ([] : List Int32) vb_93 kb_94  q89_0 q89_1 q89_2 q89_3 (fun c hc => absurd hc (List.not_mem_nil)) (Nat.le_of_ble_eq_true rfl) (by assumption) (by simp)
  · skip
    refine Go.st (fun _ => XS.ifYes X0.here hx rfl (pc0 := 31) (pc' := 49) rfl (hb hby at_31) rfl ((if0 _ _).trans (feq hc83).2) (by decide) (by decide)) ?_
    show Go _ _ _ _ (s₁.setTop (mkF m 49 #[lI p0, lI p1, lI p2, lI p3, lJ p4, lS, lI jl, lI (p0 &&& (255 : Int32)), lI (p1 &&& (255 : Int32)), lI (p2 &&& (255 : Int32)), lU, lU, lU, lU, lU, lU, lU, lU, lU, lU, lU] []))
    refine Go.st (fun _ => XS.iload X0.here hx rfl (hb hby at_49) rfl) ?_
    refine Go.st (fun _ => XS.iconst X0.here hx rfl (hb hby at_51)) ?_
    show Go _ _ _ _ (s₁.setTop (mkF m 52 #[lI p0, lI p1, lI p2, lI p3, lJ p4, lS, lI jl, lI (p0 &&& (255 : Int32)), lI (p1 &&& (255 : Int32)), lI (p2 &&& (255 : Int32)), lU, lU, lU, lU, lU, lU, lU, lU, lU, lU, lU] [(.int 1), (.int jl)]))
    by_cases hc97 : jl = (1 : Int32)
    · skip
      refine Go.st (fun _ => XS.icmpNo X0.here hx rfl (hb hby at_52) rfl (teq hc97).2) ?_
      show Go _ _ _ _ (s₁.setTop (mkF m 55 #[lI p0, lI p1, lI p2, lI p3, lJ p4, lS, lI jl, lI (p0 &&& (255 : Int32)), lI (p1 &&& (255 : Int32)), lI (p2 &&& (255 : Int32)), lU, lU, lU, lU, lU, lU, lU, lU, lU, lU, lU] []))
      refine Go.st (fun _ => XS.iload X0.here hx rfl (hb hby at_55) rfl) ?_
      show Go _ _ _ _ (s₁.setTop (mkF m 57 #[lI p0, lI p1, lI p2, lI p3, lJ p4, lS, lI jl, lI (p0 &&& (255 : Int32)), lI (p1 &&& (255 : Int32)), lI (p2 &&& (255 : Int32)), lU, lU, lU, lU, lU, lU, lU, lU, lU, lU, lU] [(.int (p0 &&& (255 : Int32)))]))
      obtain ⟨_, _, ⟨T98, L98, k98, n98⟩, -, X98, ⟨Lc98, hQ98, l98, y98, z98⟩, st98⟩ := Jvm.LawKit.callS X0 hx (y := (⟨"java/lang/String", "valueOf", "(C)Ljava/lang/String;"⟩ : MethodName)) hown (mvT hZ (ow hw 0 rfl)) (mvT hZ (ow hw 1 rfl)) (mvT hZ (ow hw 2 rfl)) (mvT hZ (ow hw 3 rfl)) (by decide) (backOf (W := 0) (rm_valOf l Z a0 hw [] g_CS S_CS nz_CS (p0 &&& (255 : Int32)) h0 n0 X00 (own_and255 _)) hZ (ow hw 3 rfl) (ow hw 2 rfl) (by decide) (by decide)) (g := (mkF m 57 #[lI p0, lI p1, lI p2, lI p3, lJ p4, lS, lI jl, lI (p0 &&& (255 : Int32)), lI (p1 &&& (255 : Int32)), lI (p2 &&& (255 : Int32)), lU, lU, lU, lU, lU, lU, lU, lU, lU, lU, lU] [(.int (p0 &&& (255 : Int32)))])) rfl (by rw [hml]; rfl) (argsL := [(.int (p0 &&& (255 : Int32)))]) (rest := []) (lenOf own_pd31 rfl) rfl (by show 2 * 0 + _ ≤ _; exact Nat.le_of_eq rfl) (hb hby at_57) (fun _ _ => ⟨rfl, e0, (by decide : 0 + 2 ≤ _), (by decide : 0 + 5 ≤ _)⟩)
      dsimp only [Pt.U, Pt.locs, Pt.cells, Pt.slots] at X98 l98 y98 z98 st98 hQ98
      subst y98 z98
      refine Go.st st98 ?_
      obtain ⟨ob_99, vb_100, kb_101, rfl, N98q, K98q, q98_0, q98_1, q98_2, q98_3, q98_4, q98_5⟩ := hQ98
      have N98 : Fr n0 L98 := by rw [l98]; exact Fr.app N0 N98q
      have SN98_0 : Safe Z consts_1 s.vm h0 ob_99 := Safe.new q98_0
      have SN98_1 : Safe Z consts_1 s.vm h0 vb_100 := Safe.new q98_1
      have O98 := X00.keep K98q all0
      have K98 : Keep h0 T98.heap [] := (Keep.refl h0 []).trans K98q all0
      have sf102 := Safe.keep K98q sf0 CR0.1 SN98_0
      have sf103 := Safe.keep K98q sf0 CR0.1 SN98_1
      have CR98 := CR0.trans (CHr.keep K98q sf0 CR0.1)
      have sz_ob_99 : h0.size ≤ ob_99 := Nat.le_trans (Keep.refl h0 []).1 q98_0
      have g_ob_99 : n0 ≤ ob_99 := Nat.le_trans (own_oldsz X00) sz_ob_99
      have sz_vb_100 : h0.size ≤ vb_100 := Nat.le_trans (Keep.refl h0 []).1 q98_1
      have g_vb_100 : n0 ≤ vb_100 := Nat.le_trans (own_oldsz X00) sz_vb_100
      show Go _ _ _ _ (T98.setTop (mkF m 60 #[lI p0, lI p1, lI p2, lI p3, lJ p4, lS, lI jl, lI (p0 &&& (255 : Int32)), lI (p1 &&& (255 : Int32)), lI (p2 &&& (255 : Int32)), lU, lU, lU, lU, lU, lU, lU, lU, lU, lU, lU] [(.ref ob_99)]))
      refine Go.st (fun _ => XS.astore X98.here hx rfl (hb hby at_60) rfl rfl (l' := #[lI p0, lI p1, lI p2, lI p3, lJ p4, lS, lI jl, lI (p0 &&& (255 : Int32)), lI (p1 &&& (255 : Int32)), lI (p2 &&& (255 : Int32)), lR ob_99, lU, lU, lU, lU, lU, lU, lU, lU, lU, lU]) rfl) ?_
      show Go _ _ _ _ (T98.setTop (mkF m 62 #[lI p0, lI p1, lI p2, lI p3, lJ p4, lS, lI jl, lI (p0 &&& (255 : Int32)), lI (p1 &&& (255 : Int32)), lI (p2 &&& (255 : Int32)), lR ob_99, lU, lU, lU, lU, lU, lU, lU, lU, lU, lU] []))
      refine Go.st (fun _ => XS.goto X98.here hx rfl (pc0 := 62) (pc' := 123) rfl (hb hby at_62) (by decide) (by decide)) ?_
      show Go _ _ _ _ (T98.setTop (mkF m 123 #[lI p0, lI p1, lI p2, lI p3, lJ p4, lS, lI jl, lI (p0 &&& (255 : Int32)), lI (p1 &&& (255 : Int32)), lI (p2 &&& (255 : Int32)), lR ob_99, lU, lU, lU, lU, lU, lU, lU, lU, lU, lU] []))
      exact J1 T98 T98.heap _ _ _ (X98.more (by decide) (by decide)) rfl K98 O98 N98 hS0 (Nat.le_trans hk0 K98q.1) hZ hown CR98  ob_99 ([(p0 &&& (255 : Int32))] : List Int32) vb_100 kb_101  q98_2 q98_3 q98_4 q98_5 (own_one (own_and255 _)) (Nat.le_of_ble_eq_true rfl) (by assumption) (by simp)
    · skip
      refine Go.st (fun _ => XS.icmpYes X0.here hx rfl (pc0 := 52) (pc' := 65) rfl (hb hby at_52) rfl (feq hc97).2 (by decide) (by decide)) ?_
      show Go _ _ _ _ (s₁.setTop (mkF m 65 #[lI p0, lI p1, lI p2, lI p3, lJ p4, lS, lI jl, lI (p0 &&& (255 : Int32)), lI (p1 &&& (255 : Int32)), lI (p2 &&& (255 : Int32)), lU, lU, lU, lU, lU, lU, lU, lU, lU, lU, lU] []))
      refine Go.st (fun _ => XS.iload X0.here hx rfl (hb hby at_65) rfl) ?_
      refine Go.st (fun _ => XS.iconst X0.here hx rfl (hb hby at_67)) ?_
      show Go _ _ _ _ (s₁.setTop (mkF m 68 #[lI p0, lI p1, lI p2, lI p3, lJ p4, lS, lI jl, lI (p0 &&& (255 : Int32)), lI (p1 &&& (255 : Int32)), lI (p2 &&& (255 : Int32)), lU, lU, lU, lU, lU, lU, lU, lU, lU, lU, lU] [(.int 2), (.int jl)]))
      by_cases hc104 : jl = (2 : Int32)
      · skip
        refine Go.st (fun _ => XS.icmpNo X0.here hx rfl (hb hby at_68) rfl (teq hc104).2) ?_
        show Go _ _ _ _ (s₁.setTop (mkF m 71 #[lI p0, lI p1, lI p2, lI p3, lJ p4, lS, lI jl, lI (p0 &&& (255 : Int32)), lI (p1 &&& (255 : Int32)), lI (p2 &&& (255 : Int32)), lU, lU, lU, lU, lU, lU, lU, lU, lU, lU, lU] []))
        obtain ⟨T105, h105, X105, e105, E105, A105, D105, -, st105⟩ := newO X0 hx hZ hown (ow hw 236 rfl) (ow hw 10 rfl) (ow hw 2 rfl) e0 (g := (mkF m 71 #[lI p0, lI p1, lI p2, lI p3, lJ p4, lS, lI jl, lI (p0 &&& (255 : Int32)), lI (p1 &&& (255 : Int32)), lI (p2 &&& (255 : Int32)), lU, lU, lU, lU, lU, lU, lU, lU, lU, lU, lU] [])) rfl (hb hby at_71) (by decide) (by decide)
        obtain ⟨b105, g105⟩ : ∃ z, z = h0.size := ⟨_, rfl⟩
        rw [← g105] at A105 D105 st105
        refine Go.st st105 ?_
        have g_b105 : n0 ≤ b105 := Nat.le_trans (own_oldsz X00) (Nat.le_of_eq g105.symm)
        have sz_b105 : h0.size ≤ b105 := Nat.le_trans (Keep.refl h0 []).1 (Nat.le_of_eq g105.symm)
        have K105 : Keep h0 h105 [] := (Keep.refl h0 []).ext E105
        have O105 := X00.ext E105
        have SF_b105 : Safe Z consts_1 s.vm h105 b105 := Safe.ext E105 CR0.1 (Safe.new (Nat.le_of_eq g105.symm))
        have CR105 := CR0.trans (CHr.ext E105 CR0.1)
        have F106 : Fld Z h105 b105 "java/lang/String" "value" "[B" .null := D105 (Or.inr (ow hw 23 rfl)) (ty := (.array .byte)) (by decide)
        have F107 : Fld Z h105 b105 "java/lang/String" "coder" "B" (.int 0) := D105 (Or.inr (ow hw 25 rfl)) (ty := .byte) (by decide)
        show Go _ _ _ _ (T105.setTop (mkF m 74 #[lI p0, lI p1, lI p2, lI p3, lJ p4, lS, lI jl, lI (p0 &&& (255 : Int32)), lI (p1 &&& (255 : Int32)), lI (p2 &&& (255 : Int32)), lU, lU, lU, lU, lU, lU, lU, lU, lU, lU, lU] [(.ref b105)]))
        refine Go.st (fun _ => XS.dup X105.here hx rfl (hb hby at_74) rfl rfl) ?_
        refine Go.st (fun _ => XS.iconst X105.here hx rfl (hb hby at_75)) ?_
        show Go _ _ _ _ (T105.setTop (mkF m 76 #[lI p0, lI p1, lI p2, lI p3, lJ p4, lS, lI jl, lI (p0 &&& (255 : Int32)), lI (p1 &&& (255 : Int32)), lI (p2 &&& (255 : Int32)), lU, lU, lU, lU, lU, lU, lU, lU, lU, lU, lU] [(.int 2), (.ref b105), (.ref b105)]))
        obtain ⟨T108, h108, k108, X108, e108, E108, A108, st108⟩ := newP X105 hx hZ (ow hw 237 rfl) e105 (g := (mkF m 76 #[lI p0, lI p1, lI p2, lI p3, lJ p4, lS, lI jl, lI (p0 &&& (255 : Int32)), lI (p1 &&& (255 : Int32)), lI (p2 &&& (255 : Int32)), lU, lU, lU, lU, lU, lU, lU, lU, lU, lU, lU] [(.int 2), (.ref b105), (.ref b105)])) rfl (hb hby at_76) rfl (by decide) (cap := 2) (by decide) (by decide) (by decide) (by decide)
        obtain ⟨b108, g108⟩ : ∃ z, z = h105.size := ⟨_, rfl⟩
        rw [← g108] at A108 st108
        refine Go.st st108 ?_
        have g_b108 : n0 ≤ b108 := Nat.le_trans (own_oldsz O105) (Nat.le_of_eq g108.symm)
        have sz_b108 : h0.size ≤ b108 := Nat.le_trans K105.1 (Nat.le_of_eq g108.symm)
        have K108 : Keep h0 h108 [] := K105.ext E108
        have O108 := O105.ext E108
        have sf109 := Safe.ext E108 CR105.1 SF_b105
        have SF_b108 : Safe Z consts_1 s.vm h108 b108 := Safe.ext E108 CR105.1 (Safe.new (Nat.le_of_eq g108.symm))
        have CR108 := CR105.trans (CHr.ext E108 CR105.1)
        have V108 : Arv Z h108 b108 k108 .char (2 : Int32) [(.int 0), (.int 0)] (.int 0) := (Arv.new A108 (by decide)).pad (pad_rep [] (.int 0) 2)
        show Go _ _ _ _ (T108.setTop (mkF m 78 #[lI p0, lI p1, lI p2, lI p3, lJ p4, lS, lI jl, lI (p0 &&& (255 : Int32)), lI (p1 &&& (255 : Int32)), lI (p2 &&& (255 : Int32)), lU, lU, lU, lU, lU, lU, lU, lU, lU, lU, lU] [(.ref b108), (.ref b105), (.ref b105)]))
        refine Go.st (fun _ => XS.dup X108.here hx rfl (hb hby at_78) rfl rfl) ?_
        refine Go.st (fun _ => XS.iconst X108.here hx rfl (hb hby at_79)) ?_
        refine Go.st (fun _ => XS.iload X108.here hx rfl (hb hby at_80) rfl) ?_
        show Go _ _ _ _ (T108.setTop (mkF m 82 #[lI p0, lI p1, lI p2, lI p3, lJ p4, lS, lI jl, lI (p0 &&& (255 : Int32)), lI (p1 &&& (255 : Int32)), lI (p2 &&& (255 : Int32)), lU, lU, lU, lU, lU, lU, lU, lU, lU, lU, lU] [(.int (p0 &&& (255 : Int32))), (.int 0), (.ref b108), (.ref b108), (.ref b105), (.ref b105)]))
        obtain ⟨T110, h110, X110, e110, W110, V110, st110⟩ := own_stC X108 hx hZ e108 V108 (j := (0 : Int32)) (i := 0) (by decide) (by decide) (Nat.le_of_ble_eq_true rfl) (g := (mkF m 82 #[lI p0, lI p1, lI p2, lI p3, lJ p4, lS, lI jl, lI (p0 &&& (255 : Int32)), lI (p1 &&& (255 : Int32)), lI (p2 &&& (255 : Int32)), lU, lU, lU, lU, lU, lU, lU, lU, lU, lU, lU] [(.int (p0 &&& (255 : Int32))), (.int 0), (.ref b108), (.ref b108), (.ref b105), (.ref b105)])) rfl rfl (hb hby at_82)
        refine Go.st st110 ?_
        rw [show nar .char (p0 &&& (255 : Int32)) = (p0 &&& (255 : Int32)) from i2c_mask _] at V110
        have sf111 := Safe.wr W110 SF_b108 CR108.1 sf109
        have sf112 := Safe.wr W110 SF_b108 CR108.1 SF_b108
        have CR110 := CR108.trans (CHr.wr W110 SF_b108 CR108.1)
        have K110 : Keep h0 h110 [] := K108.wr W110 (Or.inr sz_b108)
        have O110 := O108.wr W110 g_b108
        have N110 := Fr.snoc X110 N0 g_b108
        have V110' : Arv Z h110 b108 k108 .char (2 : Int32) [(.int (p0 &&& (255 : Int32))), (.int 0)] (.int 0) := V110
        show Go _ _ _ _ (T110.setTop (mkF m 83 #[lI p0, lI p1, lI p2, lI p3, lJ p4, lS, lI jl, lI (p0 &&& (255 : Int32)), lI (p1 &&& (255 : Int32)), lI (p2 &&& (255 : Int32)), lU, lU, lU, lU, lU, lU, lU, lU, lU, lU, lU] [(.ref b108), (.ref b105), (.ref b105)]))
        refine Go.st (fun _ => XS.dup X110.here hx rfl (hb hby at_83) rfl rfl) ?_
        refine Go.st (fun _ => XS.iconst X110.here hx rfl (hb hby at_84)) ?_
        refine Go.st (fun _ => XS.iload X110.here hx rfl (hb hby at_85) rfl) ?_
        show Go _ _ _ _ (T110.setTop (mkF m 87 #[lI p0, lI p1, lI p2, lI p3, lJ p4, lS, lI jl, lI (p0 &&& (255 : Int32)), lI (p1 &&& (255 : Int32)), lI (p2 &&& (255 : Int32)), lU, lU, lU, lU, lU, lU, lU, lU, lU, lU, lU] [(.int (p1 &&& (255 : Int32))), (.int 1), (.ref b108), (.ref b108), (.ref b105), (.ref b105)]))
        obtain ⟨T113, h113, X113, e113, W113, V113, st113⟩ := own_stC X110 hx hZ e110 V110' (j := (1 : Int32)) (i := 1) (by decide) (by decide) (Nat.le_of_ble_eq_true rfl) (g := (mkF m 87 #[lI p0, lI p1, lI p2, lI p3, lJ p4, lS, lI jl, lI (p0 &&& (255 : Int32)), lI (p1 &&& (255 : Int32)), lI (p2 &&& (255 : Int32)), lU, lU, lU, lU, lU, lU, lU, lU, lU, lU, lU] [(.int (p1 &&& (255 : Int32))), (.int 1), (.ref b108), (.ref b108), (.ref b105), (.ref b105)])) rfl rfl (hb hby at_87)
        refine Go.st st113 ?_
        rw [show nar .char (p1 &&& (255 : Int32)) = (p1 &&& (255 : Int32)) from i2c_mask _] at V113
        have sf114 := Safe.wr W113 sf112 CR110.1 sf111
        have sf115 := Safe.wr W113 sf112 CR110.1 sf112
        have CR113 := CR110.trans (CHr.wr W113 sf112 CR110.1)
        have K113 : Keep h0 h113 [] := K110.wr W113 (Or.inr sz_b108)
        have O113 := O110.wr W113 g_b108
        have N113 := Fr.snoc X113 N110 g_b108
        have V113' : Arv Z h113 b108 k108 .char (2 : Int32) [(.int (p0 &&& (255 : Int32))), (.int (p1 &&& (255 : Int32)))] (.int 0) := V113
        show Go _ _ _ _ (T113.setTop (mkF m 88 #[lI p0, lI p1, lI p2, lI p3, lJ p4, lS, lI jl, lI (p0 &&& (255 : Int32)), lI (p1 &&& (255 : Int32)), lI (p2 &&& (255 : Int32)), lU, lU, lU, lU, lU, lU, lU, lU, lU, lU, lU] [(.ref b108), (.ref b105), (.ref b105)]))
        have c117 := (((A105.ext E108).wr W110).wr W113)
        have c118 := (((F106.ext E108).other W110 (Or.inl (Nat.ne_of_lt (Nat.lt_of_lt_of_le A105.lt (Nat.le_of_eq g108.symm))))).other W113 (Or.inl (Nat.ne_of_lt (Nat.lt_of_lt_of_le A105.lt (Nat.le_of_eq g108.symm)))))
        have c119 := (((F107.ext E108).other W110 (Or.inl (Nat.ne_of_lt (Nat.lt_of_lt_of_le A105.lt (Nat.le_of_eq g108.symm))))).other W113 (Or.inl (Nat.ne_of_lt (Nat.lt_of_lt_of_le A105.lt (Nat.le_of_eq g108.symm)))))
        have hp116 : ∀ c ∈ ([(p0 &&& (255 : Int32)), (p1 &&& (255 : Int32))] : List Int32), ¬ c < 0 ∧ ¬ (255 : Int32) < c := by
          intro c hc
          simp only [List.mem_cons, List.not_mem_nil, or_false] at hc
          rcases hc with rfl | rfl
          · exact own_and255 _
          · exact own_and255 _
        obtain ⟨_, _, ⟨T116, L116, k116, n116⟩, -, X116, ⟨Lc116, hQ116, l116, y116, z116⟩, st116⟩ := X113.specialBack hx (y := (⟨"java/lang/String", "<init>", "([C)V"⟩ : MethodName)) rfl hown (mvT hZ (ow hw 238 rfl)) (mvT hZ (ow hw 239 rfl)) (mvT hZ (ow hw 240 rfl)) (by decide) (StrChars.Road.backV (W := 1) hZ (fun d hd => hw d (own_wNew d hd)) (kI := 4) (ow hw 10 rfl) (cs := ([(p0 &&& (255 : Int32)), (p1 &&& (255 : Int32))] : List Int32)) (bs := (([(p0 &&& (255 : Int32)), (p1 &&& (255 : Int32))] : List Int32)).map (fun c => c.toInt8.toInt32)) (n := 2) g_b105 (own_oldsz O113) c117 c118 c119 V113' (S_CS.ext O113.2) nz_CS rfl rfl (by decide) (by decide) hp116 rfl (by decide) (by decide)) (g := (mkF m 88 #[lI p0, lI p1, lI p2, lI p3, lJ p4, lS, lI jl, lI (p0 &&& (255 : Int32)), lI (p1 &&& (255 : Int32)), lI (p2 &&& (255 : Int32)), lU, lU, lU, lU, lU, lU, lU, lU, lU, lU, lU] [(.ref b108), (.ref b105), (.ref b105)])) rfl (by rw [hml]; rfl) (Steps.refl _) (a := b105) (argsL := [(.ref b108)]) (rest := [(.ref b105)]) (lenOf own_pd30 rfl) rfl (by show 2 * 0 + _ ≤ _; exact Nat.le_of_eq rfl) (hb hby at_88) (fun _ _ => ⟨rfl, e113, (by decide : 2 + 1 ≤ _), (by decide : 6 + 2 ≤ _)⟩)
        dsimp only [Pt.U, Pt.locs, Pt.cells, Pt.slots] at X116 l116 y116 z116 st116 hQ116
        subst y116 z116
        refine Go.tr st116 ?_
        obtain ⟨rfl, N116q, K116q, E116x, C116x, t116, kb116, gt116, szt116, net116, V116x, A116x⟩ := hQ116
        have N116 : Fr n0 L116 := by rw [l116]; exact Fr.app N113 N116q
        have O116 := O113.keep K116q (allS g_b105 all0)
        have K116 : Keep h0 T116.heap [] := K113.trans K116q (allS (Or.inr sz_b105) all0)
        have sf120 := Safe.keep K116q (sfS sf114 sf0) CR113.1 sf114
        have sf121 := Safe.keep K116q (sfS sf114 sf0) CR113.1 sf115
        have CR116 := CR113.trans (CHr.keep K116q (sfS sf114 sf0) CR113.1)
        have sz_t116 : h0.size ≤ t116 := Nat.le_trans K113.1 szt116
        show Go _ _ _ _ (T116.setTop (mkF m 91 #[lI p0, lI p1, lI p2, lI p3, lJ p4, lS, lI jl, lI (p0 &&& (255 : Int32)), lI (p1 &&& (255 : Int32)), lI (p2 &&& (255 : Int32)), lU, lU, lU, lU, lU, lU, lU, lU, lU, lU, lU] [(.ref b105)]))
        refine Go.st (fun _ => XS.astore X116.here hx rfl (hb hby at_91) rfl rfl (l' := #[lI p0, lI p1, lI p2, lI p3, lJ p4, lS, lI jl, lI (p0 &&& (255 : Int32)), lI (p1 &&& (255 : Int32)), lI (p2 &&& (255 : Int32)), lR b105, lU, lU, lU, lU, lU, lU, lU, lU, lU, lU]) rfl) ?_
        show Go _ _ _ _ (T116.setTop (mkF m 93 #[lI p0, lI p1, lI p2, lI p3, lJ p4, lS, lI jl, lI (p0 &&& (255 : Int32)), lI (p1 &&& (255 : Int32)), lI (p2 &&& (255 : Int32)), lR b105, lU, lU, lU, lU, lU, lU, lU, lU, lU, lU] []))
        refine Go.st (fun _ => XS.goto X116.here hx rfl (pc0 := 93) (pc' := 123) rfl (hb hby at_93) (by decide) (by decide)) ?_
        show Go _ _ _ _ (T116.setTop (mkF m 123 #[lI p0, lI p1, lI p2, lI p3, lJ p4, lS, lI jl, lI (p0 &&& (255 : Int32)), lI (p1 &&& (255 : Int32)), lI (p2 &&& (255 : Int32)), lR b105, lU, lU, lU, lU, lU, lU, lU, lU, lU, lU] []))
        exact J1 T116 T116.heap _ _ _ (X116.more (by decide) (by decide)) rfl K116 O116 N116 hS0 (Nat.le_trans (Nat.le_trans (Nat.le_trans (Nat.le_trans (Nat.le_trans hk0 E105.1) E108.1) (Keep.of_wr W110).1) (Keep.of_wr W113).1) K116q.1) hZ hown CR116  b105 ([(p0 &&& (255 : Int32)), (p1 &&& (255 : Int32))] : List Int32) t116 kb116  E116x C116x V116x A116x hp116 (Nat.le_of_ble_eq_true rfl) (by assumption) (by simp)
      · skip
        refine Go.st (fun _ => XS.icmpYes X0.here hx rfl (pc0 := 68) (pc' := 96) rfl (hb hby at_68) rfl (feq hc104).2 (by decide) (by decide)) ?_
        show Go _ _ _ _ (s₁.setTop (mkF m 96 #[lI p0, lI p1, lI p2, lI p3, lJ p4, lS, lI jl, lI (p0 &&& (255 : Int32)), lI (p1 &&& (255 : Int32)), lI (p2 &&& (255 : Int32)), lU, lU, lU, lU, lU, lU, lU, lU, lU, lU, lU] []))
        obtain ⟨T122, h122, X122, e122, E122, A122, D122, -, st122⟩ := newO X0 hx hZ hown (ow hw 236 rfl) (ow hw 10 rfl) (ow hw 2 rfl) e0 (g := (mkF m 96 #[lI p0, lI p1, lI p2, lI p3, lJ p4, lS, lI jl, lI (p0 &&& (255 : Int32)), lI (p1 &&& (255 : Int32)), lI (p2 &&& (255 : Int32)), lU, lU, lU, lU, lU, lU, lU, lU, lU, lU, lU] [])) rfl (hb hby at_96) (by decide) (by decide)
        obtain ⟨b122, g122⟩ : ∃ z, z = h0.size := ⟨_, rfl⟩
        rw [← g122] at A122 D122 st122
        refine Go.st st122 ?_
        have g_b122 : n0 ≤ b122 := Nat.le_trans (own_oldsz X00) (Nat.le_of_eq g122.symm)
        have sz_b122 : h0.size ≤ b122 := Nat.le_trans (Keep.refl h0 []).1 (Nat.le_of_eq g122.symm)
        have K122 : Keep h0 h122 [] := (Keep.refl h0 []).ext E122
        have O122 := X00.ext E122
        have SF_b122 : Safe Z consts_1 s.vm h122 b122 := Safe.ext E122 CR0.1 (Safe.new (Nat.le_of_eq g122.symm))
        have CR122 := CR0.trans (CHr.ext E122 CR0.1)
        have F123 : Fld Z h122 b122 "java/lang/String" "value" "[B" .null := D122 (Or.inr (ow hw 23 rfl)) (ty := (.array .byte)) (by decide)
        have F124 : Fld Z h122 b122 "java/lang/String" "coder" "B" (.int 0) := D122 (Or.inr (ow hw 25 rfl)) (ty := .byte) (by decide)
        show Go _ _ _ _ (T122.setTop (mkF m 99 #[lI p0, lI p1, lI p2, lI p3, lJ p4, lS, lI jl, lI (p0 &&& (255 : Int32)), lI (p1 &&& (255 : Int32)), lI (p2 &&& (255 : Int32)), lU, lU, lU, lU, lU, lU, lU, lU, lU, lU, lU] [(.ref b122)]))
        refine Go.st (fun _ => XS.dup X122.here hx rfl (hb hby at_99) rfl rfl) ?_
        refine Go.st (fun _ => XS.iconst X122.here hx rfl (hb hby at_100)) ?_
        show Go _ _ _ _ (T122.setTop (mkF m 101 #[lI p0, lI p1, lI p2, lI p3, lJ p4, lS, lI jl, lI (p0 &&& (255 : Int32)), lI (p1 &&& (255 : Int32)), lI (p2 &&& (255 : Int32)), lU, lU, lU, lU, lU, lU, lU, lU, lU, lU, lU] [(.int 3), (.ref b122), (.ref b122)]))
        obtain ⟨T125, h125, k125, X125, e125, E125, A125, st125⟩ := newP X122 hx hZ (ow hw 237 rfl) e122 (g := (mkF m 101 #[lI p0, lI p1, lI p2, lI p3, lJ p4, lS, lI jl, lI (p0 &&& (255 : Int32)), lI (p1 &&& (255 : Int32)), lI (p2 &&& (255 : Int32)), lU, lU, lU, lU, lU, lU, lU, lU, lU, lU, lU] [(.int 3), (.ref b122), (.ref b122)])) rfl (hb hby at_101) rfl (by decide) (cap := 3) (by decide) (by decide) (by decide) (by decide)
        obtain ⟨b125, g125⟩ : ∃ z, z = h122.size := ⟨_, rfl⟩
        rw [← g125] at A125 st125
        refine Go.st st125 ?_
        have g_b125 : n0 ≤ b125 := Nat.le_trans (own_oldsz O122) (Nat.le_of_eq g125.symm)
        have sz_b125 : h0.size ≤ b125 := Nat.le_trans K122.1 (Nat.le_of_eq g125.symm)
        have K125 : Keep h0 h125 [] := K122.ext E125
        have O125 := O122.ext E125
        have sf126 := Safe.ext E125 CR122.1 SF_b122
        have SF_b125 : Safe Z consts_1 s.vm h125 b125 := Safe.ext E125 CR122.1 (Safe.new (Nat.le_of_eq g125.symm))
        have CR125 := CR122.trans (CHr.ext E125 CR122.1)
        have V125 : Arv Z h125 b125 k125 .char (3 : Int32) [(.int 0), (.int 0), (.int 0)] (.int 0) := (Arv.new A125 (by decide)).pad (pad_rep [] (.int 0) 3)
        show Go _ _ _ _ (T125.setTop (mkF m 103 #[lI p0, lI p1, lI p2, lI p3, lJ p4, lS, lI jl, lI (p0 &&& (255 : Int32)), lI (p1 &&& (255 : Int32)), lI (p2 &&& (255 : Int32)), lU, lU, lU, lU, lU, lU, lU, lU, lU, lU, lU] [(.ref b125), (.ref b122), (.ref b122)]))
        refine Go.st (fun _ => XS.dup X125.here hx rfl (hb hby at_103) rfl rfl) ?_
        refine Go.st (fun _ => XS.iconst X125.here hx rfl (hb hby at_104)) ?_
        refine Go.st (fun _ => XS.iload X125.here hx rfl (hb hby at_105) rfl) ?_
        show Go _ _ _ _ (T125.setTop (mkF m 107 #[lI p0, lI p1, lI p2, lI p3, lJ p4, lS, lI jl, lI (p0 &&& (255 : Int32)), lI (p1 &&& (255 : Int32)), lI (p2 &&& (255 : Int32)), lU, lU, lU, lU, lU, lU, lU, lU, lU, lU, lU] [(.int (p0 &&& (255 : Int32))), (.int 0), (.ref b125), (.ref b125), (.ref b122), (.ref b122)]))
        obtain ⟨T127, h127, X127, e127, W127, V127, st127⟩ := own_stC X125 hx hZ e125 V125 (j := (0 : Int32)) (i := 0) (by decide) (by decide) (Nat.le_of_ble_eq_true rfl) (g := (mkF m 107 #[lI p0, lI p1, lI p2, lI p3, lJ p4, lS, lI jl, lI (p0 &&& (255 : Int32)), lI (p1 &&& (255 : Int32)), lI (p2 &&& (255 : Int32)), lU, lU, lU, lU, lU, lU, lU, lU, lU, lU, lU] [(.int (p0 &&& (255 : Int32))), (.int 0), (.ref b125), (.ref b125), (.ref b122), (.ref b122)])) rfl rfl (hb hby at_107)
        refine Go.st st127 ?_
        rw [show nar .char (p0 &&& (255 : Int32)) = (p0 &&& (255 : Int32)) from i2c_mask _] at V127
        have sf128 := Safe.wr W127 SF_b125 CR125.1 sf126
        have sf129 := Safe.wr W127 SF_b125 CR125.1 SF_b125
        have CR127 := CR125.trans (CHr.wr W127 SF_b125 CR125.1)
        have K127 : Keep h0 h127 [] := K125.wr W127 (Or.inr sz_b125)
        have O127 := O125.wr W127 g_b125
        have N127 := Fr.snoc X127 N0 g_b125
        have V127' : Arv Z h127 b125 k125 .char (3 : Int32) [(.int (p0 &&& (255 : Int32))), (.int 0), (.int 0)] (.int 0) := V127
        show Go _ _ _ _ (T127.setTop (mkF m 108 #[lI p0, lI p1, lI p2, lI p3, lJ p4, lS, lI jl, lI (p0 &&& (255 : Int32)), lI (p1 &&& (255 : Int32)), lI (p2 &&& (255 : Int32)), lU, lU, lU, lU, lU, lU, lU, lU, lU, lU, lU] [(.ref b125), (.ref b122), (.ref b122)]))
        refine Go.st (fun _ => XS.dup X127.here hx rfl (hb hby at_108) rfl rfl) ?_
        refine Go.st (fun _ => XS.iconst X127.here hx rfl (hb hby at_109)) ?_
        refine Go.st (fun _ => XS.iload X127.here hx rfl (hb hby at_110) rfl) ?_
        show Go _ _ _ _ (T127.setTop (mkF m 112 #[lI p0, lI p1, lI p2, lI p3, lJ p4, lS, lI jl, lI (p0 &&& (255 : Int32)), lI (p1 &&& (255 : Int32)), lI (p2 &&& (255 : Int32)), lU, lU, lU, lU, lU, lU, lU, lU, lU, lU, lU] [(.int (p1 &&& (255 : Int32))), (.int 1), (.ref b125), (.ref b125), (.ref b122), (.ref b122)]))
        obtain ⟨T130, h130, X130, e130, W130, V130, st130⟩ := own_stC X127 hx hZ e127 V127' (j := (1 : Int32)) (i := 1) (by decide) (by decide) (Nat.le_of_ble_eq_true rfl) (g := (mkF m 112 #[lI p0, lI p1, lI p2, lI p3, lJ p4, lS, lI jl, lI (p0 &&& (255 : Int32)), lI (p1 &&& (255 : Int32)), lI (p2 &&& (255 : Int32)), lU, lU, lU, lU, lU, lU, lU, lU, lU, lU, lU] [(.int (p1 &&& (255 : Int32))), (.int 1), (.ref b125), (.ref b125), (.ref b122), (.ref b122)])) rfl rfl (hb hby at_112)
        refine Go.st st130 ?_
        rw [show nar .char (p1 &&& (255 : Int32)) = (p1 &&& (255 : Int32)) from i2c_mask _] at V130
        have sf131 := Safe.wr W130 sf129 CR127.1 sf128
        have sf132 := Safe.wr W130 sf129 CR127.1 sf129
        have CR130 := CR127.trans (CHr.wr W130 sf129 CR127.1)
        have K130 : Keep h0 h130 [] := K127.wr W130 (Or.inr sz_b125)
        have O130 := O127.wr W130 g_b125
        have N130 := Fr.snoc X130 N127 g_b125
        have V130' : Arv Z h130 b125 k125 .char (3 : Int32) [(.int (p0 &&& (255 : Int32))), (.int (p1 &&& (255 : Int32))), (.int 0)] (.int 0) := V130
        show Go _ _ _ _ (T130.setTop (mkF m 113 #[lI p0, lI p1, lI p2, lI p3, lJ p4, lS, lI jl, lI (p0 &&& (255 : Int32)), lI (p1 &&& (255 : Int32)), lI (p2 &&& (255 : Int32)), lU, lU, lU, lU, lU, lU, lU, lU, lU, lU, lU] [(.ref b125), (.ref b122), (.ref b122)]))
        refine Go.st (fun _ => XS.dup X130.here hx rfl (hb hby at_113) rfl rfl) ?_
        refine Go.st (fun _ => XS.iconst X130.here hx rfl (hb hby at_114)) ?_
        refine Go.st (fun _ => XS.iload X130.here hx rfl (hb hby at_115) rfl) ?_
        show Go _ _ _ _ (T130.setTop (mkF m 117 #[lI p0, lI p1, lI p2, lI p3, lJ p4, lS, lI jl, lI (p0 &&& (255 : Int32)), lI (p1 &&& (255 : Int32)), lI (p2 &&& (255 : Int32)), lU, lU, lU, lU, lU, lU, lU, lU, lU, lU, lU] [(.int (p2 &&& (255 : Int32))), (.int 2), (.ref b125), (.ref b125), (.ref b122), (.ref b122)]))
        obtain ⟨T133, h133, X133, e133, W133, V133, st133⟩ := own_stC X130 hx hZ e130 V130' (j := (2 : Int32)) (i := 2) (by decide) (by decide) (Nat.le_of_ble_eq_true rfl) (g := (mkF m 117 #[lI p0, lI p1, lI p2, lI p3, lJ p4, lS, lI jl, lI (p0 &&& (255 : Int32)), lI (p1 &&& (255 : Int32)), lI (p2 &&& (255 : Int32)), lU, lU, lU, lU, lU, lU, lU, lU, lU, lU, lU] [(.int (p2 &&& (255 : Int32))), (.int 2), (.ref b125), (.ref b125), (.ref b122), (.ref b122)])) rfl rfl (hb hby at_117)
        refine Go.st st133 ?_
        rw [show nar .char (p2 &&& (255 : Int32)) = (p2 &&& (255 : Int32)) from i2c_mask _] at V133
        have sf134 := Safe.wr W133 sf132 CR130.1 sf131
        have sf135 := Safe.wr W133 sf132 CR130.1 sf132
        have CR133 := CR130.trans (CHr.wr W133 sf132 CR130.1)
        have K133 : Keep h0 h133 [] := K130.wr W133 (Or.inr sz_b125)
        have O133 := O130.wr W133 g_b125
        have N133 := Fr.snoc X133 N130 g_b125
        have V133' : Arv Z h133 b125 k125 .char (3 : Int32) [(.int (p0 &&& (255 : Int32))), (.int (p1 &&& (255 : Int32))), (.int (p2 &&& (255 : Int32)))] (.int 0) := V133
        show Go _ _ _ _ (T133.setTop (mkF m 118 #[lI p0, lI p1, lI p2, lI p3, lJ p4, lS, lI jl, lI (p0 &&& (255 : Int32)), lI (p1 &&& (255 : Int32)), lI (p2 &&& (255 : Int32)), lU, lU, lU, lU, lU, lU, lU, lU, lU, lU, lU] [(.ref b125), (.ref b122), (.ref b122)]))
        have c137 := ((((A122.ext E125).wr W127).wr W130).wr W133)
        have c138 := ((((F123.ext E125).other W127 (Or.inl (Nat.ne_of_lt (Nat.lt_of_lt_of_le A122.lt (Nat.le_of_eq g125.symm))))).other W130 (Or.inl (Nat.ne_of_lt (Nat.lt_of_lt_of_le A122.lt (Nat.le_of_eq g125.symm))))).other W133 (Or.inl (Nat.ne_of_lt (Nat.lt_of_lt_of_le A122.lt (Nat.le_of_eq g125.symm)))))
        have c139 := ((((F124.ext E125).other W127 (Or.inl (Nat.ne_of_lt (Nat.lt_of_lt_of_le A122.lt (Nat.le_of_eq g125.symm))))).other W130 (Or.inl (Nat.ne_of_lt (Nat.lt_of_lt_of_le A122.lt (Nat.le_of_eq g125.symm))))).other W133 (Or.inl (Nat.ne_of_lt (Nat.lt_of_lt_of_le A122.lt (Nat.le_of_eq g125.symm)))))
        have hp136 : ∀ c ∈ ([(p0 &&& (255 : Int32)), (p1 &&& (255 : Int32)), (p2 &&& (255 : Int32))] : List Int32), ¬ c < 0 ∧ ¬ (255 : Int32) < c := by
          intro c hc
          simp only [List.mem_cons, List.not_mem_nil, or_false] at hc
          rcases hc with rfl | rfl | rfl
          · exact own_and255 _
          · exact own_and255 _
          · exact own_and255 _
        obtain ⟨_, _, ⟨T136, L136, k136, n136⟩, -, X136, ⟨Lc136, hQ136, l136, y136, z136⟩, st136⟩ := X133.specialBack hx (y := (⟨"java/lang/String", "<init>", "([C)V"⟩ : MethodName)) rfl hown (mvT hZ (ow hw 238 rfl)) (mvT hZ (ow hw 239 rfl)) (mvT hZ (ow hw 240 rfl)) (by decide) (StrChars.Road.backV (W := 1) hZ (fun d hd => hw d (own_wNew d hd)) (kI := 4) (ow hw 10 rfl) (cs := ([(p0 &&& (255 : Int32)), (p1 &&& (255 : Int32)), (p2 &&& (255 : Int32))] : List Int32)) (bs := (([(p0 &&& (255 : Int32)), (p1 &&& (255 : Int32)), (p2 &&& (255 : Int32))] : List Int32)).map (fun c => c.toInt8.toInt32)) (n := 3) g_b122 (own_oldsz O133) c137 c138 c139 V133' (S_CS.ext O133.2) nz_CS rfl rfl (by decide) (by decide) hp136 rfl (by decide) (by decide)) (g := (mkF m 118 #[lI p0, lI p1, lI p2, lI p3, lJ p4, lS, lI jl, lI (p0 &&& (255 : Int32)), lI (p1 &&& (255 : Int32)), lI (p2 &&& (255 : Int32)), lU, lU, lU, lU, lU, lU, lU, lU, lU, lU, lU] [(.ref b125), (.ref b122), (.ref b122)])) rfl (by rw [hml]; rfl) (Steps.refl _) (a := b122) (argsL := [(.ref b125)]) (rest := [(.ref b122)]) (lenOf own_pd30 rfl) rfl (by show 2 * 0 + _ ≤ _; exact Nat.le_of_eq rfl) (hb hby at_118) (fun _ _ => ⟨rfl, e133, (by decide : 2 + 1 ≤ _), (by decide : 7 + 3 ≤ _)⟩)
        dsimp only [Pt.U, Pt.locs, Pt.cells, Pt.slots] at X136 l136 y136 z136 st136 hQ136
        subst y136 z136
        refine Go.tr st136 ?_
        obtain ⟨rfl, N136q, K136q, E136x, C136x, t136, kb136, gt136, szt136, net136, V136x, A136x⟩ := hQ136
        have N136 : Fr n0 L136 := by rw [l136]; exact Fr.app N133 N136q
        have O136 := O133.keep K136q (allS g_b122 all0)
        have K136 : Keep h0 T136.heap [] := K133.trans K136q (allS (Or.inr sz_b122) all0)
        have sf140 := Safe.keep K136q (sfS sf134 sf0) CR133.1 sf134
        have sf141 := Safe.keep K136q (sfS sf134 sf0) CR133.1 sf135
        have CR136 := CR133.trans (CHr.keep K136q (sfS sf134 sf0) CR133.1)
        have sz_t136 : h0.size ≤ t136 := Nat.le_trans K133.1 szt136
        show Go _ _ _ _ (T136.setTop (mkF m 121 #[lI p0, lI p1, lI p2, lI p3, lJ p4, lS, lI jl, lI (p0 &&& (255 : Int32)), lI (p1 &&& (255 : Int32)), lI (p2 &&& (255 : Int32)), lU, lU, lU, lU, lU, lU, lU, lU, lU, lU, lU] [(.ref b122)]))
        refine Go.st (fun _ => XS.astore X136.here hx rfl (hb hby at_121) rfl rfl (l' := #[lI p0, lI p1, lI p2, lI p3, lJ p4, lS, lI jl, lI (p0 &&& (255 : Int32)), lI (p1 &&& (255 : Int32)), lI (p2 &&& (255 : Int32)), lR b122, lU, lU, lU, lU, lU, lU, lU, lU, lU, lU]) rfl) ?_
        show Go _ _ _ _ (T136.setTop (mkF m 123 #[lI p0, lI p1, lI p2, lI p3, lJ p4, lS, lI jl, lI (p0 &&& (255 : Int32)), lI (p1 &&& (255 : Int32)), lI (p2 &&& (255 : Int32)), lR b122, lU, lU, lU, lU, lU, lU, lU, lU, lU, lU] []))
        exact J1 T136 T136.heap _ _ _ (X136.more (by decide) (by decide)) rfl K136 O136 N136 hS0 (Nat.le_trans (Nat.le_trans (Nat.le_trans (Nat.le_trans (Nat.le_trans (Nat.le_trans hk0 E122.1) E125.1) (Keep.of_wr W127).1) (Keep.of_wr W130).1) (Keep.of_wr W133).1) K136q.1) hZ hown CR136  b122 ([(p0 &&& (255 : Int32)), (p1 &&& (255 : Int32)), (p2 &&& (255 : Int32))] : List Int32) t136 kb136  E136x C136x V136x A136x hp136 (Nat.le_of_ble_eq_true rfl) (by rcases own_and3 p3 with q | q | q | q <;> first | (exact absurd (he_jl.trans q) (by assumption)) | exact he_jl.trans q) (by simp)
set_option maxRecDepth 65536 in
set_option maxHeartbeats 40000000 in
theorem comes_1 {Post : Tables → Env → Array Value → State → Outcome → State → Prop} (hpost : ∀ tb e args s v u, (limb_1_1.after args s (.returned v) u = true ∧ limb_1_2.after args s (.returned v) u = true ∧ True) → ReturnedEndW s (.returned v) u (Jvm.fieldLocs frame_1_writes args s ++ Jvm.arrayLocs frame_1_arrays args s ++ Jvm.staticLocs frame_1_statics s) 40 4416 → Post tb e args s (.returned v) u) :
    ArmFor flags0 classFile x code maxLocals ret World_1 tables_1 room_1 Calls_1 rest_1 Pre_1 Post := by
  intro l hfl _ _ p e ha hc hk s m args below hf hA hF happ hP
  obtain ⟨hcalls, hrest, hpre⟩ := hP
  obtain ⟨-, -, -, hnamed, -, -, -, hat⟩ := (Spec.applies_iff hf).mp happ
  obtain ⟨hg, hn⟩ := and_e (Cond.before_iff.mp (show (Jvm.Cond.and given_1 narrow_1).before args s = true from hpre))
  obtain ⟨hc_1, hc_2⟩ := and_e hg
  obtain ⟨hc_3, hc_4⟩ := and_e hc_2
  obtain ⟨hc_5, hc_6⟩ := and_e hc_4
  obtain ⟨hc_7, hc_8⟩ := and_e hc_6
  obtain ⟨hc_9, hc_10⟩ := and_e hc_8
  obtain ⟨w0, w1, w2, w3, w4, rfl⟩ : ∃ w0 w1 w2 w3 w4 : Value, args = #[w0, w1, w2, w3, w4] := by
    have hs : args.size = 5 := by simpa [Cond.value, given_1] using hc_1
    obtain ⟨L⟩ := args
    match L, hs with
    | [w0, w1, w2, w3, w4], _ => exact ⟨w0, w1, w2, w3, w4, rfl⟩
  have hw := fun d (hd : d ∈ tables_1) => atoms_spec (ws := Jvm.Cond.code x code maxLocals ret :: tables_1) hat d (List.mem_cons_of_mem _ hd)
  have hfit : Fit s := fun {y c} hc i hi => by
    obtain ⟨ha, rfl⟩ := Array.getElem?_eq_some_iff.mp hc
    have q := List.all_eq_true.mp ((Array.all_eq_true_iff_forall_mem.mp hF) _ (Array.getElem_mem ha)) i (List.mem_range.mpr hi)
    simpa [Array.getElem?_eq_getElem hi] using q
  obtain ⟨hsets, hown0⟩ := atoms_of _ (rest_1_c_eq ▸ (show rest_1_c.before _ s = true from hrest))
  have nCS := not_v (Cond.before_iff.mp (hsets _ (List.mem_of_getElem? (i := 2) rfl)))
  obtain ⟨g_CS, eCS⟩ := is_v (Cond.before_iff.mp (hsets _ (List.mem_of_getElem? (i := 1) rfl)))
  have S_CS := Sta.start eCS (Or.inl (hsets _ (List.mem_of_getElem? (i := 0) rfl)))
  have nz_CS : ¬ (g_CS = (0 : Int32)) := gotF (Cond.eq_ints eCS (Term.int_eval (0))) nCS
  obtain ⟨g_SF, eSF, r_SF⟩ := isR_v (Cond.before_iff.mp (hsets _ (List.mem_of_getElem? (i := 8) rfl)))
  have S_SF := Sta.start eSF (Or.inl (hsets _ (List.mem_of_getElem? (i := 7) rfl)))
  obtain ⟨i0, ea0⟩ := is_v hc_3
  obtain rfl : w0 = (.int i0) := Option.some.inj ea0
  obtain ⟨i1, ea1⟩ := is_v hc_5
  obtain rfl : w1 = (.int i1) := Option.some.inj ea1
  obtain ⟨i2, ea2⟩ := is_v hc_7
  obtain rfl : w2 = (.int i2) := Option.some.inj ea2
  obtain ⟨i3, ea3⟩ := is_v hc_9
  obtain rfl : w3 = (.int i3) := Option.some.inj ea3
  obtain ⟨i4, ea4⟩ := isL_v hc_10
  obtain rfl : w4 = (.long i4) := Option.some.inj ea4
  obtain ⟨w_st, w_d1, w_d2, D1c, D2c, T_1, T_2, O_1, O_2, lt_st, lt_d1, lt_d2⟩ := own_tables (hsets _ (List.mem_of_getElem? (i := 9) rfl)) (ow hw 14 rfl) (hsets _ (List.mem_of_getElem? (i := 10) rfl)) (hsets _ (List.mem_of_getElem? (i := 12) rfl)) (hsets _ (List.mem_of_getElem? (i := 13) rfl)) (hsets _ (List.mem_of_getElem? (i := 14) rfl)) (hsets _ (List.mem_of_getElem? (i := 15) rfl)) (hsets _ (List.mem_of_getElem? (i := 17) rfl)) (hsets _ (List.mem_of_getElem? (i := 18) rfl)) (hsets _ (List.mem_of_getElem? (i := 19) rfl))
  obtain ⟨n, o, h1, h2, h3, _, L, rfl, ⟨rfl, N, _⟩, -, hq⟩ := rm_law l s _ hw tables_1 w_st w_d1 w_d2 D1c D2c T_1 T_2 O_1 O_2 lt_st lt_d1 lt_d2 g_CS S_CS nz_CS g_SF S_SF r_SF i0 i1 i2 i3 i4 s.heap s.heap.size (Old.start s) p e ha hc hk s m _ below hf ((Spec.applies_iff_loose hf).mp happ).1 ⟨rfl, State.Warmed39.refl s, rfl, (CHv.start (own_EW s _ hw) (fun p hp => hcalls.1 p hp) (hsets _ (List.mem_of_getElem? (i := 2) rfl)) (ow hw 14 rfl) (ow hw 10 rfl))⟩ trivial
  refine ⟨n, _, h1, h2, h3, hpost _ _ _ _ _ _ ⟨Cond.after_iff.mpr rfl, Cond.after_iff.mpr (eq_i res_at (Term.int_eval (1)) rfl), trivial⟩ ⟨hq.1, hq.2.1, hq.2.2.1, (hq.2.2.2.sift fun y hy => Or.inr (N y hy)).mono (by decide) (by decide)⟩⟩
theorem main_1_1 : Claimed_1_1 := comes_1 fun _ _ _ _ _ _ h hF => ⟨h.1, hF⟩
theorem main_1_2 : Claimed_1_2 := comes_1 fun _ _ _ _ _ _ h hF => ⟨h.2.1, hF⟩
end Jvm.Pilot.@@N@@
namespace Jvm.Pilot.@@N@@
open Jvm Jvm.ClassFile Sem Op Lib Jvm.Free Jvm.Stand Jvm.Pilot.@@N@@.Jvm.D
/-! MADE BY PROGRAM (witnessworld.py) out of the Statement's table words and the real class files: 32 classes; the members and pool entries that the words name. The judged class is class 1, her method 1. -/
namespace start1
open Jvm.ClassFile
def u (s : String) : CpInfo := .utf8 (stringToUtf16 s)
/-- a pool by its gaps: so many unusable entries, then the entry; so many at the end -/
def gap : Nat → List CpInfo → List CpInfo
  | 0, r => r
  | n + 1, r => .unusable :: gap n r
def poolList (es : List (Nat × CpInfo)) (last : Nat) : List CpInfo := es.foldr (fun e r => gap e.1 (e.2 :: r)) (gap last [])
def pool (es : List (Nat × CpInfo)) (last : Nat) : Array CpInfo := ⟨poolList es last⟩
def fileOf (pool : Array CpInfo) (this : Nat) (attrs : Array Attribute := #[]) (ms : Array MethodInfo := #[]) (fl : Nat := 33) (sup : Nat := 0) (ifs : Array Nat := #[]) (fds : Array FieldInfo := #[]) : ClassFile where
  minorVersion := 0
  majorVersion := 65
  constantPool := pool
  accessFlags := fl
  thisClass := this
  superClass := sup
  interfaces := ifs
  fields := fds
  methods := ms
  attributes := attrs
def plain (name : String) (sup : Option ClassId) : Class where
  name := name
  kind := .ordinary
  loader := none
  accessFlags := 33
  super := sup
  interfaces := #[]
  cf := none
  fields := #[]
  methods := #[]
  instanceTypes := #[]
  staticTypes := #[]
  resolved := #[]
  callSites := []
  init := .initialized
  statics := none
  mirror := none

def pool0 : Array CpInfo := pool [(5, u "<init>"), (0, u "()V"), (1, .class_ 10), (1, u "java/lang/Object"), (85, u "clone"), (0, u "()Ljava/lang/Object;")] 26

def k0c0 : Code := { maxStack := 0, maxLocals := 1, code := object_method_1_code, exceptionTable := #[], attributes := #[] }
def k0m0 : Method := { name := "<init>", desc := "()V", sig := { parameters := [], returnType := none }, accessFlags := 1, code := some k0c0 }
def k0m1 : Method := { name := "clone", desc := "()Ljava/lang/Object;", sig := { parameters := [], returnType := some (.object "java/lang/Object") }, accessFlags := 260, code := none }
/-- java/lang/Object -/
def k0 : Class := { plain "java/lang/Object" none with
  accessFlags := 33
  interfaces := #[]
  cf := some (fileOf pool0 8 #[] #[{ accessFlags := 1, nameIndex := 5, descriptorIndex := 6, attributes := #[] }, { accessFlags := 260, nameIndex := 96, descriptorIndex := 97, attributes := #[] }] 33 0 #[] #[])
  fields := #[]
  methods := #[k0m0, k0m1]
  instanceTypes := #[]
  staticTypes := #[]
  resolved := Array.replicate 124 none
  statics := none }

def pool1 : Array CpInfo := pool [(2, .class_ 4), (1, u "java/lang/Object"), (0, u "<init>"), (0, u "()V"), (0, .class_ 8), (0, u "java/lang/String"), (0, .methodref 7 10), (0, .nameAndType 5 11), (0, u "([C)V"), (0, .methodref 7 13), (0, .nameAndType 14 15), (0, u "valueOf"), (0, u "(C)Ljava/lang/String;"), (0, .class_ 17), (0, u "com/example/strikeboard/strikeboard/engine/Explanation$Column"), (0, .methodref 16 19), (0, .nameAndType 5 20), (0, u "(Ljava/lang/String;J)V"), (0, .methodref 16 22), (0, .nameAndType 23 24), (0, u "toString"), (0, u "()Ljava/lang/String;"), (0, .methodref 7 26), (0, .nameAndType 27 28), (0, u "length"), (0, u "()I"), (0, .methodref 7 30), (0, .nameAndType 31 32), (0, u "charAt"), (0, u "(I)C"), (0, .methodref 34 35), (0, .class_ 36), (0, .nameAndType 37 38), (0, u "com/example/strikeboard/strikeboard/engine/ColumnToStringPinLaw"), (0, u "step"), (0, u "(JLjava/lang/String;II)J"), (2, .long 9223372036854775808), (1, .long 17524406870024074036), (1, .long 10), (3, u "law"), (0, u "(IIIIJ)Z")] 7

def k1m0 : Method := { name := "<init>", desc := "()V", sig := { parameters := [], returnType := none }, accessFlags := 2, code := none }
def k1c1 : Code := { maxStack := 6, maxLocals := 21, code := code, exceptionTable := #[], attributes := #[] }
def k1m1 : Method := { name := "law", desc := "(IIIIJ)Z", sig := { parameters := [.int, .int, .int, .int, .long], returnType := some .boolean }, accessFlags := 9, code := some k1c1 }
def k1c2 : Code := { maxStack := 6, maxLocals := 9, code := method_3_code, exceptionTable := #[], attributes := #[] }
def k1m2 : Method := { name := "step", desc := "(JLjava/lang/String;II)J", sig := { parameters := [.long, (.object "java/lang/String"), .int, .int], returnType := some .long }, accessFlags := 10, code := some k1c2 }
/-- com/example/strikeboard/strikeboard/engine/ColumnToStringPinLaw -/
def k1 : Class := { plain "com/example/strikeboard/strikeboard/engine/ColumnToStringPinLaw" (some 0) with
  accessFlags := 49
  interfaces := #[]
  cf := some (fileOf pool1 34 #[] #[{ accessFlags := 2, nameIndex := 5, descriptorIndex := 6, attributes := #[] }, { accessFlags := 9, nameIndex := 49, descriptorIndex := 50, attributes := #[] }, { accessFlags := 10, nameIndex := 37, descriptorIndex := 38, attributes := #[] }] 49 2 #[] #[])
  fields := #[]
  methods := #[k1m0, k1m1, k1m2]
  instanceTypes := #[]
  staticTypes := #[]
  resolved := Array.replicate 58 none
  statics := none }

def pool2 : Array CpInfo := pool [(1, .class_ 2), (0, u "java/io/Serializable"), (0, .class_ 4), (0, u "java/lang/Object")] 2

/-- java/io/Serializable -/
def k2 : Class := { plain "java/io/Serializable" (some 0) with
  accessFlags := 1537
  interfaces := #[]
  cf := some (fileOf pool2 1 #[] #[] 1537 3 #[] #[])
  fields := #[]
  methods := #[]
  instanceTypes := #[]
  staticTypes := #[]
  resolved := Array.replicate 7 none
  statics := none }

def pool3 : Array CpInfo := pool [(1, .class_ 2), (0, u "java/lang/Comparable"), (0, .class_ 4), (0, u "java/lang/Object")] 7

/-- java/lang/Comparable -/
def k3 : Class := { plain "java/lang/Comparable" (some 0) with
  accessFlags := 1537
  interfaces := #[]
  cf := some (fileOf pool3 1 #[] #[] 1537 3 #[] #[])
  fields := #[]
  methods := #[]
  instanceTypes := #[]
  staticTypes := #[]
  resolved := Array.replicate 12 none
  statics := none }

def pool4 : Array CpInfo := pool [(2, .class_ 4), (1, u "java/lang/CharSequence"), (42, .class_ 48), (0, u "java/lang/CharSequence$1CodePointIterator"), (10, .class_ 60), (0, u "java/lang/CharSequence$1CharIterator"), (5, .class_ 67), (0, u "java/lang/Object")] 63

/-- java/lang/CharSequence -/
def k4 : Class := { plain "java/lang/CharSequence" (some 0) with
  accessFlags := 1537
  interfaces := #[]
  cf := some (fileOf pool4 2 #[.nestMembers #[47, 59]] #[] 1537 66 #[] #[])
  fields := #[]
  methods := #[]
  instanceTypes := #[]
  staticTypes := #[]
  resolved := Array.replicate 131 none
  statics := none }

def pool5 : Array CpInfo := pool [(1, .class_ 2), (0, u "java/lang/constant/Constable"), (0, .class_ 4), (0, u "java/lang/Object")] 6

/-- java/lang/constant/Constable -/
def k5 : Class := { plain "java/lang/constant/Constable" (some 0) with
  accessFlags := 1537
  interfaces := #[]
  cf := some (fileOf pool5 1 #[] #[] 1537 3 #[] #[])
  fields := #[]
  methods := #[]
  instanceTypes := #[]
  staticTypes := #[]
  resolved := Array.replicate 11 none
  statics := none }

def pool6 : Array CpInfo := pool [(1, .class_ 2), (0, u "java/lang/constant/ConstantDesc"), (0, .class_ 4), (0, u "java/lang/Object")] 32

/-- java/lang/constant/ConstantDesc -/
def k6 : Class := { plain "java/lang/constant/ConstantDesc" (some 0) with
  accessFlags := 1537
  interfaces := #[]
  cf := some (fileOf pool6 1 #[] #[] 1537 3 #[] #[])
  fields := #[]
  methods := #[]
  instanceTypes := #[]
  staticTypes := #[]
  resolved := Array.replicate 37 none
  statics := none }

def pool7 : Array CpInfo := pool [(1, .methodref 2 3), (0, .class_ 4), (0, .nameAndType 5 6), (0, u "java/lang/Object"), (0, u "<init>"), (0, u "()V"), (0, .string 8), (0, u ""), (0, .fieldref 10 11), (0, .class_ 12), (0, .nameAndType 13 14), (0, u "java/lang/String"), (0, u "value"), (0, u "[B"), (0, .fieldref 10 16), (0, .nameAndType 17 18), (0, u "coder"), (0, u "B"), (2, u "hash"), (0, u "I"), (2, u "hashIsZero"), (0, u "Z"), (0, .methodref 10 28), (0, .nameAndType 5 29), (0, u "([CIILjava/lang/Void;)V"), (8, .fieldref 10 39), (0, .nameAndType 40 26), (0, u "COMPACT_STRINGS"), (1, .class_ 44), (1, u "java/lang/StringUTF16"), (0, u "compress"), (1, .methodref 42 48), (0, .nameAndType 49 50), (0, u "coderFromArrayLen"), (0, u "([BI)B"), (2, u "toBytes"), (0, .methodref 55 56), (0, .class_ 57), (0, .nameAndType 58 59), (0, u "java/util/Arrays"), (0, u "copyOfRange"), (0, u "([BII)[B"), (47, .class_ 109), (1, u "java/lang/StringLatin1"), (32, u "()Z"), (34, .methodref 42 178), (0, .nameAndType 45 179), (0, u "([CII)[B"), (13, .class_ 195), (1, u "java/lang/System"), (13, .methodref 10 210), (0, .nameAndType 5 211), (0, u "([BB)V"), (0, .methodref 193 213), (0, .nameAndType 214 215), (0, u "arraycopy"), (0, u "(Ljava/lang/Object;ILjava/lang/Object;II)V"), (118, u "()I"), (0, .methodref 10 336), (0, .nameAndType 17 337), (0, u "()B"), (2, u "()[B"), (22, u "([BI)C"), (5, u "(C)Z"), (21, u "(II)V"), (35, u "(I)C"), (61, .methodref 10 490), (0, .nameAndType 5 491), (0, u "(Ljava/lang/AbstractStringBuilder;Ljava/lang/Void;)V"), (0, .methodref 10 493), (0, .nameAndType 494 142), (0, u "isLatin1"), (0, .methodref 107 496), (0, .nameAndType 497 363), (0, u "charAt"), (3, u "checkIndex"), (4, .nameAndType 507 334), (0, u "length"), (24, u "getBytes"), (16, .methodref 550 506), (0, .class_ 551), (0, u "java/lang/AbstractStringBuilder"), (0, .methodref 550 553), (0, .nameAndType 554 340), (0, u "getValue"), (20, .class_ 576), (0, u "java/lang/CharSequence"), (22, u "CASE_INSENSITIVE_ORDER"), (0, u "Ljava/util/Comparator;"), (181, u "valueOf"), (0, u "(C)Ljava/lang/String;"), (37, u "([BIB)V"), (188, u "([C)V"), (4, .methodref 107 1016), (0, .nameAndType 1017 369), (0, u "canEncode"), (0, .methodref 107 1019), (0, .nameAndType 53 1020), (0, u "(C)[B"), (26, .methodref 550 493), (5, .fieldref 1054 1055), (0, .class_ 1056), (0, .nameAndType 1057 1058), (0, u "jdk/internal/util/Preconditions"), (0, u "SIOOBE_FORMATTER"), (0, u "Ljava/util/function/BiFunction;"), (0, .methodref 1054 1060), (0, .nameAndType 501 1061), (0, u "(IILjava/util/function/BiFunction;)I"), (39, u "serialPersistentFields"), (0, u "[Ljava/io/ObjectStreamField;"), (0, .class_ 1104), (0, u "java/lang/String$CaseInsensitiveComparator"), (1, .class_ 1107), (0, u "java/io/Serializable"), (0, .class_ 1109), (0, u "java/lang/Comparable"), (0, .class_ 1111), (0, u "java/lang/constant/Constable"), (0, .class_ 1113), (0, u "java/lang/constant/ConstantDesc"), (2, u "serialVersionUID"), (0, u "J"), (3, u "REPL"), (0, u "C"), (2, u "LATIN1"), (1, u "UTF16"), (105, u "(Ljava/lang/StringBuilder;)V")] 217

def k7m0 : Method := { name := "<init>", desc := "()V", sig := { parameters := [], returnType := none }, accessFlags := 1, code := none }
def k7c1 : Code := { maxStack := 5, maxLocals := 2, code := jdk_42_method_3_code, exceptionTable := #[], attributes := #[] }
def k7m1 : Method := { name := "<init>", desc := "([C)V", sig := { parameters := [(.array .char)], returnType := none }, accessFlags := 1, code := some k7c1 }
def k7c2 : Code := { maxStack := 3, maxLocals := 2, code := jdk_42_method_53_code, exceptionTable := #[], attributes := #[] }
def k7m2 : Method := { name := "<init>", desc := "(Ljava/lang/StringBuilder;)V", sig := { parameters := [(.object "java/lang/StringBuilder")], returnType := none }, accessFlags := 1, code := some k7c2 }
def k7c3 : Code := { maxStack := 2, maxLocals := 1, code := jdk_42_method_54_code, exceptionTable := #[], attributes := #[] }
def k7m3 : Method := { name := "length", desc := "()I", sig := { parameters := [], returnType := some .int }, accessFlags := 1, code := some k7c3 }
def k7c4 : Code := { maxStack := 2, maxLocals := 2, code := jdk_42_method_56_code, exceptionTable := #[], attributes := #[] }
def k7m4 : Method := { name := "charAt", desc := "(I)C", sig := { parameters := [.int], returnType := some .char }, accessFlags := 1, code := some k7c4 }
def k7c5 : Code := { maxStack := 4, maxLocals := 1, code := jdk_42_method_139_code, exceptionTable := #[], attributes := #[] }
def k7m5 : Method := { name := "valueOf", desc := "(C)Ljava/lang/String;", sig := { parameters := [.char], returnType := some (.object "java/lang/String") }, accessFlags := 9, code := some k7c5 }
def k7c6 : Code := { maxStack := 5, maxLocals := 4, code := jdk_42_method_147_code, exceptionTable := #[], attributes := #[] }
def k7m6 : Method := { name := "getBytes", desc := "([BIB)V", sig := { parameters := [(.array .byte), .int, .byte], returnType := none }, accessFlags := 0, code := some k7c6 }
def k7c7 : Code := { maxStack := 4, maxLocals := 6, code := jdk_42_method_149_code, exceptionTable := #[], attributes := #[] }
def k7m7 : Method := { name := "<init>", desc := "([CIILjava/lang/Void;)V", sig := { parameters := [(.array .char), .int, .int, (.object "java/lang/Void")], returnType := none }, accessFlags := 2, code := some k7c7 }
def k7c8 : Code := { maxStack := 5, maxLocals := 5, code := jdk_42_method_150_code, exceptionTable := #[], attributes := #[] }
def k7m8 : Method := { name := "<init>", desc := "(Ljava/lang/AbstractStringBuilder;Ljava/lang/Void;)V", sig := { parameters := [(.object "java/lang/AbstractStringBuilder"), (.object "java/lang/Void")], returnType := none }, accessFlags := 0, code := some k7c8 }
def k7c9 : Code := { maxStack := 2, maxLocals := 3, code := jdk_42_method_151_code, exceptionTable := #[], attributes := #[] }
def k7m9 : Method := { name := "<init>", desc := "([BB)V", sig := { parameters := [(.array .byte), .byte], returnType := none }, accessFlags := 0, code := some k7c9 }
def k7c10 : Code := { maxStack := 1, maxLocals := 1, code := jdk_42_method_152_code, exceptionTable := #[], attributes := #[] }
def k7m10 : Method := { name := "coder", desc := "()B", sig := { parameters := [], returnType := some .byte }, accessFlags := 0, code := some k7c10 }
def k7c11 : Code := { maxStack := 1, maxLocals := 1, code := jdk_42_method_154_code, exceptionTable := #[], attributes := #[] }
def k7m11 : Method := { name := "isLatin1", desc := "()Z", sig := { parameters := [], returnType := some .boolean }, accessFlags := 0, code := some k7c11 }
def k7c12 : Code := { maxStack := 3, maxLocals := 2, code := jdk_42_method_155_code, exceptionTable := #[], attributes := #[] }
def k7m12 : Method := { name := "checkIndex", desc := "(II)V", sig := { parameters := [.int, .int], returnType := none }, accessFlags := 8, code := some k7c12 }
/-- java/lang/String -/
def k7 : Class := { plain "java/lang/String" (some 0) with
  accessFlags := 49
  interfaces := #[2, 3, 4, 5, 6]
  cf := some (fileOf pool7 10 #[.nestMembers #[1103]] #[{ accessFlags := 1, nameIndex := 5, descriptorIndex := 6, attributes := #[] }, { accessFlags := 1, nameIndex := 5, descriptorIndex := 1010, attributes := #[] }, { accessFlags := 1, nameIndex := 5, descriptorIndex := 1233, attributes := #[] }, { accessFlags := 1, nameIndex := 507, descriptorIndex := 334, attributes := #[] }, { accessFlags := 1, nameIndex := 497, descriptorIndex := 427, attributes := #[] }, { accessFlags := 9, nameIndex := 782, descriptorIndex := 783, attributes := #[] }, { accessFlags := 0, nameIndex := 532, descriptorIndex := 821, attributes := #[] }, { accessFlags := 2, nameIndex := 5, descriptorIndex := 29, attributes := #[] }, { accessFlags := 0, nameIndex := 5, descriptorIndex := 491, attributes := #[] }, { accessFlags := 0, nameIndex := 5, descriptorIndex := 211, attributes := #[] }, { accessFlags := 0, nameIndex := 17, descriptorIndex := 337, attributes := #[] }, { accessFlags := 0, nameIndex := 494, descriptorIndex := 142, attributes := #[] }, { accessFlags := 8, nameIndex := 501, descriptorIndex := 391, attributes := #[] }] 49 2 #[1106, 1108, 575, 1110, 1112] #[{ accessFlags := 18, nameIndex := 13, descriptorIndex := 14, attributes := #[] }, { accessFlags := 18, nameIndex := 17, descriptorIndex := 18, attributes := #[] }, { accessFlags := 2, nameIndex := 21, descriptorIndex := 22, attributes := #[] }, { accessFlags := 2, nameIndex := 25, descriptorIndex := 26, attributes := #[] }, { accessFlags := 26, nameIndex := 1116, descriptorIndex := 1117, attributes := #[] }, { accessFlags := 24, nameIndex := 40, descriptorIndex := 26, attributes := #[] }, { accessFlags := 26, nameIndex := 1101, descriptorIndex := 1102, attributes := #[] }, { accessFlags := 26, nameIndex := 1121, descriptorIndex := 1122, attributes := #[] }, { accessFlags := 25, nameIndex := 599, descriptorIndex := 600, attributes := #[] }, { accessFlags := 24, nameIndex := 1125, descriptorIndex := 18, attributes := #[] }, { accessFlags := 24, nameIndex := 1127, descriptorIndex := 18, attributes := #[] }])
  fields := #[{ name := "value", type := (.array .byte), accessFlags := 18, slot := 0, constantValue := 0 }, { name := "coder", type := .byte, accessFlags := 18, slot := 1, constantValue := 0 }, { name := "hash", type := .int, accessFlags := 2, slot := 2, constantValue := 0 }, { name := "hashIsZero", type := .boolean, accessFlags := 2, slot := 3, constantValue := 0 }, { name := "serialVersionUID", type := .long, accessFlags := 26, slot := 0, constantValue := 0 }, { name := "COMPACT_STRINGS", type := .boolean, accessFlags := 24, slot := 1, constantValue := 0 }, { name := "serialPersistentFields", type := (.array (.object "java/io/ObjectStreamField")), accessFlags := 26, slot := 2, constantValue := 0 }, { name := "REPL", type := .char, accessFlags := 26, slot := 3, constantValue := 0 }, { name := "CASE_INSENSITIVE_ORDER", type := (.object "java/util/Comparator"), accessFlags := 25, slot := 4, constantValue := 0 }, { name := "LATIN1", type := .byte, accessFlags := 24, slot := 5, constantValue := 0 }, { name := "UTF16", type := .byte, accessFlags := 24, slot := 6, constantValue := 0 }]
  methods := #[k7m0, k7m1, k7m2, k7m3, k7m4, k7m5, k7m6, k7m7, k7m8, k7m9, k7m10, k7m11, k7m12]
  instanceTypes := #[(.array .byte), .byte, .int, .boolean]
  staticTypes := #[.long, .boolean, (.array (.object "java/io/ObjectStreamField")), .char, (.object "java/util/Comparator"), .byte, .byte]
  resolved := Array.replicate 1451 none
  statics := some 0 }

def pool8 : Array CpInfo := pool [(1, .class_ 2), (0, u "java/lang/String"), (1, .class_ 6), (1, u "java/lang/Object"), (0, u "<init>"), (0, u "()V"), (0, .methodref 1 10), (0, .nameAndType 11 12), (0, u "checkIndex"), (0, u "(II)V"), (1, .class_ 16), (1, u "java/lang/StringLatin1"), (36, u "([BI)C"), (36, u "canEncode"), (14, u "(C)Z"), (15, u "$assertionsDisabled"), (0, u "Z"), (98, .class_ 223), (1, u "java/lang/StringLatin1$LinesSpliterator"), (28, u "charAt"), (127, u "toBytes"), (1, u "(C)[B"), (7, .class_ 391), (0, u "java/lang/StringLatin1$CharsSpliterator")] 3

def k8m0 : Method := { name := "<init>", desc := "()V", sig := { parameters := [], returnType := none }, accessFlags := 0, code := none }
def k8c1 : Code := { maxStack := 2, maxLocals := 2, code := jdk_43_method_2_code, exceptionTable := #[], attributes := #[] }
def k8m1 : Method := { name := "charAt", desc := "([BI)C", sig := { parameters := [(.array .byte), .int], returnType := some .char }, accessFlags := 9, code := some k8c1 }
def k8c2 : Code := { maxStack := 2, maxLocals := 1, code := jdk_43_method_3_code, exceptionTable := #[], attributes := #[] }
def k8m2 : Method := { name := "canEncode", desc := "(C)Z", sig := { parameters := [.char], returnType := some .boolean }, accessFlags := 9, code := some k8c2 }
def k8c3 : Code := { maxStack := 4, maxLocals := 1, code := jdk_43_method_46_code, exceptionTable := #[], attributes := #[] }
def k8m3 : Method := { name := "toBytes", desc := "(C)[B", sig := { parameters := [.char], returnType := some (.array .byte) }, accessFlags := 9, code := some k8c3 }
/-- java/lang/StringLatin1 -/
def k8 : Class := { plain "java/lang/StringLatin1" (some 0) with
  accessFlags := 48
  interfaces := #[]
  cf := some (fileOf pool8 14 #[.nestMembers #[390, 221]] #[{ accessFlags := 0, nameIndex := 7, descriptorIndex := 8, attributes := #[] }, { accessFlags := 9, nameIndex := 252, descriptorIndex := 53, attributes := #[] }, { accessFlags := 9, nameIndex := 90, descriptorIndex := 105, attributes := #[] }, { accessFlags := 9, nameIndex := 380, descriptorIndex := 382, attributes := #[] }] 48 4 #[] #[{ accessFlags := 4120, nameIndex := 121, descriptorIndex := 122, attributes := #[] }])
  fields := #[{ name := "$assertionsDisabled", type := .boolean, accessFlags := 4120, slot := 0, constantValue := 0 }]
  methods := #[k8m0, k8m1, k8m2, k8m3]
  instanceTypes := #[]
  staticTypes := #[.boolean]
  resolved := Array.replicate 395 none
  statics := none }

def pool9 : Array CpInfo := pool [(1, .methodref 2 3), (0, .class_ 4), (0, .nameAndType 5 6), (0, u "java/lang/Object"), (0, u "<init>"), (0, u "()V"), (0, .class_ 8), (0, u "java/lang/Record")] 13

def k9c0 : Code := { maxStack := 1, maxLocals := 1, code := jdk_30_method_1_code, exceptionTable := #[], attributes := #[] }
def k9m0 : Method := { name := "<init>", desc := "()V", sig := { parameters := [], returnType := none }, accessFlags := 4, code := some k9c0 }
/-- java/lang/Record -/
def k9 : Class := { plain "java/lang/Record" (some 0) with
  accessFlags := 1057
  interfaces := #[]
  cf := some (fileOf pool9 7 #[] #[{ accessFlags := 4, nameIndex := 5, descriptorIndex := 6, attributes := #[] }] 1057 2 #[] #[])
  fields := #[]
  methods := #[k9m0]
  instanceTypes := #[]
  staticTypes := #[]
  resolved := Array.replicate 22 none
  statics := none }

def pool10 : Array CpInfo := pool [(1, .class_ 2), (0, u "com/example/strikeboard/strikeboard/engine/Explanation$Step"), (0, .class_ 4), (0, u "java/lang/Object"), (3, .class_ 9), (0, u "com/example/strikeboard/strikeboard/engine/Explanation")] 36

/-- com/example/strikeboard/strikeboard/engine/Explanation$Step -/
def k10 : Class := { plain "com/example/strikeboard/strikeboard/engine/Explanation$Step" (some 0) with
  accessFlags := 1537
  interfaces := #[]
  cf := some (fileOf pool10 1 #[.nestHost 8] #[] 1537 3 #[] #[])
  fields := #[]
  methods := #[]
  instanceTypes := #[]
  staticTypes := #[]
  resolved := Array.replicate 46 none
  statics := none }

def pool11 : Array CpInfo := pool [(1, .methodref 2 3), (0, .class_ 4), (0, .nameAndType 5 6), (0, u "java/lang/Record"), (0, u "<init>"), (0, u "()V"), (0, .string 8), (0, u "offence"), (0, .methodref 10 11), (0, .class_ 12), (0, .nameAndType 13 14), (0, u "java/util/Objects"), (0, u "requireNonNull"), (0, u "(Ljava/lang/Object;Ljava/lang/String;)Ljava/lang/Object;"), (0, .fieldref 16 17), (0, .class_ 18), (0, .nameAndType 8 19), (0, u "com/example/strikeboard/strikeboard/engine/Explanation$Column"), (0, u "Ljava/lang/String;"), (0, .fieldref 16 21), (0, .nameAndType 22 23), (0, u "column"), (0, u "J"), (0, .class_ 25), (0, u "java/lang/StringBuilder"), (0, .methodref 24 3), (0, .string 28), (0, u "column "), (0, .methodref 24 30), (0, .nameAndType 31 32), (0, u "append"), (0, u "(Ljava/lang/String;)Ljava/lang/StringBuilder;"), (0, .string 34), (0, u " "), (0, .methodref 24 36), (0, .nameAndType 31 37), (0, u "(J)Ljava/lang/StringBuilder;"), (0, .methodref 24 39), (0, .nameAndType 40 41), (0, u "toString"), (0, u "()Ljava/lang/String;"), (8, .class_ 51), (0, u "com/example/strikeboard/strikeboard/engine/Explanation$Step"), (0, u "(Ljava/lang/String;J)V"), (9, .class_ 63), (0, u "com/example/strikeboard/strikeboard/engine/Explanation")] 21

def k11c0 : Code := { maxStack := 3, maxLocals := 4, code := prog_18_method_1_code, exceptionTable := #[], attributes := #[] }
def k11m0 : Method := { name := "<init>", desc := "(Ljava/lang/String;J)V", sig := { parameters := [(.object "java/lang/String"), .long], returnType := none }, accessFlags := 1, code := some k11c0 }
def k11c1 : Code := { maxStack := 3, maxLocals := 1, code := prog_18_method_2_code, exceptionTable := #[], attributes := #[] }
def k11m1 : Method := { name := "toString", desc := "()Ljava/lang/String;", sig := { parameters := [], returnType := some (.object "java/lang/String") }, accessFlags := 1, code := some k11c1 }
/-- com/example/strikeboard/strikeboard/engine/Explanation$Column -/
def k11 : Class := { plain "com/example/strikeboard/strikeboard/engine/Explanation$Column" (some 9) with
  accessFlags := 49
  interfaces := #[10]
  cf := some (fileOf pool11 16 #[.nestHost 62] #[{ accessFlags := 1, nameIndex := 5, descriptorIndex := 52, attributes := #[] }, { accessFlags := 1, nameIndex := 40, descriptorIndex := 41, attributes := #[] }] 49 2 #[50] #[{ accessFlags := 18, nameIndex := 8, descriptorIndex := 19, attributes := #[] }, { accessFlags := 18, nameIndex := 22, descriptorIndex := 23, attributes := #[] }])
  fields := #[{ name := "offence", type := (.object "java/lang/String"), accessFlags := 18, slot := 0, constantValue := 0 }, { name := "column", type := .long, accessFlags := 18, slot := 1, constantValue := 0 }]
  methods := #[k11m0, k11m1]
  instanceTypes := #[(.object "java/lang/String"), .long]
  staticTypes := #[]
  resolved := Array.replicate 85 none
  statics := none }

def pool12 : Array CpInfo := pool [(2, .class_ 4), (1, u "java/lang/Object"), (0, u "<init>"), (0, u "()V"), (35, .class_ 44), (1, u "java/util/Objects"), (0, u "requireNonNull"), (48, u "(Ljava/lang/Object;Ljava/lang/String;)Ljava/lang/Object;")] 89

def k12m0 : Method := { name := "<init>", desc := "()V", sig := { parameters := [], returnType := none }, accessFlags := 2, code := none }
def k12c1 : Code := { maxStack := 3, maxLocals := 2, code := jdk_31_method_11_code, exceptionTable := #[], attributes := #[] }
def k12m1 : Method := { name := "requireNonNull", desc := "(Ljava/lang/Object;Ljava/lang/String;)Ljava/lang/Object;", sig := { parameters := [(.object "java/lang/Object"), (.object "java/lang/String")], returnType := some (.object "java/lang/Object") }, accessFlags := 9, code := some k12c1 }
/-- java/util/Objects -/
def k12 : Class := { plain "java/util/Objects" (some 0) with
  accessFlags := 49
  interfaces := #[]
  cf := some (fileOf pool12 42 #[] #[{ accessFlags := 2, nameIndex := 5, descriptorIndex := 6, attributes := #[] }, { accessFlags := 9, nameIndex := 45, descriptorIndex := 94, attributes := #[] }] 49 2 #[] #[])
  fields := #[]
  methods := #[k12m0, k12m1]
  instanceTypes := #[]
  staticTypes := #[]
  resolved := Array.replicate 184 none
  statics := none }

def pool13 : Array CpInfo := pool [(1, .class_ 2), (0, u "java/lang/Appendable"), (0, .class_ 4), (0, u "java/lang/Object")] 9

/-- java/lang/Appendable -/
def k13 : Class := { plain "java/lang/Appendable" (some 0) with
  accessFlags := 1537
  interfaces := #[]
  cf := some (fileOf pool13 1 #[] #[] 1537 3 #[] #[])
  fields := #[]
  methods := #[]
  instanceTypes := #[]
  staticTypes := #[]
  resolved := Array.replicate 14 none
  statics := none }

def pool14 : Array CpInfo := pool [(1, .class_ 2), (0, u "java/lang/String"), (0, .methodref 4 5), (0, .class_ 6), (0, .nameAndType 7 8), (0, u "java/lang/Object"), (0, u "<init>"), (0, u "()V"), (1, .class_ 12), (1, u "java/lang/AbstractStringBuilder"), (0, u "EMPTYVALUE"), (0, u "[B"), (0, .fieldref 10 16), (0, .nameAndType 17 14), (0, u "value"), (0, .fieldref 1 19), (0, .nameAndType 20 21), (0, u "COMPACT_STRINGS"), (0, u "Z"), (0, .fieldref 10 23), (0, .nameAndType 24 25), (0, u "coder"), (0, u "B"), (6, .methodref 1 33), (0, .nameAndType 34 35), (0, u "length"), (0, u "()I"), (3, .integer 2147483647), (0, .methodref 1 41), (0, .nameAndType 24 42), (0, u "()B"), (2, u "append"), (0, u "(Ljava/lang/String;)Ljava/lang/AbstractStringBuilder;"), (1, .class_ 49), (0, u "java/lang/CharSequence"), (19, u "(Ljava/lang/String;)V"), (5, u "maybeLatin1"), (3, .fieldref 10 80), (0, .nameAndType 81 82), (0, u "count"), (0, u "I"), (0, .methodref 10 84), (0, .nameAndType 85 86), (0, u "isLatin1"), (0, u "()Z"), (13, .methodref 10 101), (0, .nameAndType 102 103), (0, u "ensureCapacityInternal"), (0, u "(I)V"), (0, .methodref 10 105), (0, .nameAndType 106 107), (0, u "newCapacity"), (0, u "(I)I"), (0, .methodref 109 110), (0, .class_ 111), (0, .nameAndType 112 113), (0, u "java/util/Arrays"), (0, u "copyOf"), (0, u "([BI)[B"), (0, .methodref 115 116), (0, .class_ 117), (0, .nameAndType 118 119), (0, u "jdk/internal/util/ArraysSupport"), (0, u "newLength"), (0, u "(III)I"), (68, u "getChars"), (19, .methodref 10 209), (0, .nameAndType 210 211), (0, u "putStringAt"), (0, u "(ILjava/lang/String;)V"), (5, u "inflateIfNeededFor"), (2, .nameAndType 221 222), (0, u "getBytes"), (0, u "([BIB)V"), (24, u "stringSize"), (6, .methodref 255 256), (0, .class_ 257), (0, .nameAndType 247 258), (0, u "java/lang/Long"), (0, u "(J)I"), (0, .methodref 255 260), (0, .nameAndType 188 261), (0, u "(JI[B)I"), (135, .methodref 10 398), (0, .nameAndType 217 69), (0, .methodref 1 220), (3, u "()[B"), (40, .class_ 445), (0, u "java/lang/Appendable"), (67, u "(J)Ljava/lang/AbstractStringBuilder;"), (38, u "getValue")] 56

def k14m0 : Method := { name := "<init>", desc := "()V", sig := { parameters := [], returnType := none }, accessFlags := 0, code := none }
def k14c1 : Code := { maxStack := 2, maxLocals := 2, code := jdk_68_method_2_code, exceptionTable := #[], attributes := #[] }
def k14m1 : Method := { name := "<init>", desc := "(I)V", sig := { parameters := [.int], returnType := none }, accessFlags := 0, code := some k14c1 }
def k14c2 : Code := { maxStack := 1, maxLocals := 1, code := jdk_68_method_6_code, exceptionTable := #[], attributes := #[] }
def k14m2 : Method := { name := "length", desc := "()I", sig := { parameters := [], returnType := some .int }, accessFlags := 1, code := some k14c2 }
def k14c3 : Code := { maxStack := 4, maxLocals := 3, code := jdk_68_method_9_code, exceptionTable := #[], attributes := #[] }
def k14m3 : Method := { name := "ensureCapacityInternal", desc := "(I)V", sig := { parameters := [.int], returnType := none }, accessFlags := 2, code := some k14c3 }
def k14c4 : Code := { maxStack := 5, maxLocals := 6, code := jdk_68_method_10_code, exceptionTable := #[], attributes := #[] }
def k14m4 : Method := { name := "newCapacity", desc := "(I)I", sig := { parameters := [.int], returnType := some .int }, accessFlags := 2, code := some k14c4 }
def k14c5 : Code := { maxStack := 3, maxLocals := 3, code := jdk_68_method_22_code, exceptionTable := #[], attributes := #[] }
def k14m5 : Method := { name := "append", desc := "(Ljava/lang/String;)Ljava/lang/AbstractStringBuilder;", sig := { parameters := [(.object "java/lang/String")], returnType := some (.object "java/lang/AbstractStringBuilder") }, accessFlags := 1, code := some k14c5 }
def k14c6 : Code := { maxStack := 5, maxLocals := 5, code := jdk_68_method_33_code, exceptionTable := #[], attributes := #[] }
def k14m6 : Method := { name := "append", desc := "(J)Ljava/lang/AbstractStringBuilder;", sig := { parameters := [.long], returnType := some (.object "java/lang/AbstractStringBuilder") }, accessFlags := 1, code := some k14c6 }
def k14c7 : Code := { maxStack := 1, maxLocals := 1, code := jdk_68_method_64_code, exceptionTable := #[], attributes := #[] }
def k14m7 : Method := { name := "getValue", desc := "()[B", sig := { parameters := [], returnType := some (.array .byte) }, accessFlags := 16, code := some k14c7 }
def k14c8 : Code := { maxStack := 1, maxLocals := 1, code := jdk_68_method_68_code, exceptionTable := #[], attributes := #[] }
def k14m8 : Method := { name := "isLatin1", desc := "()Z", sig := { parameters := [], returnType := some .boolean }, accessFlags := 16, code := some k14c8 }
def k14c9 : Code := { maxStack := 2, maxLocals := 2, code := jdk_68_method_71_code, exceptionTable := #[], attributes := #[] }
def k14m9 : Method := { name := "inflateIfNeededFor", desc := "(Ljava/lang/String;)V", sig := { parameters := [(.object "java/lang/String")], returnType := none }, accessFlags := 2, code := some k14c9 }
def k14c10 : Code := { maxStack := 4, maxLocals := 3, code := jdk_68_method_73_code, exceptionTable := #[], attributes := #[] }
def k14m10 : Method := { name := "putStringAt", desc := "(ILjava/lang/String;)V", sig := { parameters := [.int, (.object "java/lang/String")], returnType := none }, accessFlags := 2, code := some k14c10 }
/-- java/lang/AbstractStringBuilder -/
def k14 : Class := { plain "java/lang/AbstractStringBuilder" (some 0) with
  accessFlags := 1056
  interfaces := #[13, 4]
  cf := some (fileOf pool14 10 #[] #[{ accessFlags := 0, nameIndex := 7, descriptorIndex := 8, attributes := #[] }, { accessFlags := 0, nameIndex := 7, descriptorIndex := 103, attributes := #[] }, { accessFlags := 1, nameIndex := 34, descriptorIndex := 35, attributes := #[] }, { accessFlags := 2, nameIndex := 102, descriptorIndex := 103, attributes := #[] }, { accessFlags := 2, nameIndex := 106, descriptorIndex := 107, attributes := #[] }, { accessFlags := 1, nameIndex := 45, descriptorIndex := 46, attributes := #[] }, { accessFlags := 1, nameIndex := 45, descriptorIndex := 513, attributes := #[] }, { accessFlags := 16, nameIndex := 552, descriptorIndex := 403, attributes := #[] }, { accessFlags := 16, nameIndex := 85, descriptorIndex := 86, attributes := #[] }, { accessFlags := 2, nameIndex := 217, descriptorIndex := 69, attributes := #[] }, { accessFlags := 2, nameIndex := 210, descriptorIndex := 211, attributes := #[] }] 1056 4 #[444, 48] #[{ accessFlags := 0, nameIndex := 17, descriptorIndex := 14, attributes := #[] }, { accessFlags := 0, nameIndex := 24, descriptorIndex := 25, attributes := #[] }, { accessFlags := 0, nameIndex := 75, descriptorIndex := 21, attributes := #[] }, { accessFlags := 0, nameIndex := 81, descriptorIndex := 82, attributes := #[] }, { accessFlags := 26, nameIndex := 13, descriptorIndex := 14, attributes := #[] }])
  fields := #[{ name := "value", type := (.array .byte), accessFlags := 0, slot := 0, constantValue := 0 }, { name := "coder", type := .byte, accessFlags := 0, slot := 1, constantValue := 0 }, { name := "maybeLatin1", type := .boolean, accessFlags := 0, slot := 2, constantValue := 0 }, { name := "count", type := .int, accessFlags := 0, slot := 3, constantValue := 0 }, { name := "EMPTYVALUE", type := (.array .byte), accessFlags := 26, slot := 0, constantValue := 0 }]
  methods := #[k14m0, k14m1, k14m2, k14m3, k14m4, k14m5, k14m6, k14m7, k14m8, k14m9, k14m10]
  instanceTypes := #[(.array .byte), .byte, .boolean, .int]
  staticTypes := #[(.array .byte)]
  resolved := Array.replicate 609 none
  statics := none }

def pool15 : Array CpInfo := pool [(1, .methodref 2 3), (0, .class_ 4), (0, .nameAndType 5 6), (0, u "java/lang/AbstractStringBuilder"), (0, u "<init>"), (0, u "(I)V"), (11, .class_ 20), (1, u "java/lang/String"), (3, .class_ 26), (1, u "java/lang/StringBuilder"), (0, u "append"), (0, u "(Ljava/lang/String;)Ljava/lang/StringBuilder;"), (0, .methodref 2 30), (0, .nameAndType 27 31), (0, u "(Ljava/lang/String;)Ljava/lang/AbstractStringBuilder;"), (24, .methodref 2 57), (0, .nameAndType 27 58), (0, u "(J)Ljava/lang/AbstractStringBuilder;"), (78, .methodref 18 138), (0, .nameAndType 5 139), (0, u "(Ljava/lang/StringBuilder;)V"), (5, u "()V"), (10, u "()I"), (124, u "(J)Ljava/lang/StringBuilder;"), (61, .methodref 2 344), (0, .nameAndType 345 156), (0, u "length"), (3, .class_ 350), (0, u "java/lang/Appendable"), (0, .class_ 352), (0, u "java/io/Serializable"), (0, .class_ 354), (0, u "java/lang/Comparable"), (0, .class_ 356), (0, u "java/lang/CharSequence"), (0, u "serialVersionUID"), (0, u "J"), (40, u "toString"), (0, u "()Ljava/lang/String;")] 21

def k15c0 : Code := { maxStack := 2, maxLocals := 1, code := jdk_67_method_1_code, exceptionTable := #[], attributes := #[] }
def k15m0 : Method := { name := "<init>", desc := "()V", sig := { parameters := [], returnType := none }, accessFlags := 1, code := some k15c0 }
def k15c1 : Code := { maxStack := 2, maxLocals := 2, code := jdk_67_method_7_code, exceptionTable := #[], attributes := #[] }
def k15m1 : Method := { name := "append", desc := "(Ljava/lang/String;)Ljava/lang/StringBuilder;", sig := { parameters := [(.object "java/lang/String")], returnType := some (.object "java/lang/StringBuilder") }, accessFlags := 1, code := some k15c1 }
def k15c2 : Code := { maxStack := 3, maxLocals := 3, code := jdk_67_method_16_code, exceptionTable := #[], attributes := #[] }
def k15m2 : Method := { name := "append", desc := "(J)Ljava/lang/StringBuilder;", sig := { parameters := [.long], returnType := some (.object "java/lang/StringBuilder") }, accessFlags := 1, code := some k15c2 }
def k15c3 : Code := { maxStack := 3, maxLocals := 1, code := jdk_67_method_42_code, exceptionTable := #[], attributes := #[] }
def k15m3 : Method := { name := "toString", desc := "()Ljava/lang/String;", sig := { parameters := [], returnType := some (.object "java/lang/String") }, accessFlags := 1, code := some k15c3 }
def k15c4 : Code := { maxStack := 1, maxLocals := 1, code := jdk_67_method_93_code, exceptionTable := #[], attributes := #[] }
def k15m4 : Method := { name := "length", desc := "()I", sig := { parameters := [], returnType := some .int }, accessFlags := 4161, code := some k15c4 }
/-- java/lang/StringBuilder -/
def k15 : Class := { plain "java/lang/StringBuilder" (some 14) with
  accessFlags := 49
  interfaces := #[13, 2, 3, 4]
  cf := some (fileOf pool15 24 #[] #[{ accessFlags := 1, nameIndex := 5, descriptorIndex := 145, attributes := #[] }, { accessFlags := 1, nameIndex := 27, descriptorIndex := 28, attributes := #[] }, { accessFlags := 1, nameIndex := 27, descriptorIndex := 281, attributes := #[] }, { accessFlags := 1, nameIndex := 399, descriptorIndex := 400, attributes := #[] }, { accessFlags := 4161, nameIndex := 345, descriptorIndex := 156, attributes := #[] }] 49 2 #[349, 351, 353, 355] #[{ accessFlags := 24, nameIndex := 357, descriptorIndex := 358, attributes := #[] }])
  fields := #[{ name := "serialVersionUID", type := .long, accessFlags := 24, slot := 0, constantValue := 0 }]
  methods := #[k15m0, k15m1, k15m2, k15m3, k15m4]
  instanceTypes := #[(.array .byte), .byte, .boolean, .int]
  staticTypes := #[.long]
  resolved := Array.replicate 422 none
  statics := none }

def pool16 : Array CpInfo := pool [(2, .class_ 4), (1, u "java/lang/Object"), (0, u "<init>"), (0, u "()V"), (1, .class_ 10), (1, u "java/lang/System"), (0, u "allowSecurityManager"), (0, u "I"), (16, u "cons"), (0, u "Ljava/io/Console;"), (77, .class_ 110), (1, u "java/lang/System$CallersHolder"), (43, u "initialErrStream"), (0, u "Ljava/io/PrintStream;"), (19, u "security"), (0, u "Ljava/lang/SecurityManager;"), (31, .class_ 209), (0, u "java/lang/System$1"), (7, u "props"), (0, u "Ljava/util/Properties;"), (2, u "lineSeparator"), (0, u "Ljava/lang/String;"), (96, .class_ 321), (1, u "java/lang/System$LoggerFinder"), (5, .class_ 328), (0, u "java/lang/System$Logger"), (67, u "err"), (2, u "out"), (91, u "notSupportedJnuEncoding"), (15, u "in"), (17, u "initialIn"), (0, u "Ljava/io/InputStream;"), (35, u "bootLayer"), (0, u "Ljava/lang/ModuleLayer;"), (99, .class_ 664), (0, u "java/lang/System$2"), (9, u "NEVER"), (2, u "MAYBE"), (49, u "arraycopy"), (0, u "(Ljava/lang/Object;ILjava/lang/Object;II)V"), (72, .class_ 802), (0, u "java/lang/System$Logger$Level")] 31

def k16m0 : Method := { name := "<init>", desc := "()V", sig := { parameters := [], returnType := none }, accessFlags := 2, code := none }
def k16m1 : Method := { name := "arraycopy", desc := "(Ljava/lang/Object;ILjava/lang/Object;II)V", sig := { parameters := [(.object "java/lang/Object"), .int, (.object "java/lang/Object"), .int, .int], returnType := none }, accessFlags := 265, code := none }
/-- java/lang/System -/
def k16 : Class := { plain "java/lang/System" (some 0) with
  accessFlags := 49
  interfaces := #[]
  cf := some (fileOf pool16 8 #[.nestMembers #[319, 327, 801, 108, 663, 208]] #[{ accessFlags := 2, nameIndex := 5, descriptorIndex := 6, attributes := #[] }, { accessFlags := 265, nameIndex := 727, descriptorIndex := 728, attributes := #[] }] 49 2 #[] #[{ accessFlags := 25, nameIndex := 507, descriptorIndex := 526, attributes := #[] }, { accessFlags := 25, nameIndex := 399, descriptorIndex := 155, attributes := #[] }, { accessFlags := 25, nameIndex := 396, descriptorIndex := 155, attributes := #[] }, { accessFlags := 10, nameIndex := 525, descriptorIndex := 526, attributes := #[] }, { accessFlags := 26, nameIndex := 674, descriptorIndex := 12, attributes := #[] }, { accessFlags := 26, nameIndex := 677, descriptorIndex := 12, attributes := #[] }, { accessFlags := 10, nameIndex := 11, descriptorIndex := 12, attributes := #[] }, { accessFlags := 74, nameIndex := 175, descriptorIndex := 176, attributes := #[] }, { accessFlags := 10, nameIndex := 491, descriptorIndex := 222, attributes := #[] }, { accessFlags := 74, nameIndex := 29, descriptorIndex := 30, attributes := #[] }, { accessFlags := 74, nameIndex := 154, descriptorIndex := 155, attributes := #[] }, { accessFlags := 10, nameIndex := 217, descriptorIndex := 218, attributes := #[] }, { accessFlags := 10, nameIndex := 221, descriptorIndex := 222, attributes := #[] }, { accessFlags := 8, nameIndex := 562, descriptorIndex := 563, attributes := #[] }])
  fields := #[{ name := "in", type := (.object "java/io/InputStream"), accessFlags := 25, slot := 0, constantValue := 0 }, { name := "out", type := (.object "java/io/PrintStream"), accessFlags := 25, slot := 1, constantValue := 0 }, { name := "err", type := (.object "java/io/PrintStream"), accessFlags := 25, slot := 2, constantValue := 0 }, { name := "initialIn", type := (.object "java/io/InputStream"), accessFlags := 10, slot := 3, constantValue := 0 }, { name := "NEVER", type := .int, accessFlags := 26, slot := 4, constantValue := 0 }, { name := "MAYBE", type := .int, accessFlags := 26, slot := 5, constantValue := 0 }, { name := "allowSecurityManager", type := .int, accessFlags := 10, slot := 6, constantValue := 0 }, { name := "security", type := (.object "java/lang/SecurityManager"), accessFlags := 74, slot := 7, constantValue := 0 }, { name := "notSupportedJnuEncoding", type := (.object "java/lang/String"), accessFlags := 10, slot := 8, constantValue := 0 }, { name := "cons", type := (.object "java/io/Console"), accessFlags := 74, slot := 9, constantValue := 0 }, { name := "initialErrStream", type := (.object "java/io/PrintStream"), accessFlags := 74, slot := 10, constantValue := 0 }, { name := "props", type := (.object "java/util/Properties"), accessFlags := 10, slot := 11, constantValue := 0 }, { name := "lineSeparator", type := (.object "java/lang/String"), accessFlags := 10, slot := 12, constantValue := 0 }, { name := "bootLayer", type := (.object "java/lang/ModuleLayer"), accessFlags := 8, slot := 13, constantValue := 0 }]
  methods := #[k16m0, k16m1]
  instanceTypes := #[]
  staticTypes := #[(.object "java/io/InputStream"), (.object "java/io/PrintStream"), (.object "java/io/PrintStream"), (.object "java/io/InputStream"), .int, .int, .int, (.object "java/lang/SecurityManager"), (.object "java/lang/String"), (.object "java/io/Console"), (.object "java/io/PrintStream"), (.object "java/util/Properties"), (.object "java/lang/String"), (.object "java/lang/ModuleLayer")]
  resolved := Array.replicate 834 none
  statics := none }

def pool17 : Array CpInfo := pool [(2, .class_ 4), (1, u "java/lang/Object"), (0, u "<init>"), (0, u "()V"), (1, .class_ 10), (1, u "java/lang/Number"), (2, .class_ 14), (0, u "java/io/Serializable"), (0, u "serialVersionUID"), (0, u "J")] 20

def k17m0 : Method := { name := "<init>", desc := "()V", sig := { parameters := [], returnType := none }, accessFlags := 1, code := none }
/-- java/lang/Number -/
def k17 : Class := { plain "java/lang/Number" (some 0) with
  accessFlags := 1057
  interfaces := #[2]
  cf := some (fileOf pool17 8 #[] #[{ accessFlags := 1, nameIndex := 5, descriptorIndex := 6, attributes := #[] }] 1057 2 #[13] #[{ accessFlags := 26, nameIndex := 15, descriptorIndex := 16, attributes := #[] }])
  fields := #[{ name := "serialVersionUID", type := .long, accessFlags := 26, slot := 0, constantValue := 0 }]
  methods := #[k17m0]
  instanceTypes := #[]
  staticTypes := #[.long]
  resolved := Array.replicate 37 none
  statics := none }

def pool18 : Array CpInfo := pool [(1, .class_ 2), (0, u "java/lang/Long"), (15, .class_ 20), (1, u "java/lang/Integer"), (32, .long 10), (47, u "(J)I"), (18, u "stringSize"), (2, u "getChars"), (0, u "(JI[B)I"), (4, .long 18446744071562067968), (1, .long 100), (1, .fieldref 18 134), (0, .nameAndType 135 136), (0, u "DigitOnes"), (0, u "[B"), (0, .fieldref 18 138), (0, .nameAndType 139 136), (0, u "DigitTens"), (0, .long 18446744073709551606), (94, .class_ 237), (1, u "java/lang/Long$LongCache"), (33, .class_ 272), (0, u "java/lang/Number"), (2, u "value"), (0, u "J"), (84, u "TYPE"), (0, u "Ljava/lang/Class;"), (0, .class_ 364), (0, u "java/lang/Comparable"), (0, .class_ 366), (0, u "java/lang/constant/Constable"), (0, .class_ 368), (0, u "java/lang/constant/ConstantDesc"), (0, u "MIN_VALUE"), (1, u "MAX_VALUE"), (4, u "SIZE"), (0, u "I"), (1, u "BYTES"), (1, u "serialVersionUID")] 142

def k18c0 : Code := { maxStack := 4, maxLocals := 11, code := jdk_35_method_14_code, exceptionTable := #[], attributes := #[] }
def k18m0 : Method := { name := "getChars", desc := "(JI[B)I", sig := { parameters := [.long, .int, (.array .byte)], returnType := some .int }, accessFlags := 8, code := some k18c0 }
def k18c1 : Code := { maxStack := 4, maxLocals := 6, code := jdk_35_method_15_code, exceptionTable := #[], attributes := #[] }
def k18m1 : Method := { name := "stringSize", desc := "(J)I", sig := { parameters := [.long], returnType := some .int }, accessFlags := 8, code := some k18c1 }
/-- java/lang/Long -/
def k18 : Class := { plain "java/lang/Long" (some 17) with
  accessFlags := 49
  interfaces := #[3, 5, 6]
  cf := some (fileOf pool18 1 #[.nestMembers #[235]] #[{ accessFlags := 8, nameIndex := 123, descriptorIndex := 124, attributes := #[] }, { accessFlags := 8, nameIndex := 120, descriptorIndex := 101, attributes := #[] }] 49 271 #[363, 365, 367] #[{ accessFlags := 25, nameIndex := 369, descriptorIndex := 276, attributes := #[] }, { accessFlags := 25, nameIndex := 371, descriptorIndex := 276, attributes := #[] }, { accessFlags := 25, nameIndex := 361, descriptorIndex := 362, attributes := #[] }, { accessFlags := 18, nameIndex := 275, descriptorIndex := 276, attributes := #[] }, { accessFlags := 25, nameIndex := 376, descriptorIndex := 377, attributes := #[] }, { accessFlags := 25, nameIndex := 379, descriptorIndex := 377, attributes := #[] }, { accessFlags := 26, nameIndex := 381, descriptorIndex := 276, attributes := #[] }])
  fields := #[{ name := "MIN_VALUE", type := .long, accessFlags := 25, slot := 0, constantValue := 0 }, { name := "MAX_VALUE", type := .long, accessFlags := 25, slot := 1, constantValue := 0 }, { name := "TYPE", type := (.object "java/lang/Class"), accessFlags := 25, slot := 2, constantValue := 0 }, { name := "value", type := .long, accessFlags := 18, slot := 0, constantValue := 0 }, { name := "SIZE", type := .int, accessFlags := 25, slot := 3, constantValue := 0 }, { name := "BYTES", type := .int, accessFlags := 25, slot := 4, constantValue := 0 }, { name := "serialVersionUID", type := .long, accessFlags := 26, slot := 5, constantValue := 0 }]
  methods := #[k18m0, k18m1]
  instanceTypes := #[.long]
  staticTypes := #[.long, .long, (.object "java/lang/Class"), .int, .int, .long]
  resolved := Array.replicate 524 none
  statics := none }

def pool19 : Array CpInfo := pool [(9, u "<init>"), (6, .class_ 18), (1, u "java/lang/Object"), (0, u "()V"), (1, .class_ 23), (1, u "jdk/internal/util/ArraysSupport"), (0, u "LOG2_ARRAY_LONG_INDEX_SCALE"), (0, u "I"), (2, u "U"), (0, u "Ljdk/internal/misc/Unsafe;"), (8, u "BIG_ENDIAN"), (0, u "Z"), (8, u "LOG2_BYTE_BIT_SIZE"), (4, u "LOG2_ARRAY_INT_INDEX_SCALE"), (54, u "JLA"), (0, u "Ljdk/internal/access/JavaLangAccess;"), (11, u "LOG2_ARRAY_BOOLEAN_INDEX_SCALE"), (9, u "LOG2_ARRAY_BYTE_INDEX_SCALE"), (5, u "LOG2_ARRAY_CHAR_INDEX_SCALE"), (5, u "LOG2_ARRAY_SHORT_INDEX_SCALE"), (18, u "LOG2_ARRAY_FLOAT_INDEX_SCALE"), (24, u "LOG2_ARRAY_DOUBLE_INDEX_SCALE"), (6, .methodref 195 196), (0, .class_ 197), (0, .nameAndType 198 199), (0, u "java/lang/Math"), (0, u "max"), (0, u "(II)I"), (0, .integer 2147483639), (76, u "T_BOOLEAN"), (2, u "T_CHAR"), (1, u "T_FLOAT"), (1, u "T_DOUBLE"), (1, u "T_BYTE"), (1, u "T_SHORT"), (1, u "T_INT"), (1, u "T_LONG"), (1, u "SOFT_MAX_ARRAY_LENGTH"), (56, u "newLength"), (0, u "(III)I")] 25

def k19m0 : Method := { name := "<init>", desc := "()V", sig := { parameters := [], returnType := none }, accessFlags := 2, code := none }
def k19c1 : Code := { maxStack := 3, maxLocals := 4, code := jdk_48_method_27_code, exceptionTable := #[], attributes := #[] }
def k19m1 : Method := { name := "newLength", desc := "(III)I", sig := { parameters := [.int, .int, .int], returnType := some .int }, accessFlags := 9, code := some k19c1 }
/-- jdk/internal/util/ArraysSupport -/
def k19 : Class := { plain "jdk/internal/util/ArraysSupport" (some 0) with
  accessFlags := 33
  interfaces := #[]
  cf := some (fileOf pool19 21 #[] #[{ accessFlags := 2, nameIndex := 9, descriptorIndex := 19, attributes := #[] }, { accessFlags := 9, nameIndex := 351, descriptorIndex := 352, attributes := #[] }] 33 16 #[] #[{ accessFlags := 24, nameIndex := 28, descriptorIndex := 29, attributes := #[] }, { accessFlags := 26, nameIndex := 38, descriptorIndex := 39, attributes := #[] }, { accessFlags := 25, nameIndex := 121, descriptorIndex := 25, attributes := #[] }, { accessFlags := 25, nameIndex := 131, descriptorIndex := 25, attributes := #[] }, { accessFlags := 25, nameIndex := 137, descriptorIndex := 25, attributes := #[] }, { accessFlags := 25, nameIndex := 143, descriptorIndex := 25, attributes := #[] }, { accessFlags := 25, nameIndex := 53, descriptorIndex := 25, attributes := #[] }, { accessFlags := 25, nameIndex := 24, descriptorIndex := 25, attributes := #[] }, { accessFlags := 25, nameIndex := 162, descriptorIndex := 25, attributes := #[] }, { accessFlags := 25, nameIndex := 187, descriptorIndex := 25, attributes := #[] }, { accessFlags := 26, nameIndex := 48, descriptorIndex := 25, attributes := #[] }, { accessFlags := 25, nameIndex := 277, descriptorIndex := 25, attributes := #[] }, { accessFlags := 25, nameIndex := 280, descriptorIndex := 25, attributes := #[] }, { accessFlags := 25, nameIndex := 282, descriptorIndex := 25, attributes := #[] }, { accessFlags := 25, nameIndex := 284, descriptorIndex := 25, attributes := #[] }, { accessFlags := 25, nameIndex := 286, descriptorIndex := 25, attributes := #[] }, { accessFlags := 25, nameIndex := 288, descriptorIndex := 25, attributes := #[] }, { accessFlags := 25, nameIndex := 290, descriptorIndex := 25, attributes := #[] }, { accessFlags := 25, nameIndex := 292, descriptorIndex := 25, attributes := #[] }, { accessFlags := 26, nameIndex := 108, descriptorIndex := 109, attributes := #[] }, { accessFlags := 25, nameIndex := 294, descriptorIndex := 25, attributes := #[] }])
  fields := #[{ name := "U", type := (.object "jdk/internal/misc/Unsafe"), accessFlags := 24, slot := 0, constantValue := 0 }, { name := "BIG_ENDIAN", type := .boolean, accessFlags := 26, slot := 1, constantValue := 0 }, { name := "LOG2_ARRAY_BOOLEAN_INDEX_SCALE", type := .int, accessFlags := 25, slot := 2, constantValue := 0 }, { name := "LOG2_ARRAY_BYTE_INDEX_SCALE", type := .int, accessFlags := 25, slot := 3, constantValue := 0 }, { name := "LOG2_ARRAY_CHAR_INDEX_SCALE", type := .int, accessFlags := 25, slot := 4, constantValue := 0 }, { name := "LOG2_ARRAY_SHORT_INDEX_SCALE", type := .int, accessFlags := 25, slot := 5, constantValue := 0 }, { name := "LOG2_ARRAY_INT_INDEX_SCALE", type := .int, accessFlags := 25, slot := 6, constantValue := 0 }, { name := "LOG2_ARRAY_LONG_INDEX_SCALE", type := .int, accessFlags := 25, slot := 7, constantValue := 0 }, { name := "LOG2_ARRAY_FLOAT_INDEX_SCALE", type := .int, accessFlags := 25, slot := 8, constantValue := 0 }, { name := "LOG2_ARRAY_DOUBLE_INDEX_SCALE", type := .int, accessFlags := 25, slot := 9, constantValue := 0 }, { name := "LOG2_BYTE_BIT_SIZE", type := .int, accessFlags := 26, slot := 10, constantValue := 0 }, { name := "T_BOOLEAN", type := .int, accessFlags := 25, slot := 11, constantValue := 0 }, { name := "T_CHAR", type := .int, accessFlags := 25, slot := 12, constantValue := 0 }, { name := "T_FLOAT", type := .int, accessFlags := 25, slot := 13, constantValue := 0 }, { name := "T_DOUBLE", type := .int, accessFlags := 25, slot := 14, constantValue := 0 }, { name := "T_BYTE", type := .int, accessFlags := 25, slot := 15, constantValue := 0 }, { name := "T_SHORT", type := .int, accessFlags := 25, slot := 16, constantValue := 0 }, { name := "T_INT", type := .int, accessFlags := 25, slot := 17, constantValue := 0 }, { name := "T_LONG", type := .int, accessFlags := 25, slot := 18, constantValue := 0 }, { name := "JLA", type := (.object "jdk/internal/access/JavaLangAccess"), accessFlags := 26, slot := 19, constantValue := 0 }, { name := "SOFT_MAX_ARRAY_LENGTH", type := .int, accessFlags := 25, slot := 20, constantValue := 0 }]
  methods := #[k19m0, k19m1]
  instanceTypes := #[]
  staticTypes := #[(.object "jdk/internal/misc/Unsafe"), .boolean, .int, .int, .int, .int, .int, .int, .int, .int, .int, .int, .int, .int, .int, .int, .int, .int, .int, (.object "jdk/internal/access/JavaLangAccess"), .int]
  resolved := Array.replicate 378 none
  statics := none }

def pool20 : Array CpInfo := pool [(1, .class_ 2), (0, u "java/lang/Math"), (1, .class_ 6), (1, u "java/lang/Object"), (0, u "<init>"), (0, u "()V"), (89, .class_ 100), (1, u "java/lang/Math$RandomNumberGeneratorHolder"), (71, u "negativeZeroFloatBits"), (0, u "J"), (2, u "negativeZeroDoubleBits"), (21, u "max"), (2, u "min"), (43, u "$assertionsDisabled"), (0, u "Z"), (88, u "(II)I"), (2, u "twoToTheDoubleScaleDown"), (0, u "D"), (4, u "twoToTheDoubleScaleUp"), (9, u "E"), (3, u "PI"), (2, u "TAU"), (2, u "DEGREES_TO_RADIANS"), (0, u "RADIANS_TO_DEGREES")] 94

def k20m0 : Method := { name := "<init>", desc := "()V", sig := { parameters := [], returnType := none }, accessFlags := 2, code := none }
def k20c1 : Code := { maxStack := 2, maxLocals := 2, code := jdk_29_method_65_code, exceptionTable := #[], attributes := #[] }
def k20m1 : Method := { name := "max", desc := "(II)I", sig := { parameters := [.int, .int], returnType := some .int }, accessFlags := 9, code := some k20c1 }
def k20c2 : Code := { maxStack := 2, maxLocals := 2, code := jdk_29_method_69_code, exceptionTable := #[], attributes := #[] }
def k20m2 : Method := { name := "min", desc := "(II)I", sig := { parameters := [.int, .int], returnType := some .int }, accessFlags := 9, code := some k20c2 }
/-- java/lang/Math -/
def k20 : Class := { plain "java/lang/Math" (some 0) with
  accessFlags := 49
  interfaces := #[]
  cf := some (fileOf pool20 1 #[.nestMembers #[98]] #[{ accessFlags := 2, nameIndex := 7, descriptorIndex := 8, attributes := #[] }, { accessFlags := 9, nameIndex := 198, descriptorIndex := 335, attributes := #[] }, { accessFlags := 9, nameIndex := 201, descriptorIndex := 335, attributes := #[] }] 49 4 #[] #[{ accessFlags := 25, nameIndex := 354, descriptorIndex := 339, attributes := #[] }, { accessFlags := 25, nameIndex := 358, descriptorIndex := 339, attributes := #[] }, { accessFlags := 25, nameIndex := 361, descriptorIndex := 339, attributes := #[] }, { accessFlags := 26, nameIndex := 364, descriptorIndex := 339, attributes := #[] }, { accessFlags := 26, nameIndex := 365, descriptorIndex := 339, attributes := #[] }, { accessFlags := 26, nameIndex := 172, descriptorIndex := 173, attributes := #[] }, { accessFlags := 26, nameIndex := 176, descriptorIndex := 173, attributes := #[] }, { accessFlags := 8, nameIndex := 344, descriptorIndex := 339, attributes := #[] }, { accessFlags := 8, nameIndex := 338, descriptorIndex := 339, attributes := #[] }, { accessFlags := 4120, nameIndex := 245, descriptorIndex := 246, attributes := #[] }])
  fields := #[{ name := "E", type := .double, accessFlags := 25, slot := 0, constantValue := 0 }, { name := "PI", type := .double, accessFlags := 25, slot := 1, constantValue := 0 }, { name := "TAU", type := .double, accessFlags := 25, slot := 2, constantValue := 0 }, { name := "DEGREES_TO_RADIANS", type := .double, accessFlags := 26, slot := 3, constantValue := 0 }, { name := "RADIANS_TO_DEGREES", type := .double, accessFlags := 26, slot := 4, constantValue := 0 }, { name := "negativeZeroFloatBits", type := .long, accessFlags := 26, slot := 5, constantValue := 0 }, { name := "negativeZeroDoubleBits", type := .long, accessFlags := 26, slot := 6, constantValue := 0 }, { name := "twoToTheDoubleScaleUp", type := .double, accessFlags := 8, slot := 7, constantValue := 0 }, { name := "twoToTheDoubleScaleDown", type := .double, accessFlags := 8, slot := 8, constantValue := 0 }, { name := "$assertionsDisabled", type := .boolean, accessFlags := 4120, slot := 9, constantValue := 0 }]
  methods := #[k20m0, k20m1, k20m2]
  instanceTypes := #[]
  staticTypes := #[.double, .double, .double, .double, .double, .long, .long, .double, .double, .boolean]
  resolved := Array.replicate 460 none
  statics := none }

def pool21 : Array CpInfo := pool [(2, .class_ 4), (1, u "java/lang/Object"), (0, u "<init>"), (0, u "()V"), (7, .class_ 16), (1, u "java/util/Arrays"), (57, .class_ 76), (1, u "java/util/Arrays$NaturalOrder"), (32, u "()Ljava/lang/Object;"), (3, .class_ 115), (1, u "java/util/Arrays$LegacyMergeSort"), (1, u "Z"), (10, .nameAndType 129 109), (0, u "clone"), (9, u "copyOfRange"), (10, .methodref 151 152), (0, .class_ 153), (0, .nameAndType 154 155), (0, u "java/lang/System"), (0, u "arraycopy"), (0, u "(Ljava/lang/Object;ILjava/lang/Object;II)V"), (146, u "copyOf"), (1, .methodref 305 306), (0, .class_ 307), (0, .nameAndType 308 309), (0, u "java/lang/Math"), (0, u "min"), (0, u "(II)I"), (0, .methodref 311 128), (0, .class_ 312), (0, u "[B"), (26, .methodref 14 340), (0, .nameAndType 341 342), (0, u "copyOfRangeByte"), (0, u "([BII)[B"), (0, .methodref 14 344), (0, .nameAndType 345 346), (0, u "checkLength"), (0, u "(II)V"), (28, .class_ 376), (0, u "java/util/Arrays$ArrayList"), (68, u "$assertionsDisabled"), (269, u "MIN_ARRAY_SORT_GRAN"), (0, u "I"), (2, u "INSERTIONSORT_THRESHOLD"), (149, u "([BI)[B"), (105, .class_ 976), (0, u "java/util/Arrays$ArrayItr")] 52

def k21m0 : Method := { name := "<init>", desc := "()V", sig := { parameters := [], returnType := none }, accessFlags := 2, code := none }
def k21c1 : Code := { maxStack := 6, maxLocals := 3, code := jdk_65_method_121_code, exceptionTable := #[], attributes := #[] }
def k21m1 : Method := { name := "copyOf", desc := "([BI)[B", sig := { parameters := [(.array .byte), .int], returnType := some (.array .byte) }, accessFlags := 9, code := some k21c1 }
def k21c2 : Code := { maxStack := 4, maxLocals := 2, code := jdk_65_method_131_code, exceptionTable := #[], attributes := #[] }
def k21m2 : Method := { name := "checkLength", desc := "(II)V", sig := { parameters := [.int, .int], returnType := none }, accessFlags := 10, code := some k21c2 }
def k21c3 : Code := { maxStack := 3, maxLocals := 3, code := jdk_65_method_132_code, exceptionTable := #[], attributes := #[] }
def k21m3 : Method := { name := "copyOfRange", desc := "([BII)[B", sig := { parameters := [(.array .byte), .int, .int], returnType := some (.array .byte) }, accessFlags := 9, code := some k21c3 }
def k21c4 : Code := { maxStack := 6, maxLocals := 5, code := jdk_65_method_133_code, exceptionTable := #[], attributes := #[] }
def k21m4 : Method := { name := "copyOfRangeByte", desc := "([BII)[B", sig := { parameters := [(.array .byte), .int, .int], returnType := some (.array .byte) }, accessFlags := 10, code := some k21c4 }
/-- java/util/Arrays -/
def k21 : Class := { plain "java/util/Arrays" (some 0) with
  accessFlags := 49
  interfaces := #[]
  cf := some (fileOf pool21 14 #[.nestMembers #[975, 375, 113, 74]] #[{ accessFlags := 2, nameIndex := 5, descriptorIndex := 6, attributes := #[] }, { accessFlags := 9, nameIndex := 302, descriptorIndex := 869, attributes := #[] }, { accessFlags := 10, nameIndex := 345, descriptorIndex := 346, attributes := #[] }, { accessFlags := 9, nameIndex := 139, descriptorIndex := 342, attributes := #[] }, { accessFlags := 10, nameIndex := 341, descriptorIndex := 342, attributes := #[] }] 49 2 #[] #[{ accessFlags := 26, nameIndex := 715, descriptorIndex := 716, attributes := #[] }, { accessFlags := 26, nameIndex := 719, descriptorIndex := 716, attributes := #[] }, { accessFlags := 4120, nameIndex := 445, descriptorIndex := 117, attributes := #[] }])
  fields := #[{ name := "MIN_ARRAY_SORT_GRAN", type := .int, accessFlags := 26, slot := 0, constantValue := 0 }, { name := "INSERTIONSORT_THRESHOLD", type := .int, accessFlags := 26, slot := 1, constantValue := 0 }, { name := "$assertionsDisabled", type := .boolean, accessFlags := 4120, slot := 2, constantValue := 0 }]
  methods := #[k21m0, k21m1, k21m2, k21m3, k21m4]
  instanceTypes := #[]
  staticTypes := #[.int, .int, .boolean]
  resolved := Array.replicate 1029 none
  statics := none }

def pool22 : Array CpInfo := pool [(1, .class_ 2), (0, u "java/lang/Integer"), (16, u "digits"), (0, u "[C"), (64, u "DigitOnes"), (0, u "[B"), (2, u "DigitTens"), (99, .class_ 190), (0, u "java/lang/Integer$IntegerCache"), (3, u "I"), (8, .class_ 204), (0, u "java/lang/Number"), (2, u "value"), (94, u "TYPE"), (0, u "Ljava/lang/Class;"), (0, .class_ 305), (0, u "java/lang/Comparable"), (0, .class_ 307), (0, u "java/lang/constant/Constable"), (0, .class_ 309), (0, u "java/lang/constant/ConstantDesc"), (0, u "MIN_VALUE"), (1, u "MAX_VALUE"), (3, u "SIZE"), (1, u "BYTES"), (1, u "serialVersionUID"), (0, u "J")] 131

/-- java/lang/Integer -/
def k22 : Class := { plain "java/lang/Integer" (some 17) with
  accessFlags := 49
  interfaces := #[3, 5, 6]
  cf := some (fileOf pool22 1 #[.nestMembers #[189]] #[] 49 203 #[304, 306, 308] #[{ accessFlags := 25, nameIndex := 310, descriptorIndex := 194, attributes := #[] }, { accessFlags := 25, nameIndex := 312, descriptorIndex := 194, attributes := #[] }, { accessFlags := 25, nameIndex := 302, descriptorIndex := 303, attributes := #[] }, { accessFlags := 24, nameIndex := 19, descriptorIndex := 20, attributes := #[] }, { accessFlags := 24, nameIndex := 89, descriptorIndex := 86, attributes := #[] }, { accessFlags := 24, nameIndex := 85, descriptorIndex := 86, attributes := #[] }, { accessFlags := 18, nameIndex := 207, descriptorIndex := 194, attributes := #[] }, { accessFlags := 25, nameIndex := 316, descriptorIndex := 194, attributes := #[] }, { accessFlags := 25, nameIndex := 318, descriptorIndex := 194, attributes := #[] }, { accessFlags := 26, nameIndex := 320, descriptorIndex := 321, attributes := #[] }])
  fields := #[{ name := "MIN_VALUE", type := .int, accessFlags := 25, slot := 0, constantValue := 0 }, { name := "MAX_VALUE", type := .int, accessFlags := 25, slot := 1, constantValue := 0 }, { name := "TYPE", type := (.object "java/lang/Class"), accessFlags := 25, slot := 2, constantValue := 0 }, { name := "digits", type := (.array .char), accessFlags := 24, slot := 3, constantValue := 0 }, { name := "DigitTens", type := (.array .byte), accessFlags := 24, slot := 4, constantValue := 0 }, { name := "DigitOnes", type := (.array .byte), accessFlags := 24, slot := 5, constantValue := 0 }, { name := "value", type := .int, accessFlags := 18, slot := 0, constantValue := 0 }, { name := "SIZE", type := .int, accessFlags := 25, slot := 6, constantValue := 0 }, { name := "BYTES", type := .int, accessFlags := 25, slot := 7, constantValue := 0 }, { name := "serialVersionUID", type := .long, accessFlags := 26, slot := 8, constantValue := 0 }]
  methods := #[]
  instanceTypes := #[.int]
  staticTypes := #[.int, .int, (.object "java/lang/Class"), (.array .char), (.array .byte), (.array .byte), .int, .int, .long]
  resolved := Array.replicate 453 none
  statics := some 1 }

def pool23 : Array CpInfo := pool [(2, .class_ 4), (1, u "java/lang/Object"), (0, u "<init>"), (0, u "()V"), (17, .class_ 26), (1, u "jdk/internal/util/Preconditions"), (6, u "checkIndex"), (21, .class_ 56), (0, u "jdk/internal/util/Preconditions$4"), (57, .class_ 115), (0, u "jdk/internal/util/Preconditions$1"), (7, u "SIOOBE_FORMATTER"), (0, u "Ljava/util/function/BiFunction;"), (0, .class_ 126), (0, u "jdk/internal/util/Preconditions$2"), (3, u "AIOOBE_FORMATTER"), (0, .class_ 132), (0, u "jdk/internal/util/Preconditions$3"), (3, u "IOOBE_FORMATTER"), (41, u "(IILjava/util/function/BiFunction;)I")] 15

def k23m0 : Method := { name := "<init>", desc := "()V", sig := { parameters := [], returnType := none }, accessFlags := 1, code := none }
def k23c1 : Code := { maxStack := 3, maxLocals := 3, code := jdk_41_method_11_code, exceptionTable := #[], attributes := #[] }
def k23m1 : Method := { name := "checkIndex", desc := "(IILjava/util/function/BiFunction;)I", sig := { parameters := [.int, .int, (.object "java/util/function/BiFunction")], returnType := some .int }, accessFlags := 9, code := some k23c1 }
/-- jdk/internal/util/Preconditions -/
def k23 : Class := { plain "jdk/internal/util/Preconditions" (some 0) with
  accessFlags := 33
  interfaces := #[]
  cf := some (fileOf pool23 24 #[.nestMembers #[55, 131, 125, 114]] #[{ accessFlags := 1, nameIndex := 5, descriptorIndex := 6, attributes := #[] }, { accessFlags := 9, nameIndex := 33, descriptorIndex := 178, attributes := #[] }] 33 2 #[] #[{ accessFlags := 25, nameIndex := 123, descriptorIndex := 124, attributes := #[] }, { accessFlags := 25, nameIndex := 130, descriptorIndex := 124, attributes := #[] }, { accessFlags := 25, nameIndex := 136, descriptorIndex := 124, attributes := #[] }])
  fields := #[{ name := "SIOOBE_FORMATTER", type := (.object "java/util/function/BiFunction"), accessFlags := 25, slot := 0, constantValue := 0 }, { name := "AIOOBE_FORMATTER", type := (.object "java/util/function/BiFunction"), accessFlags := 25, slot := 1, constantValue := 0 }, { name := "IOOBE_FORMATTER", type := (.object "java/util/function/BiFunction"), accessFlags := 25, slot := 2, constantValue := 0 }]
  methods := #[k23m0, k23m1]
  instanceTypes := #[]
  staticTypes := #[(.object "java/util/function/BiFunction"), (.object "java/util/function/BiFunction"), (.object "java/util/function/BiFunction")]
  resolved := Array.replicate 194 none
  statics := some 2 }

def pool24 : Array CpInfo := pool [(6, .class_ 8), (1, u "java/lang/Object"), (0, u "<init>"), (0, u "()V"), (1, .class_ 14), (1, u "java/lang/StringUTF16"), (31, u "$assertionsDisabled"), (0, u "Z"), (13, u "HI_BYTE_SHIFT"), (0, u "I"), (2, u "LO_BYTE_SHIFT"), (49, .methodref 12 116), (0, .nameAndType 117 118), (0, u "compress"), (0, u "([CI[BII)I"), (3, u "([CII)[B"), (138, u "coderFromArrayLen"), (0, u "([BI)B"), (106, .class_ 371), (1, u "java/lang/StringUTF16$LinesSpliterator"), (58, u "MAX_LENGTH"), (196, .class_ 628), (0, u "java/lang/StringUTF16$CodePointsSpliterator"), (0, .class_ 630), (0, u "java/lang/StringUTF16$CharsSpliterator")] 4

def k24m0 : Method := { name := "<init>", desc := "()V", sig := { parameters := [], returnType := none }, accessFlags := 0, code := none }
def k24c1 : Code := { maxStack := 2, maxLocals := 2, code := jdk_52_method_15_code, exceptionTable := #[], attributes := #[] }
def k24m1 : Method := { name := "coderFromArrayLen", desc := "([BI)B", sig := { parameters := [(.array .byte), .int], returnType := some .byte }, accessFlags := 8, code := some k24c1 }
def k24c2 : Code := { maxStack := 5, maxLocals := 6, code := jdk_52_method_16_code, exceptionTable := #[], attributes := #[] }
def k24m2 : Method := { name := "compress", desc := "([CII)[B", sig := { parameters := [(.array .char), .int, .int], returnType := some (.array .byte) }, accessFlags := 9, code := some k24c2 }
def k24c3 : Code := { maxStack := 3, maxLocals := 7, code := jdk_52_method_21_code, exceptionTable := #[], attributes := #[] }
def k24m3 : Method := { name := "compress", desc := "([CI[BII)I", sig := { parameters := [(.array .char), .int, (.array .byte), .int, .int], returnType := some .int }, accessFlags := 9, code := some k24c3 }
/-- java/lang/StringUTF16 -/
def k24 : Class := { plain "java/lang/StringUTF16" (some 0) with
  accessFlags := 48
  interfaces := #[]
  cf := some (fileOf pool24 12 #[.nestMembers #[627, 629, 369]] #[{ accessFlags := 0, nameIndex := 9, descriptorIndex := 10, attributes := #[] }, { accessFlags := 8, nameIndex := 261, descriptorIndex := 262, attributes := #[] }, { accessFlags := 9, nameIndex := 117, descriptorIndex := 122, attributes := #[] }, { accessFlags := 9, nameIndex := 117, descriptorIndex := 118, attributes := #[] }] 48 6 #[] #[{ accessFlags := 26, nameIndex := 61, descriptorIndex := 62, attributes := #[] }, { accessFlags := 26, nameIndex := 65, descriptorIndex := 62, attributes := #[] }, { accessFlags := 24, nameIndex := 430, descriptorIndex := 62, attributes := #[] }, { accessFlags := 4120, nameIndex := 46, descriptorIndex := 47, attributes := #[] }])
  fields := #[{ name := "HI_BYTE_SHIFT", type := .int, accessFlags := 26, slot := 0, constantValue := 0 }, { name := "LO_BYTE_SHIFT", type := .int, accessFlags := 26, slot := 1, constantValue := 0 }, { name := "MAX_LENGTH", type := .int, accessFlags := 24, slot := 2, constantValue := 0 }, { name := "$assertionsDisabled", type := .boolean, accessFlags := 4120, slot := 3, constantValue := 0 }]
  methods := #[k24m0, k24m1, k24m2, k24m3]
  instanceTypes := #[]
  staticTypes := #[.int, .int, .int, .boolean]
  resolved := Array.replicate 635 none
  statics := none }

def pool25 : Array CpInfo := pool [(1, .class_ 2), (0, u "java/lang/Cloneable"), (0, .class_ 4), (0, u "java/lang/Object")] 2

/-- java/lang/Cloneable -/
def k25 : Class := { plain "java/lang/Cloneable" (some 0) with
  accessFlags := 1537
  interfaces := #[]
  cf := some (fileOf pool25 1 #[] #[] 1537 3 #[] #[])
  fields := #[]
  methods := #[]
  instanceTypes := #[]
  staticTypes := #[]
  resolved := Array.replicate 7 none
  statics := none }

/-- the primitive byte -/
def k26 : Class := { plain "byte" none with kind := .primitive 'B', accessFlags := 0x411 }
/-- [B -/
def k27 : Class := { plain "[B" (some 0) with kind := .array 26 .byte, interfaces := #[25, 2], accessFlags := 1041 }

/-- the primitive char -/
def k28 : Class := { plain "char" none with kind := .primitive 'C', accessFlags := 0x411 }
/-- [C -/
def k29 : Class := { plain "[C" (some 0) with kind := .array 28 .char, interfaces := #[25, 2], accessFlags := 1041 }

/-- the primitive int -/
def k30 : Class := { plain "int" none with kind := .primitive 'I', accessFlags := 0x411 }
/-- [I -/
def k31 : Class := { plain "[I" (some 0) with kind := .array 30 .int, interfaces := #[25, 2], accessFlags := 1041 }

def heap : Heap := #[{ cls := 7, slots := #[.long 0, .int 1, .null, .int 0, .null, .int 0, .int 0], vm := .statics 7 },
  { cls := 22, slots := #[.int 0, .int 0, .null, .null, .ref 4, .ref 3, .int 0, .int 0, .long 0], vm := .statics 22 },
  { cls := 23, slots := #[.null, .null, .null], vm := .statics 23 },
  { cls := 27, slots := #[.int 48, .int 49, .int 50, .int 51, .int 52, .int 53, .int 54, .int 55, .int 56, .int 57, .int 48, .int 49, .int 50, .int 51, .int 52, .int 53, .int 54, .int 55, .int 56, .int 57, .int 48, .int 49, .int 50, .int 51, .int 52, .int 53, .int 54, .int 55, .int 56, .int 57, .int 48, .int 49, .int 50, .int 51, .int 52, .int 53, .int 54, .int 55, .int 56, .int 57, .int 48, .int 49, .int 50, .int 51, .int 52, .int 53, .int 54, .int 55, .int 56, .int 57, .int 48, .int 49, .int 50, .int 51, .int 52, .int 53, .int 54, .int 55, .int 56, .int 57, .int 48, .int 49, .int 50, .int 51, .int 52, .int 53, .int 54, .int 55, .int 56, .int 57, .int 48, .int 49, .int 50, .int 51, .int 52, .int 53, .int 54, .int 55, .int 56, .int 57, .int 48, .int 49, .int 50, .int 51, .int 52, .int 53, .int 54, .int 55, .int 56, .int 57, .int 48, .int 49, .int 50, .int 51, .int 52, .int 53, .int 54, .int 55, .int 56, .int 57], vm := .none },
  { cls := 27, slots := #[.int 48, .int 48, .int 48, .int 48, .int 48, .int 48, .int 48, .int 48, .int 48, .int 48, .int 49, .int 49, .int 49, .int 49, .int 49, .int 49, .int 49, .int 49, .int 49, .int 49, .int 50, .int 50, .int 50, .int 50, .int 50, .int 50, .int 50, .int 50, .int 50, .int 50, .int 51, .int 51, .int 51, .int 51, .int 51, .int 51, .int 51, .int 51, .int 51, .int 51, .int 52, .int 52, .int 52, .int 52, .int 52, .int 52, .int 52, .int 52, .int 52, .int 52, .int 53, .int 53, .int 53, .int 53, .int 53, .int 53, .int 53, .int 53, .int 53, .int 53, .int 54, .int 54, .int 54, .int 54, .int 54, .int 54, .int 54, .int 54, .int 54, .int 54, .int 55, .int 55, .int 55, .int 55, .int 55, .int 55, .int 55, .int 55, .int 55, .int 55, .int 56, .int 56, .int 56, .int 56, .int 56, .int 56, .int 56, .int 56, .int 56, .int 56, .int 57, .int 57, .int 57, .int 57, .int 57, .int 57, .int 57, .int 57, .int 57, .int 57], vm := .none }]
def classes : Array Class := #[k0, k1, k2, k3, k4, k5, k6, k7, k8, k9, k10, k11, k12, k13, k14, k15, k16, k17, k18, k19, k20, k21, k22, k23, k24, k25, k26, k27, k28, k29, k30, k31]
def interned : List (Array UInt16 × Addr) := []
def slotsUsed : Nat := 219
def theMethod : MethodId := ⟨1, 1⟩
def args0 : Array Value := #[.int 5, .int 6, .int 7, .int 2, .long 12345]
def aboutOver (below : List Frame) : State where
  vm := { classes := classes, interned := interned.toArray }
  heap := heap
  slotsUsed := slotsUsed
  threads := #[{ frames := .invoking theMethod args0 :: below }]
def below0 : List Frame := [.native { method := ⟨0, 0⟩, args := #[] }]
def about1 : State := aboutOver below0
def p0 : Program := .bare "" "" ""
def e0 : Env := launch0.env 0 0 0
theorem w_frames : about1.frames = Frame.invoking theMethod args0 :: below0 := rfl
set_option maxRecDepth 65536 in
theorem w_args : argsFit about1.vm theMethod args0 = true := by decide +kernel
set_option maxRecDepth 65536 in
theorem w_heap : heapFits about1 = true := by decide +kernel
set_option maxRecDepth 65536 in
theorem w_runnable : about1.curStatus? = some .runnable := by decide +kernel
set_option maxRecDepth 65536 in
theorem w_alone : about1.alone = true := by decide +kernel
set_option maxRecDepth 65536 in
theorem w_named : about1.methodNamed? x = some theMethod := by decide +kernel
set_option maxRecDepth 65536 in
theorem w_hears : about1.hears theMethod below0 = true := by decide +kernel
set_option maxRecDepth 65536 in
theorem w_ripe : about1.ripe theMethod args0 below0 = true := by decide +kernel
theorem w_running : about1.status = .running := rfl
set_option maxRecDepth 65536 in
theorem w_room : about1.hasRoom e0.platform room_1 = true :=
  launch0.hasRoom_least _ room_1 (by decide +kernel) (by decide +kernel) (by decide +kernel) (by decide +kernel) (by decide +kernel) (by decide +kernel)
theorem allAtoms_all (ts : List Jvm.Cond) (a : Array Jvm.Value) (st : Jvm.State) : (allAtoms ts).before a st = ts.all (fun c => c.before a st) := by
  induction ts with
  | nil => rfl
  | cons c t ih =>
    show (Jvm.Cond.and c (allAtoms t)).before a st = _
    rw [Jvm.Cond.before_and, ih, List.all_cons]
def words1 : List Jvm.Cond := Jvm.Cond.code x code maxLocals ret :: tables_1
/-- a 'code' word, met by the world's own term for the bytes: nothing is compared byte by byte -/
theorem code_word {y : MethodName} {bytes : ByteArray} {mx : Nat} {rt : Option FieldType} {a : Array Value} {s : State} {m : MethodId} {meth : Method} {c : Code} (h1 : s.methodNamed? y = some m) (h2 : s.vm.method? m = some meth) (h3 : meth.code = some c) (h4 : c.code = bytes)
    (h5 : (c.maxLocals == mx && c.exceptionTable.isEmpty && decide (c.maxStack ≤ mostOperands) && decide (meth.sig.returnType = rt) && !meth.locks && decide (parseMethodDescriptor y.desc = some meth.sig)) = true) : (Jvm.Cond.code y bytes mx rt).before a s = true := by
  simp only [Bool.and_eq_true, beq_iff_eq, Bool.not_eq_true', decide_eq_true_eq] at h5
  obtain ⟨⟨⟨⟨⟨g1, g2⟩, g3⟩, g4⟩, g5⟩, g6⟩ := h5
  simp [Cond.before, Cond.holds, Cond.value, h1, h2, h3, h4, g1, g2, g3, g4, g5, g6]
def isCode : Jvm.Cond → Bool
  | .code _ _ _ _ => true
  | _ => false
theorem all_split {L : List Jvm.Cond} {P : Jvm.Cond → Bool} (h1 : L.all (fun c => isCode c || P c) = true) (h2 : ∀ c ∈ L.filter isCode, P c = true) : L.all P = true := by
  refine List.all_eq_true.mpr fun c hc => ?_
  have h := List.all_eq_true.mp h1 c hc
  rcases Bool.eq_false_or_eq_true (isCode c) with hi | hi
  · exact h2 c (List.mem_filter.mpr ⟨hc, hi⟩)
  · simpa [hi] using h
set_option maxRecDepth 65536 in
theorem w_c0 : (Jvm.Cond.code x code maxLocals ret).before args0 about1 = true := code_word (m := ⟨1, 1⟩) (meth := k1m1) (c := k1c1) (by decide +kernel) rfl rfl rfl (by decide +kernel)
set_option maxRecDepth 65536 in
theorem w_c1 : (Jvm.Cond.code ({ cls := "java/lang/String", name := "valueOf", desc := "(C)Ljava/lang/String;" } : Jvm.MethodName) jdk_42_method_139_code (1 : Nat) (Option.some (Jvm.ClassFile.FieldType.object "java/lang/String"))).before args0 about1 = true := code_word (m := ⟨7, 5⟩) (meth := k7m5) (c := k7c5) (by decide +kernel) rfl rfl rfl (by decide +kernel)
set_option maxRecDepth 65536 in
theorem w_c2 : (Jvm.Cond.code ({ cls := "java/lang/StringLatin1", name := "canEncode", desc := "(C)Z" } : Jvm.MethodName) jdk_43_method_3_code (1 : Nat) (Option.some Jvm.ClassFile.FieldType.boolean)).before args0 about1 = true := code_word (m := ⟨8, 2⟩) (meth := k8m2) (c := k8c2) (by decide +kernel) rfl rfl rfl (by decide +kernel)
set_option maxRecDepth 65536 in
theorem w_c3 : (Jvm.Cond.code ({ cls := "java/lang/StringLatin1", name := "toBytes", desc := "(C)[B" } : Jvm.MethodName) jdk_43_method_46_code (1 : Nat) (Option.some (Jvm.ClassFile.FieldType.array Jvm.ClassFile.FieldType.byte))).before args0 about1 = true := code_word (m := ⟨8, 3⟩) (meth := k8m3) (c := k8c3) (by decide +kernel) rfl rfl rfl (by decide +kernel)
set_option maxRecDepth 65536 in
theorem w_c4 : (Jvm.Cond.code ({ cls := "java/lang/String", name := "<init>", desc := "([BB)V" } : Jvm.MethodName) jdk_42_method_151_code (3 : Nat) (Option.none : Option Jvm.ClassFile.FieldType)).before args0 about1 = true := code_word (m := ⟨7, 9⟩) (meth := k7m9) (c := k7c9) (by decide +kernel) rfl rfl rfl (by decide +kernel)
set_option maxRecDepth 65536 in
theorem w_c5 : (Jvm.Cond.code ({ cls := "java/lang/Object", name := "<init>", desc := "()V" } : Jvm.MethodName) object_method_1_code (1 : Nat) (Option.none : Option Jvm.ClassFile.FieldType)).before args0 about1 = true := code_word (m := ⟨0, 0⟩) (meth := k0m0) (c := k0c0) (by decide +kernel) rfl rfl rfl (by decide +kernel)
set_option maxRecDepth 65536 in
theorem w_c6 : (Jvm.Cond.code ({ cls := "com/example/strikeboard/strikeboard/engine/Explanation$Column", name := "<init>", desc := "(Ljava/lang/String;J)V" } : Jvm.MethodName) prog_18_method_1_code (4 : Nat) (Option.none : Option Jvm.ClassFile.FieldType)).before args0 about1 = true := code_word (m := ⟨11, 0⟩) (meth := k11m0) (c := k11c0) (by decide +kernel) rfl rfl rfl (by decide +kernel)
set_option maxRecDepth 65536 in
theorem w_c7 : (Jvm.Cond.code ({ cls := "java/lang/Record", name := "<init>", desc := "()V" } : Jvm.MethodName) jdk_30_method_1_code (1 : Nat) (Option.none : Option Jvm.ClassFile.FieldType)).before args0 about1 = true := code_word (m := ⟨9, 0⟩) (meth := k9m0) (c := k9c0) (by decide +kernel) rfl rfl rfl (by decide +kernel)
set_option maxRecDepth 65536 in
theorem w_c8 : (Jvm.Cond.code ({ cls := "java/util/Objects", name := "requireNonNull", desc := "(Ljava/lang/Object;Ljava/lang/String;)Ljava/lang/Object;" } : Jvm.MethodName) jdk_31_method_11_code (2 : Nat) (Option.some (Jvm.ClassFile.FieldType.object "java/lang/Object"))).before args0 about1 = true := code_word (m := ⟨12, 1⟩) (meth := k12m1) (c := k12c1) (by decide +kernel) rfl rfl rfl (by decide +kernel)
set_option maxRecDepth 65536 in
theorem w_c9 : (Jvm.Cond.code ({ cls := "com/example/strikeboard/strikeboard/engine/Explanation$Column", name := "toString", desc := "()Ljava/lang/String;" } : Jvm.MethodName) prog_18_method_2_code (1 : Nat) (Option.some (Jvm.ClassFile.FieldType.object "java/lang/String"))).before args0 about1 = true := code_word (m := ⟨11, 1⟩) (meth := k11m1) (c := k11c1) (by decide +kernel) rfl rfl rfl (by decide +kernel)
set_option maxRecDepth 65536 in
theorem w_c10 : (Jvm.Cond.code ({ cls := "java/lang/StringBuilder", name := "<init>", desc := "()V" } : Jvm.MethodName) jdk_67_method_1_code (1 : Nat) (Option.none : Option Jvm.ClassFile.FieldType)).before args0 about1 = true := code_word (m := ⟨15, 0⟩) (meth := k15m0) (c := k15c0) (by decide +kernel) rfl rfl rfl (by decide +kernel)
set_option maxRecDepth 65536 in
theorem w_c11 : (Jvm.Cond.code ({ cls := "java/lang/AbstractStringBuilder", name := "<init>", desc := "(I)V" } : Jvm.MethodName) jdk_68_method_2_code (2 : Nat) (Option.none : Option Jvm.ClassFile.FieldType)).before args0 about1 = true := code_word (m := ⟨14, 1⟩) (meth := k14m1) (c := k14c1) (by decide +kernel) rfl rfl rfl (by decide +kernel)
set_option maxRecDepth 65536 in
theorem w_c12 : (Jvm.Cond.code ({ cls := "java/lang/StringBuilder", name := "append", desc := "(Ljava/lang/String;)Ljava/lang/StringBuilder;" } : Jvm.MethodName) jdk_67_method_7_code (2 : Nat) (Option.some (Jvm.ClassFile.FieldType.object "java/lang/StringBuilder"))).before args0 about1 = true := code_word (m := ⟨15, 1⟩) (meth := k15m1) (c := k15c1) (by decide +kernel) rfl rfl rfl (by decide +kernel)
set_option maxRecDepth 65536 in
theorem w_c13 : (Jvm.Cond.code ({ cls := "java/lang/AbstractStringBuilder", name := "append", desc := "(Ljava/lang/String;)Ljava/lang/AbstractStringBuilder;" } : Jvm.MethodName) jdk_68_method_22_code (3 : Nat) (Option.some (Jvm.ClassFile.FieldType.object "java/lang/AbstractStringBuilder"))).before args0 about1 = true := code_word (m := ⟨14, 5⟩) (meth := k14m5) (c := k14c5) (by decide +kernel) rfl rfl rfl (by decide +kernel)
set_option maxRecDepth 65536 in
theorem w_c14 : (Jvm.Cond.code ({ cls := "java/lang/String", name := "length", desc := "()I" } : Jvm.MethodName) jdk_42_method_54_code (1 : Nat) (Option.some Jvm.ClassFile.FieldType.int)).before args0 about1 = true := code_word (m := ⟨7, 3⟩) (meth := k7m3) (c := k7c3) (by decide +kernel) rfl rfl rfl (by decide +kernel)
set_option maxRecDepth 65536 in
theorem w_c15 : (Jvm.Cond.code ({ cls := "java/lang/String", name := "coder", desc := "()B" } : Jvm.MethodName) jdk_42_method_152_code (1 : Nat) (Option.some Jvm.ClassFile.FieldType.byte)).before args0 about1 = true := code_word (m := ⟨7, 10⟩) (meth := k7m10) (c := k7c10) (by decide +kernel) rfl rfl rfl (by decide +kernel)
set_option maxRecDepth 65536 in
theorem w_c16 : (Jvm.Cond.code ({ cls := "java/lang/AbstractStringBuilder", name := "ensureCapacityInternal", desc := "(I)V" } : Jvm.MethodName) jdk_68_method_9_code (3 : Nat) (Option.none : Option Jvm.ClassFile.FieldType)).before args0 about1 = true := code_word (m := ⟨14, 3⟩) (meth := k14m3) (c := k14c3) (by decide +kernel) rfl rfl rfl (by decide +kernel)
set_option maxRecDepth 65536 in
theorem w_c17 : (Jvm.Cond.code ({ cls := "java/lang/AbstractStringBuilder", name := "putStringAt", desc := "(ILjava/lang/String;)V" } : Jvm.MethodName) jdk_68_method_73_code (3 : Nat) (Option.none : Option Jvm.ClassFile.FieldType)).before args0 about1 = true := code_word (m := ⟨14, 10⟩) (meth := k14m10) (c := k14c10) (by decide +kernel) rfl rfl rfl (by decide +kernel)
set_option maxRecDepth 65536 in
theorem w_c18 : (Jvm.Cond.code ({ cls := "java/lang/AbstractStringBuilder", name := "inflateIfNeededFor", desc := "(Ljava/lang/String;)V" } : Jvm.MethodName) jdk_68_method_71_code (2 : Nat) (Option.none : Option Jvm.ClassFile.FieldType)).before args0 about1 = true := code_word (m := ⟨14, 9⟩) (meth := k14m9) (c := k14c9) (by decide +kernel) rfl rfl rfl (by decide +kernel)
set_option maxRecDepth 65536 in
theorem w_c19 : (Jvm.Cond.code ({ cls := "java/lang/String", name := "getBytes", desc := "([BIB)V" } : Jvm.MethodName) jdk_42_method_147_code (4 : Nat) (Option.none : Option Jvm.ClassFile.FieldType)).before args0 about1 = true := code_word (m := ⟨7, 6⟩) (meth := k7m6) (c := k7c6) (by decide +kernel) rfl rfl rfl (by decide +kernel)
set_option maxRecDepth 65536 in
theorem w_c20 : (Jvm.Cond.code ({ cls := "java/lang/StringBuilder", name := "append", desc := "(J)Ljava/lang/StringBuilder;" } : Jvm.MethodName) jdk_67_method_16_code (3 : Nat) (Option.some (Jvm.ClassFile.FieldType.object "java/lang/StringBuilder"))).before args0 about1 = true := code_word (m := ⟨15, 2⟩) (meth := k15m2) (c := k15c2) (by decide +kernel) rfl rfl rfl (by decide +kernel)
set_option maxRecDepth 65536 in
theorem w_c21 : (Jvm.Cond.code ({ cls := "java/lang/AbstractStringBuilder", name := "append", desc := "(J)Ljava/lang/AbstractStringBuilder;" } : Jvm.MethodName) jdk_68_method_33_code (5 : Nat) (Option.some (Jvm.ClassFile.FieldType.object "java/lang/AbstractStringBuilder"))).before args0 about1 = true := code_word (m := ⟨14, 6⟩) (meth := k14m6) (c := k14c6) (by decide +kernel) rfl rfl rfl (by decide +kernel)
set_option maxRecDepth 65536 in
theorem w_c22 : (Jvm.Cond.code ({ cls := "java/lang/Long", name := "stringSize", desc := "(J)I" } : Jvm.MethodName) jdk_35_method_15_code (6 : Nat) (Option.some Jvm.ClassFile.FieldType.int)).before args0 about1 = true := code_word (m := ⟨18, 1⟩) (meth := k18m1) (c := k18c1) (by decide +kernel) rfl rfl rfl (by decide +kernel)
set_option maxRecDepth 65536 in
theorem w_c23 : (Jvm.Cond.code ({ cls := "java/lang/AbstractStringBuilder", name := "newCapacity", desc := "(I)I" } : Jvm.MethodName) jdk_68_method_10_code (6 : Nat) (Option.some Jvm.ClassFile.FieldType.int)).before args0 about1 = true := code_word (m := ⟨14, 4⟩) (meth := k14m4) (c := k14c4) (by decide +kernel) rfl rfl rfl (by decide +kernel)
set_option maxRecDepth 65536 in
theorem w_c24 : (Jvm.Cond.code ({ cls := "jdk/internal/util/ArraysSupport", name := "newLength", desc := "(III)I" } : Jvm.MethodName) jdk_48_method_27_code (4 : Nat) (Option.some Jvm.ClassFile.FieldType.int)).before args0 about1 = true := code_word (m := ⟨19, 1⟩) (meth := k19m1) (c := k19c1) (by decide +kernel) rfl rfl rfl (by decide +kernel)
set_option maxRecDepth 65536 in
theorem w_c25 : (Jvm.Cond.code ({ cls := "java/lang/Math", name := "max", desc := "(II)I" } : Jvm.MethodName) jdk_29_method_65_code (2 : Nat) (Option.some Jvm.ClassFile.FieldType.int)).before args0 about1 = true := code_word (m := ⟨20, 1⟩) (meth := k20m1) (c := k20c1) (by decide +kernel) rfl rfl rfl (by decide +kernel)
set_option maxRecDepth 65536 in
theorem w_c26 : (Jvm.Cond.code ({ cls := "java/util/Arrays", name := "copyOf", desc := "([BI)[B" } : Jvm.MethodName) jdk_65_method_121_code (3 : Nat) (Option.some (Jvm.ClassFile.FieldType.array Jvm.ClassFile.FieldType.byte))).before args0 about1 = true := code_word (m := ⟨21, 1⟩) (meth := k21m1) (c := k21c1) (by decide +kernel) rfl rfl rfl (by decide +kernel)
set_option maxRecDepth 65536 in
theorem w_c27 : (Jvm.Cond.code ({ cls := "java/lang/Math", name := "min", desc := "(II)I" } : Jvm.MethodName) jdk_29_method_69_code (2 : Nat) (Option.some Jvm.ClassFile.FieldType.int)).before args0 about1 = true := code_word (m := ⟨20, 2⟩) (meth := k20m2) (c := k20c2) (by decide +kernel) rfl rfl rfl (by decide +kernel)
set_option maxRecDepth 65536 in
theorem w_c28 : (Jvm.Cond.code ({ cls := "java/lang/AbstractStringBuilder", name := "isLatin1", desc := "()Z" } : Jvm.MethodName) jdk_68_method_68_code (1 : Nat) (Option.some Jvm.ClassFile.FieldType.boolean)).before args0 about1 = true := code_word (m := ⟨14, 8⟩) (meth := k14m8) (c := k14c8) (by decide +kernel) rfl rfl rfl (by decide +kernel)
set_option maxRecDepth 65536 in
theorem w_c29 : (Jvm.Cond.code ({ cls := "java/lang/Long", name := "getChars", desc := "(JI[B)I" } : Jvm.MethodName) jdk_35_method_14_code (11 : Nat) (Option.some Jvm.ClassFile.FieldType.int)).before args0 about1 = true := code_word (m := ⟨18, 0⟩) (meth := k18m0) (c := k18c0) (by decide +kernel) rfl rfl rfl (by decide +kernel)
set_option maxRecDepth 65536 in
theorem w_c30 : (Jvm.Cond.code ({ cls := "java/lang/StringBuilder", name := "toString", desc := "()Ljava/lang/String;" } : Jvm.MethodName) jdk_67_method_42_code (1 : Nat) (Option.some (Jvm.ClassFile.FieldType.object "java/lang/String"))).before args0 about1 = true := code_word (m := ⟨15, 3⟩) (meth := k15m3) (c := k15c3) (by decide +kernel) rfl rfl rfl (by decide +kernel)
set_option maxRecDepth 65536 in
theorem w_c31 : (Jvm.Cond.code ({ cls := "java/lang/String", name := "<init>", desc := "(Ljava/lang/StringBuilder;)V" } : Jvm.MethodName) jdk_42_method_53_code (2 : Nat) (Option.none : Option Jvm.ClassFile.FieldType)).before args0 about1 = true := code_word (m := ⟨7, 2⟩) (meth := k7m2) (c := k7c2) (by decide +kernel) rfl rfl rfl (by decide +kernel)
set_option maxRecDepth 65536 in
theorem w_c32 : (Jvm.Cond.code ({ cls := "java/lang/String", name := "<init>", desc := "(Ljava/lang/AbstractStringBuilder;Ljava/lang/Void;)V" } : Jvm.MethodName) jdk_42_method_150_code (5 : Nat) (Option.none : Option Jvm.ClassFile.FieldType)).before args0 about1 = true := code_word (m := ⟨7, 8⟩) (meth := k7m8) (c := k7c8) (by decide +kernel) rfl rfl rfl (by decide +kernel)
set_option maxRecDepth 65536 in
theorem w_c33 : (Jvm.Cond.code ({ cls := "java/lang/AbstractStringBuilder", name := "getValue", desc := "()[B" } : Jvm.MethodName) jdk_68_method_64_code (1 : Nat) (Option.some (Jvm.ClassFile.FieldType.array Jvm.ClassFile.FieldType.byte))).before args0 about1 = true := code_word (m := ⟨14, 7⟩) (meth := k14m7) (c := k14c7) (by decide +kernel) rfl rfl rfl (by decide +kernel)
set_option maxRecDepth 65536 in
theorem w_c34 : (Jvm.Cond.code ({ cls := "java/lang/StringBuilder", name := "length", desc := "()I" } : Jvm.MethodName) jdk_67_method_93_code (1 : Nat) (Option.some Jvm.ClassFile.FieldType.int)).before args0 about1 = true := code_word (m := ⟨15, 4⟩) (meth := k15m4) (c := k15c4) (by decide +kernel) rfl rfl rfl (by decide +kernel)
set_option maxRecDepth 65536 in
theorem w_c35 : (Jvm.Cond.code ({ cls := "java/lang/AbstractStringBuilder", name := "length", desc := "()I" } : Jvm.MethodName) jdk_68_method_6_code (1 : Nat) (Option.some Jvm.ClassFile.FieldType.int)).before args0 about1 = true := code_word (m := ⟨14, 2⟩) (meth := k14m2) (c := k14c2) (by decide +kernel) rfl rfl rfl (by decide +kernel)
set_option maxRecDepth 65536 in
theorem w_c36 : (Jvm.Cond.code ({ cls := "java/util/Arrays", name := "copyOfRange", desc := "([BII)[B" } : Jvm.MethodName) jdk_65_method_132_code (3 : Nat) (Option.some (Jvm.ClassFile.FieldType.array Jvm.ClassFile.FieldType.byte))).before args0 about1 = true := code_word (m := ⟨21, 3⟩) (meth := k21m3) (c := k21c3) (by decide +kernel) rfl rfl rfl (by decide +kernel)
set_option maxRecDepth 65536 in
theorem w_c37 : (Jvm.Cond.code ({ cls := "java/util/Arrays", name := "copyOfRangeByte", desc := "([BII)[B" } : Jvm.MethodName) jdk_65_method_133_code (5 : Nat) (Option.some (Jvm.ClassFile.FieldType.array Jvm.ClassFile.FieldType.byte))).before args0 about1 = true := code_word (m := ⟨21, 4⟩) (meth := k21m4) (c := k21c4) (by decide +kernel) rfl rfl rfl (by decide +kernel)
set_option maxRecDepth 65536 in
theorem w_c38 : (Jvm.Cond.code ({ cls := "java/util/Arrays", name := "checkLength", desc := "(II)V" } : Jvm.MethodName) jdk_65_method_131_code (2 : Nat) (Option.none : Option Jvm.ClassFile.FieldType)).before args0 about1 = true := code_word (m := ⟨21, 2⟩) (meth := k21m2) (c := k21c2) (by decide +kernel) rfl rfl rfl (by decide +kernel)
set_option maxRecDepth 65536 in
theorem w_c39 : (Jvm.Cond.code ({ cls := "java/lang/String", name := "charAt", desc := "(I)C" } : Jvm.MethodName) jdk_42_method_56_code (2 : Nat) (Option.some Jvm.ClassFile.FieldType.char)).before args0 about1 = true := code_word (m := ⟨7, 4⟩) (meth := k7m4) (c := k7c4) (by decide +kernel) rfl rfl rfl (by decide +kernel)
set_option maxRecDepth 65536 in
theorem w_c40 : (Jvm.Cond.code ({ cls := "java/lang/String", name := "isLatin1", desc := "()Z" } : Jvm.MethodName) jdk_42_method_154_code (1 : Nat) (Option.some Jvm.ClassFile.FieldType.boolean)).before args0 about1 = true := code_word (m := ⟨7, 11⟩) (meth := k7m11) (c := k7c11) (by decide +kernel) rfl rfl rfl (by decide +kernel)
set_option maxRecDepth 65536 in
theorem w_c41 : (Jvm.Cond.code ({ cls := "java/lang/StringLatin1", name := "charAt", desc := "([BI)C" } : Jvm.MethodName) jdk_43_method_2_code (2 : Nat) (Option.some Jvm.ClassFile.FieldType.char)).before args0 about1 = true := code_word (m := ⟨8, 1⟩) (meth := k8m1) (c := k8c1) (by decide +kernel) rfl rfl rfl (by decide +kernel)
set_option maxRecDepth 65536 in
theorem w_c42 : (Jvm.Cond.code ({ cls := "java/lang/String", name := "checkIndex", desc := "(II)V" } : Jvm.MethodName) jdk_42_method_155_code (2 : Nat) (Option.none : Option Jvm.ClassFile.FieldType)).before args0 about1 = true := code_word (m := ⟨7, 12⟩) (meth := k7m12) (c := k7c12) (by decide +kernel) rfl rfl rfl (by decide +kernel)
set_option maxRecDepth 65536 in
theorem w_c43 : (Jvm.Cond.code ({ cls := "jdk/internal/util/Preconditions", name := "checkIndex", desc := "(IILjava/util/function/BiFunction;)I" } : Jvm.MethodName) jdk_41_method_11_code (3 : Nat) (Option.some Jvm.ClassFile.FieldType.int)).before args0 about1 = true := code_word (m := ⟨23, 1⟩) (meth := k23m1) (c := k23c1) (by decide +kernel) rfl rfl rfl (by decide +kernel)
set_option maxRecDepth 65536 in
theorem w_c44 : (Jvm.Cond.code ({ cls := "com/example/strikeboard/strikeboard/engine/ColumnToStringPinLaw", name := "step", desc := "(JLjava/lang/String;II)J" } : Jvm.MethodName) method_3_code (9 : Nat) (Option.some Jvm.ClassFile.FieldType.long)).before args0 about1 = true := code_word (m := ⟨1, 2⟩) (meth := k1m2) (c := k1c2) (by decide +kernel) rfl rfl rfl (by decide +kernel)
set_option maxRecDepth 65536 in
theorem w_c45 : (Jvm.Cond.code ({ cls := "java/lang/String", name := "<init>", desc := "([C)V" } : Jvm.MethodName) jdk_42_method_3_code (2 : Nat) (Option.none : Option Jvm.ClassFile.FieldType)).before args0 about1 = true := code_word (m := ⟨7, 1⟩) (meth := k7m1) (c := k7c1) (by decide +kernel) rfl rfl rfl (by decide +kernel)
set_option maxRecDepth 65536 in
theorem w_c46 : (Jvm.Cond.code ({ cls := "java/lang/String", name := "<init>", desc := "([CIILjava/lang/Void;)V" } : Jvm.MethodName) jdk_42_method_149_code (6 : Nat) (Option.none : Option Jvm.ClassFile.FieldType)).before args0 about1 = true := code_word (m := ⟨7, 7⟩) (meth := k7m7) (c := k7c7) (by decide +kernel) rfl rfl rfl (by decide +kernel)
set_option maxRecDepth 65536 in
theorem w_c47 : (Jvm.Cond.code ({ cls := "java/lang/StringUTF16", name := "compress", desc := "([CII)[B" } : Jvm.MethodName) jdk_52_method_16_code (6 : Nat) (Option.some (Jvm.ClassFile.FieldType.array Jvm.ClassFile.FieldType.byte))).before args0 about1 = true := code_word (m := ⟨24, 2⟩) (meth := k24m2) (c := k24c2) (by decide +kernel) rfl rfl rfl (by decide +kernel)
set_option maxRecDepth 65536 in
theorem w_c48 : (Jvm.Cond.code ({ cls := "java/lang/StringUTF16", name := "compress", desc := "([CI[BII)I" } : Jvm.MethodName) jdk_52_method_21_code (7 : Nat) (Option.some Jvm.ClassFile.FieldType.int)).before args0 about1 = true := code_word (m := ⟨24, 3⟩) (meth := k24m3) (c := k24c3) (by decide +kernel) rfl rfl rfl (by decide +kernel)
set_option maxRecDepth 65536 in
theorem w_c49 : (Jvm.Cond.code ({ cls := "java/lang/StringUTF16", name := "coderFromArrayLen", desc := "([BI)B" } : Jvm.MethodName) jdk_52_method_15_code (2 : Nat) (Option.some Jvm.ClassFile.FieldType.byte)).before args0 about1 = true := code_word (m := ⟨24, 1⟩) (meth := k24m1) (c := k24c1) (by decide +kernel) rfl rfl rfl (by decide +kernel)
def codes1 : List Jvm.Cond := [Jvm.Cond.code x code maxLocals ret, Jvm.Cond.code ({ cls := "java/lang/String", name := "valueOf", desc := "(C)Ljava/lang/String;" } : Jvm.MethodName) jdk_42_method_139_code (1 : Nat) (Option.some (Jvm.ClassFile.FieldType.object "java/lang/String")), Jvm.Cond.code ({ cls := "java/lang/StringLatin1", name := "canEncode", desc := "(C)Z" } : Jvm.MethodName) jdk_43_method_3_code (1 : Nat) (Option.some Jvm.ClassFile.FieldType.boolean), Jvm.Cond.code ({ cls := "java/lang/StringLatin1", name := "toBytes", desc := "(C)[B" } : Jvm.MethodName) jdk_43_method_46_code (1 : Nat) (Option.some (Jvm.ClassFile.FieldType.array Jvm.ClassFile.FieldType.byte)), Jvm.Cond.code ({ cls := "java/lang/String", name := "<init>", desc := "([BB)V" } : Jvm.MethodName) jdk_42_method_151_code (3 : Nat) (Option.none : Option Jvm.ClassFile.FieldType), Jvm.Cond.code ({ cls := "java/lang/Object", name := "<init>", desc := "()V" } : Jvm.MethodName) object_method_1_code (1 : Nat) (Option.none : Option Jvm.ClassFile.FieldType), Jvm.Cond.code ({ cls := "com/example/strikeboard/strikeboard/engine/Explanation$Column", name := "<init>", desc := "(Ljava/lang/String;J)V" } : Jvm.MethodName) prog_18_method_1_code (4 : Nat) (Option.none : Option Jvm.ClassFile.FieldType), Jvm.Cond.code ({ cls := "java/lang/Record", name := "<init>", desc := "()V" } : Jvm.MethodName) jdk_30_method_1_code (1 : Nat) (Option.none : Option Jvm.ClassFile.FieldType), Jvm.Cond.code ({ cls := "java/util/Objects", name := "requireNonNull", desc := "(Ljava/lang/Object;Ljava/lang/String;)Ljava/lang/Object;" } : Jvm.MethodName) jdk_31_method_11_code (2 : Nat) (Option.some (Jvm.ClassFile.FieldType.object "java/lang/Object")), Jvm.Cond.code ({ cls := "com/example/strikeboard/strikeboard/engine/Explanation$Column", name := "toString", desc := "()Ljava/lang/String;" } : Jvm.MethodName) prog_18_method_2_code (1 : Nat) (Option.some (Jvm.ClassFile.FieldType.object "java/lang/String")), Jvm.Cond.code ({ cls := "java/lang/StringBuilder", name := "<init>", desc := "()V" } : Jvm.MethodName) jdk_67_method_1_code (1 : Nat) (Option.none : Option Jvm.ClassFile.FieldType), Jvm.Cond.code ({ cls := "java/lang/AbstractStringBuilder", name := "<init>", desc := "(I)V" } : Jvm.MethodName) jdk_68_method_2_code (2 : Nat) (Option.none : Option Jvm.ClassFile.FieldType), Jvm.Cond.code ({ cls := "java/lang/StringBuilder", name := "append", desc := "(Ljava/lang/String;)Ljava/lang/StringBuilder;" } : Jvm.MethodName) jdk_67_method_7_code (2 : Nat) (Option.some (Jvm.ClassFile.FieldType.object "java/lang/StringBuilder")), Jvm.Cond.code ({ cls := "java/lang/AbstractStringBuilder", name := "append", desc := "(Ljava/lang/String;)Ljava/lang/AbstractStringBuilder;" } : Jvm.MethodName) jdk_68_method_22_code (3 : Nat) (Option.some (Jvm.ClassFile.FieldType.object "java/lang/AbstractStringBuilder")), Jvm.Cond.code ({ cls := "java/lang/String", name := "length", desc := "()I" } : Jvm.MethodName) jdk_42_method_54_code (1 : Nat) (Option.some Jvm.ClassFile.FieldType.int), Jvm.Cond.code ({ cls := "java/lang/String", name := "coder", desc := "()B" } : Jvm.MethodName) jdk_42_method_152_code (1 : Nat) (Option.some Jvm.ClassFile.FieldType.byte), Jvm.Cond.code ({ cls := "java/lang/AbstractStringBuilder", name := "ensureCapacityInternal", desc := "(I)V" } : Jvm.MethodName) jdk_68_method_9_code (3 : Nat) (Option.none : Option Jvm.ClassFile.FieldType), Jvm.Cond.code ({ cls := "java/lang/AbstractStringBuilder", name := "putStringAt", desc := "(ILjava/lang/String;)V" } : Jvm.MethodName) jdk_68_method_73_code (3 : Nat) (Option.none : Option Jvm.ClassFile.FieldType), Jvm.Cond.code ({ cls := "java/lang/AbstractStringBuilder", name := "inflateIfNeededFor", desc := "(Ljava/lang/String;)V" } : Jvm.MethodName) jdk_68_method_71_code (2 : Nat) (Option.none : Option Jvm.ClassFile.FieldType), Jvm.Cond.code ({ cls := "java/lang/String", name := "getBytes", desc := "([BIB)V" } : Jvm.MethodName) jdk_42_method_147_code (4 : Nat) (Option.none : Option Jvm.ClassFile.FieldType), Jvm.Cond.code ({ cls := "java/lang/StringBuilder", name := "append", desc := "(J)Ljava/lang/StringBuilder;" } : Jvm.MethodName) jdk_67_method_16_code (3 : Nat) (Option.some (Jvm.ClassFile.FieldType.object "java/lang/StringBuilder")), Jvm.Cond.code ({ cls := "java/lang/AbstractStringBuilder", name := "append", desc := "(J)Ljava/lang/AbstractStringBuilder;" } : Jvm.MethodName) jdk_68_method_33_code (5 : Nat) (Option.some (Jvm.ClassFile.FieldType.object "java/lang/AbstractStringBuilder")), Jvm.Cond.code ({ cls := "java/lang/Long", name := "stringSize", desc := "(J)I" } : Jvm.MethodName) jdk_35_method_15_code (6 : Nat) (Option.some Jvm.ClassFile.FieldType.int), Jvm.Cond.code ({ cls := "java/lang/AbstractStringBuilder", name := "newCapacity", desc := "(I)I" } : Jvm.MethodName) jdk_68_method_10_code (6 : Nat) (Option.some Jvm.ClassFile.FieldType.int), Jvm.Cond.code ({ cls := "jdk/internal/util/ArraysSupport", name := "newLength", desc := "(III)I" } : Jvm.MethodName) jdk_48_method_27_code (4 : Nat) (Option.some Jvm.ClassFile.FieldType.int), Jvm.Cond.code ({ cls := "java/lang/Math", name := "max", desc := "(II)I" } : Jvm.MethodName) jdk_29_method_65_code (2 : Nat) (Option.some Jvm.ClassFile.FieldType.int), Jvm.Cond.code ({ cls := "java/util/Arrays", name := "copyOf", desc := "([BI)[B" } : Jvm.MethodName) jdk_65_method_121_code (3 : Nat) (Option.some (Jvm.ClassFile.FieldType.array Jvm.ClassFile.FieldType.byte)), Jvm.Cond.code ({ cls := "java/lang/Math", name := "min", desc := "(II)I" } : Jvm.MethodName) jdk_29_method_69_code (2 : Nat) (Option.some Jvm.ClassFile.FieldType.int), Jvm.Cond.code ({ cls := "java/lang/AbstractStringBuilder", name := "isLatin1", desc := "()Z" } : Jvm.MethodName) jdk_68_method_68_code (1 : Nat) (Option.some Jvm.ClassFile.FieldType.boolean), Jvm.Cond.code ({ cls := "java/lang/Long", name := "getChars", desc := "(JI[B)I" } : Jvm.MethodName) jdk_35_method_14_code (11 : Nat) (Option.some Jvm.ClassFile.FieldType.int), Jvm.Cond.code ({ cls := "java/lang/StringBuilder", name := "toString", desc := "()Ljava/lang/String;" } : Jvm.MethodName) jdk_67_method_42_code (1 : Nat) (Option.some (Jvm.ClassFile.FieldType.object "java/lang/String")), Jvm.Cond.code ({ cls := "java/lang/String", name := "<init>", desc := "(Ljava/lang/StringBuilder;)V" } : Jvm.MethodName) jdk_42_method_53_code (2 : Nat) (Option.none : Option Jvm.ClassFile.FieldType), Jvm.Cond.code ({ cls := "java/lang/String", name := "<init>", desc := "(Ljava/lang/AbstractStringBuilder;Ljava/lang/Void;)V" } : Jvm.MethodName) jdk_42_method_150_code (5 : Nat) (Option.none : Option Jvm.ClassFile.FieldType), Jvm.Cond.code ({ cls := "java/lang/AbstractStringBuilder", name := "getValue", desc := "()[B" } : Jvm.MethodName) jdk_68_method_64_code (1 : Nat) (Option.some (Jvm.ClassFile.FieldType.array Jvm.ClassFile.FieldType.byte)), Jvm.Cond.code ({ cls := "java/lang/StringBuilder", name := "length", desc := "()I" } : Jvm.MethodName) jdk_67_method_93_code (1 : Nat) (Option.some Jvm.ClassFile.FieldType.int), Jvm.Cond.code ({ cls := "java/lang/AbstractStringBuilder", name := "length", desc := "()I" } : Jvm.MethodName) jdk_68_method_6_code (1 : Nat) (Option.some Jvm.ClassFile.FieldType.int), Jvm.Cond.code ({ cls := "java/util/Arrays", name := "copyOfRange", desc := "([BII)[B" } : Jvm.MethodName) jdk_65_method_132_code (3 : Nat) (Option.some (Jvm.ClassFile.FieldType.array Jvm.ClassFile.FieldType.byte)), Jvm.Cond.code ({ cls := "java/util/Arrays", name := "copyOfRangeByte", desc := "([BII)[B" } : Jvm.MethodName) jdk_65_method_133_code (5 : Nat) (Option.some (Jvm.ClassFile.FieldType.array Jvm.ClassFile.FieldType.byte)), Jvm.Cond.code ({ cls := "java/util/Arrays", name := "checkLength", desc := "(II)V" } : Jvm.MethodName) jdk_65_method_131_code (2 : Nat) (Option.none : Option Jvm.ClassFile.FieldType), Jvm.Cond.code ({ cls := "java/lang/String", name := "charAt", desc := "(I)C" } : Jvm.MethodName) jdk_42_method_56_code (2 : Nat) (Option.some Jvm.ClassFile.FieldType.char), Jvm.Cond.code ({ cls := "java/lang/String", name := "isLatin1", desc := "()Z" } : Jvm.MethodName) jdk_42_method_154_code (1 : Nat) (Option.some Jvm.ClassFile.FieldType.boolean), Jvm.Cond.code ({ cls := "java/lang/StringLatin1", name := "charAt", desc := "([BI)C" } : Jvm.MethodName) jdk_43_method_2_code (2 : Nat) (Option.some Jvm.ClassFile.FieldType.char), Jvm.Cond.code ({ cls := "java/lang/String", name := "checkIndex", desc := "(II)V" } : Jvm.MethodName) jdk_42_method_155_code (2 : Nat) (Option.none : Option Jvm.ClassFile.FieldType), Jvm.Cond.code ({ cls := "jdk/internal/util/Preconditions", name := "checkIndex", desc := "(IILjava/util/function/BiFunction;)I" } : Jvm.MethodName) jdk_41_method_11_code (3 : Nat) (Option.some Jvm.ClassFile.FieldType.int), Jvm.Cond.code ({ cls := "com/example/strikeboard/strikeboard/engine/ColumnToStringPinLaw", name := "step", desc := "(JLjava/lang/String;II)J" } : Jvm.MethodName) method_3_code (9 : Nat) (Option.some Jvm.ClassFile.FieldType.long), Jvm.Cond.code ({ cls := "java/lang/String", name := "<init>", desc := "([C)V" } : Jvm.MethodName) jdk_42_method_3_code (2 : Nat) (Option.none : Option Jvm.ClassFile.FieldType), Jvm.Cond.code ({ cls := "java/lang/String", name := "<init>", desc := "([CIILjava/lang/Void;)V" } : Jvm.MethodName) jdk_42_method_149_code (6 : Nat) (Option.none : Option Jvm.ClassFile.FieldType), Jvm.Cond.code ({ cls := "java/lang/StringUTF16", name := "compress", desc := "([CII)[B" } : Jvm.MethodName) jdk_52_method_16_code (6 : Nat) (Option.some (Jvm.ClassFile.FieldType.array Jvm.ClassFile.FieldType.byte)), Jvm.Cond.code ({ cls := "java/lang/StringUTF16", name := "compress", desc := "([CI[BII)I" } : Jvm.MethodName) jdk_52_method_21_code (7 : Nat) (Option.some Jvm.ClassFile.FieldType.int), Jvm.Cond.code ({ cls := "java/lang/StringUTF16", name := "coderFromArrayLen", desc := "([BI)B" } : Jvm.MethodName) jdk_52_method_15_code (2 : Nat) (Option.some Jvm.ClassFile.FieldType.byte)]
set_option maxRecDepth 65536 in
theorem codes_eq : words1.filter isCode = codes1 := rfl
theorem w_codes : ∀ c ∈ words1.filter isCode, c.before args0 about1 = true := by
  rw [codes_eq]
  intro c hc
  simp only [codes1, List.mem_cons, List.not_mem_nil, or_false] at hc
  rcases hc with rfl | rfl | rfl | rfl | rfl | rfl | rfl | rfl | rfl | rfl | rfl | rfl | rfl | rfl | rfl | rfl | rfl | rfl | rfl | rfl | rfl | rfl | rfl | rfl | rfl | rfl | rfl | rfl | rfl | rfl | rfl | rfl | rfl | rfl | rfl | rfl | rfl | rfl | rfl | rfl | rfl | rfl | rfl | rfl | rfl | rfl | rfl | rfl | rfl | rfl
  · exact w_c0
  · exact w_c1
  · exact w_c2
  · exact w_c3
  · exact w_c4
  · exact w_c5
  · exact w_c6
  · exact w_c7
  · exact w_c8
  · exact w_c9
  · exact w_c10
  · exact w_c11
  · exact w_c12
  · exact w_c13
  · exact w_c14
  · exact w_c15
  · exact w_c16
  · exact w_c17
  · exact w_c18
  · exact w_c19
  · exact w_c20
  · exact w_c21
  · exact w_c22
  · exact w_c23
  · exact w_c24
  · exact w_c25
  · exact w_c26
  · exact w_c27
  · exact w_c28
  · exact w_c29
  · exact w_c30
  · exact w_c31
  · exact w_c32
  · exact w_c33
  · exact w_c34
  · exact w_c35
  · exact w_c36
  · exact w_c37
  · exact w_c38
  · exact w_c39
  · exact w_c40
  · exact w_c41
  · exact w_c42
  · exact w_c43
  · exact w_c44
  · exact w_c45
  · exact w_c46
  · exact w_c47
  · exact w_c48
  · exact w_c49
set_option maxRecDepth 65536 in
theorem w_t1 : (words1.take 24).all (fun c => isCode c || c.before args0 about1) = true := by decide +kernel
set_option maxRecDepth 65536 in
theorem w_t2 : ((words1.drop 24).take 24).all (fun c => isCode c || c.before args0 about1) = true := by decide +kernel
set_option maxRecDepth 65536 in
theorem w_t3 : (((words1.drop 24).drop 24).take 24).all (fun c => isCode c || c.before args0 about1) = true := by decide +kernel
set_option maxRecDepth 65536 in
theorem w_t4 : ((((words1.drop 24).drop 24).drop 24).take 24).all (fun c => isCode c || c.before args0 about1) = true := by decide +kernel
set_option maxRecDepth 65536 in
theorem w_t5 : (((((words1.drop 24).drop 24).drop 24).drop 24).take 24).all (fun c => isCode c || c.before args0 about1) = true := by decide +kernel
set_option maxRecDepth 65536 in
theorem w_t6 : ((((((words1.drop 24).drop 24).drop 24).drop 24).drop 24).take 24).all (fun c => isCode c || c.before args0 about1) = true := by decide +kernel
set_option maxRecDepth 65536 in
theorem w_t7 : (((((((words1.drop 24).drop 24).drop 24).drop 24).drop 24).drop 24).take 24).all (fun c => isCode c || c.before args0 about1) = true := by decide +kernel
set_option maxRecDepth 65536 in
theorem w_t8 : ((((((((words1.drop 24).drop 24).drop 24).drop 24).drop 24).drop 24).drop 24).take 24).all (fun c => isCode c || c.before args0 about1) = true := by decide +kernel
set_option maxRecDepth 65536 in
theorem w_t9 : (((((((((words1.drop 24).drop 24).drop 24).drop 24).drop 24).drop 24).drop 24).drop 24).take 24).all (fun c => isCode c || c.before args0 about1) = true := by decide +kernel
set_option maxRecDepth 65536 in
theorem w_t10 : ((((((((((words1.drop 24).drop 24).drop 24).drop 24).drop 24).drop 24).drop 24).drop 24).drop 24).take 24).all (fun c => isCode c || c.before args0 about1) = true := by decide +kernel
set_option maxRecDepth 65536 in
theorem w_t11 : (((((((((((words1.drop 24).drop 24).drop 24).drop 24).drop 24).drop 24).drop 24).drop 24).drop 24).drop 24).take 24).all (fun c => isCode c || c.before args0 about1) = true := by decide +kernel
set_option maxRecDepth 65536 in
theorem w_t12 : (((((((((((words1.drop 24).drop 24).drop 24).drop 24).drop 24).drop 24).drop 24).drop 24).drop 24).drop 24).drop 24).all (fun c => isCode c || c.before args0 about1) = true := by decide +kernel
theorem w_tables : (allAtoms (Jvm.Cond.code x code maxLocals ret :: tables_1)).before args0 about1 = true := by
  rw [allAtoms_all]
  show words1.all (fun c => c.before args0 about1) = true
  refine all_split ?_ w_codes
  rw [← List.take_append_drop 24 words1, List.all_append, w_t1, ← List.take_append_drop 24 (words1.drop 24), List.all_append, w_t2, ← List.take_append_drop 24 ((words1.drop 24).drop 24), List.all_append, w_t3, ← List.take_append_drop 24 (((words1.drop 24).drop 24).drop 24), List.all_append, w_t4, ← List.take_append_drop 24 ((((words1.drop 24).drop 24).drop 24).drop 24), List.all_append, w_t5, ← List.take_append_drop 24 (((((words1.drop 24).drop 24).drop 24).drop 24).drop 24), List.all_append, w_t6, ← List.take_append_drop 24 ((((((words1.drop 24).drop 24).drop 24).drop 24).drop 24).drop 24), List.all_append, w_t7, ← List.take_append_drop 24 (((((((words1.drop 24).drop 24).drop 24).drop 24).drop 24).drop 24).drop 24), List.all_append, w_t8, ← List.take_append_drop 24 ((((((((words1.drop 24).drop 24).drop 24).drop 24).drop 24).drop 24).drop 24).drop 24), List.all_append, w_t9, ← List.take_append_drop 24 (((((((((words1.drop 24).drop 24).drop 24).drop 24).drop 24).drop 24).drop 24).drop 24).drop 24), List.all_append, w_t10, ← List.take_append_drop 24 ((((((((((words1.drop 24).drop 24).drop 24).drop 24).drop 24).drop 24).drop 24).drop 24).drop 24).drop 24), List.all_append, w_t11, w_t12]
  rfl
set_option maxRecDepth 65536 in
theorem w_rest : rest_1_c.before args0 about1 = true := by decide +kernel
set_option maxRecDepth 65536 in
theorem w_case : (Jvm.Cond.and given_1 narrow_1).before args0 about1 = true := by decide +kernel
set_option maxRecDepth 65536 in
theorem w_consts : constsHeld consts_1 about1 := Jvm.Lit.constsHeldB_iff.mp (by decide +kernel)
theorem w_applies : (headSpec (Jvm.Cond.code x code maxLocals ret :: tables_1) room_1).applies x e0.platform about1 = true :=
  (Spec.applies_iff w_frames).mpr ⟨w_running, w_runnable, w_alone, w_named, w_hears, w_ripe, w_room, w_tables⟩
theorem atStart : AtStart classFile x code maxLocals ret World_1 tables_1 room_1 Calls_1 rest_1 Pre_1 launch0 p0 e0 about1 theMethod args0 below0 :=
  ⟨lists_1, trivial, launch0.admits_env _ _ _, launch0.least_env, fairChoices_fair.cas, fairChoices_fair.clock, w_frames, w_args, w_heap, w_applies, ⟨w_consts, trivial⟩, w_rest, w_case⟩
end start1
theorem witness_1 : WitnessClaimed_1 := ⟨start1.p0, start1.e0, start1.about1, start1.theMethod, start1.args0, start1.below0, start1.atStart⟩
end Jvm.Pilot.@@N@@
