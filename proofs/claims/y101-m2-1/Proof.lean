import JvmDerived
import JvmDerived.Pilot.@@N@@Statement
import JvmDerived.Pilot.@@N@@Code
set_option linter.unusedVariables false
set_option linter.unusedSimpArgs false
/- laws to paste: Road.backV, Road.lenW, Road.chN, Road.codOf (cut by pick.py; bodies as the Statement names them) -/
namespace Jvm.Pilot.@@N@@
namespace StrChars
open Jvm Sem ClassFile Op Lib Jvm.Stand Jvm.Free.XT Jvm.Free.ALB Jvm.Free.JM Jvm.Free
open Jvm.Lib.Cold (StaticIs)
/-- a char array whose places are chars -/
def Ch (a : Addr) (A : Cell) (U : State) : Prop := Arr .char a A U ∧ Typed .char A
theorem Ch.mv {a : Addr} {A : Cell} {U U' : State} (h : Ch a A U) (hal : U.vm.Alike U'.vm) (hh : U'.heap = U.heap) : Ch a A U' := ⟨h.1.mv hal hh, h.2⟩
theorem Ch.keep {a : Addr} {A : Cell} {U U' : State} (h : Ch a A U) (hal : U.vm.Alike U'.vm) (hk : U'.heap[a]? = some A) : Ch a A U' := ⟨h.1.keep hal hk, h.2⟩
/-- what place i of a char[]'s cell holds -/
def cv (A : Cell) (i : Nat) : Int32 := match A.slots[i]? with | some (.int x) => x | _ => 0
theorem Ch.get {a : Addr} {A : Cell} {U : State} (h : Ch a A U) {i : Nat} (hi : i < A.slots.size) : A.slots[i]? = some (.int (cv A i)) := by
  have e := Array.getElem?_eq_getElem hi
  have f := h.2 i _ e
  unfold cv; rw [e]
  generalize A.slots[i] = v at f
  cases v <;> simp [fits] at f ⊢
/-- the byte that i2b leaves of a char -/
def lo8 (x : Int32) : Int32 := x.toInt8.toInt32
theorem fits_lo8 (y : Int32) : fits .byte (.int (lo8 y)) = true := by
  have h1 := y.toInt8.le_toInt
  have h2 := y.toInt8.toInt_lt
  simp only [lo8, fits, Bool.and_eq_true, decide_eq_true_eq, Int32.le_iff_toInt_le, Int8.toInt_toInt32, show (-128 : Int32).toInt = -128 from by decide, show (127 : Int32).toInt = 127 from by decide]
  omega
/-- A' is A but that each place j of lo .. hi - 1 holds f j -/
def Laid (A A' : Cell) (lo hi : Nat) (f : Nat → Value) : Prop := A'.cls = A.cls ∧ A'.vm = A.vm ∧ A'.slots.size = A.slots.size ∧ ∀ i, A'.slots[i]? = if lo ≤ i ∧ i < hi then some (f i) else A.slots[i]?
theorem Laid.zero (A : Cell) (lo : Nat) (f : Nat → Value) : Laid A A lo (lo + 0) f := ⟨rfl, rfl, rfl, fun i => by rw [if_neg (by omega)]⟩
theorem Laid.step {A Ak : Cell} {lo k : Nat} {f : Nat → Value} {v : Value} (h : Laid A Ak lo k f) (hlo : lo ≤ k) (hk : k < Ak.slots.size) (hv : v = f k) : Laid A (Ak.setSlot k v) lo (k + 1) f := by
  refine ⟨h.1, h.2.1, by simpa [Cell.setSlot] using h.2.2.1, fun i => ?_⟩
  by_cases e : k = i
  · subst e; rw [Cell.slots_setSlot_self v hk, if_pos (by omega), hv]
  · rw [Cell.slots_setSlot_ne v e, h.2.2.2 i]
    by_cases q : lo ≤ i ∧ i < k
    · rw [if_pos q, if_pos (by omega)]
    · rw [if_neg q, if_neg (by omega)]
def U16 : String := "java/lang/StringUTF16"
namespace Cmp5
def yN : MethodName := ⟨"java/lang/StringUTF16", "compress", "([CI[BII)I"⟩
abbrev yB : ByteArray := jdk_52_method_21_code
theorem d0 : decode yB 0 = .ok (.iconst 0, 1) := by decide +kernel
theorem d1 : decode yB 1 = .ok (.istore 5, 2) := by decide +kernel
theorem d3 : decode yB 3 = .ok (.iload 5, 2) := by decide +kernel
theorem d5 : decode yB 5 = .ok (.iload 4, 2) := by decide +kernel
theorem d7 : decode yB 7 = .ok (.if_icmp (.ge) 37, 3) := by decide +kernel
theorem d10 : decode yB 10 = .ok (.aload_n 0, 1) := by decide +kernel
theorem d11 : decode yB 11 = .ok (.iload_n 1, 1) := by decide +kernel
theorem d12 : decode yB 12 = .ok (.caload, 1) := by decide +kernel
theorem d13 : decode yB 13 = .ok (.istore 6, 2) := by decide +kernel
theorem d15 : decode yB 15 = .ok (.iload 6, 2) := by decide +kernel
theorem d17 : decode yB 17 = .ok (.sipush 255, 3) := by decide +kernel
theorem d20 : decode yB 20 = .ok (.if_icmp (.le) 6, 3) := by decide +kernel
theorem d26 : decode yB 26 = .ok (.aload_n 2, 1) := by decide +kernel
theorem d27 : decode yB 27 = .ok (.iload_n 3, 1) := by decide +kernel
theorem d28 : decode yB 28 = .ok (.iload 6, 2) := by decide +kernel
theorem d30 : decode yB 30 = .ok (.i2b, 1) := by decide +kernel
theorem d31 : decode yB 31 = .ok (.bastore, 1) := by decide +kernel
theorem d32 : decode yB 32 = .ok (.iinc 1 1, 3) := by decide +kernel
theorem d35 : decode yB 35 = .ok (.iinc 3 1, 3) := by decide +kernel
theorem d38 : decode yB 38 = .ok (.iinc 5 1, 3) := by decide +kernel
theorem d41 : decode yB 41 = .ok (.goto (-38), 3) := by decide +kernel
theorem d44 : decode yB 44 = .ok (.iload 4, 2) := by decide +kernel
theorem d46 : decode yB 46 = .ok (.ireturn, 1) := by decide +kernel
def site : List Cond := []
def tab : Cond := tabOf yN yB 7 (some .int) site
def P (b : Addr) (A : Cell) (d : Addr) (B : Cell) (o q len : Nat) (args : Array Value) (s : State) : Prop := args = #[.ref b, .int (Int32.ofNat o), .ref d, .int (Int32.ofNat q), .int (Int32.ofNat len)] ∧ Ch b A s ∧ Arr .byte d B s ∧ b ≠ d ∧ o + len ≤ A.slots.size ∧ q + len ≤ B.slots.size ∧ ∀ i, i < len → ¬ 255 < cv A (o + i)
def E (b : Addr) (A : Cell) (d : Addr) (B : Cell) (o q len : Nat) (r : Option Value) (s u : State) : Prop := r = some (.int (Int32.ofNat len)) ∧ ∃ B', Put d B' s u ∧ Laid B B' q (q + len) (fun j => Value.int (lo8 (cv A (o + (j - q)))))
/-- no char of the range above 255: len; the places written hold each char's low byte -/
theorem law (l : Launch) (b : Addr) (A : Cell) (d : Addr) (B : Cell) (o q len : Nat) : Law l yN 5 5 0 0 yB 7 (some .int) site (P b A d B o q len) (E b A d B o q len) (copyLocs d q len) 0 0 := by
  refine Law.of_walk (plainFor_of_name (by decide +kernel)) (by decide +kernel) (by decide +kernel) (by decide) (fun _ _ h => by rw [h.1]; rfl) (fun _ U U' hal hh h => ⟨h.1, h.2.1.mv hal hh, h.2.2.1.mv hal hh, h.2.2.2⟩) (fun r U U' V V' h1 hal h2 h => ⟨h.1, h.2.elim fun B' q => ⟨B', q.1.mv h1 h2, q.2⟩⟩) ?_
  intro p e s m args below meth c s₁ X0 hexec hbytes hml hret hlk hnm hown hh0 W hP
  obtain ⟨rfl, hA, hB, hne, l1, l2, hp⟩ := hP
  have c1 : Steps p.tables e below (s₁.setTop (entryFrame m #[.ref b, .int (Int32.ofNat o), .ref d, .int (Int32.ofNat q), .int (Int32.ofNat len)] 7)) (s₁.setTop (mkF m 0 #[.val (.ref b), .val (.int (Int32.ofNat o)), .val (.ref d), .val (.int (Int32.ofNat q)), .val (.int (Int32.ofNat len)), .unset, .unset] [])) := entry rfl
  have hA0 := hA.1.mv X0.warmed.alike hh0
  have hB0 := hB.mv X0.warmed.alike hh0
  have a31 := hA.1.2.2.2
  have c2 : Steps p.tables e below (s₁.setTop (entryFrame m #[.ref b, .int (Int32.ofNat o), .ref d, .int (Int32.ofNat q), .int (Int32.ofNat len)] 7)) (s₁.setTop (mkF m 3 #[.val (.ref b), .val (.int (Int32.ofNat o)), .val (.ref d), .val (.int (Int32.ofNat q)), .val (.int (Int32.ofNat len)), .val (.int 0), .unset] [])) := c1.trans (by
    refine iconstV X0.here hexec rfl 0 (hb hbytes d0) (by decide) ?_
    refine XS.istore X0.here hexec rfl (hb hbytes d1) rfl rfl ?_
    exact Steps.refl _)
  have loop : ∀ (r i : Nat), i + r = len → ∀ (z : Slot), (z = .unset ∨ ∃ w, z = .val w ∧ w.category = 1) → ∀ (Tl : State) (Bk : Cell), Stand p l e { frames := 0, locals := 0, cells := 0, slots := 0 } s m #[.ref b, .int (Int32.ofNat o), .ref d, .int (Int32.ofNat q), .int (Int32.ofNat len)] below meth c Tl ([] ++ copyLocs d q i) 0 0 → Put d Bk s₁ Tl → Laid B Bk q (q + i) (fun j => Value.int (lo8 (cv A (o + (j - q))))) →
      Steps p.tables e below (s₁.setTop (entryFrame m #[.ref b, .int (Int32.ofNat o), .ref d, .int (Int32.ofNat q), .int (Int32.ofNat len)] 7)) (Tl.setTop (mkF m 3 #[.val (.ref b), .val (.int (Int32.ofNat (o + i))), .val (.ref d), .val (.int (Int32.ofNat (q + i))), .val (.int (Int32.ofNat len)), .val (.int (Int32.ofNat i)), z] [])) → ∃ (T' : State) (B' : Cell) (z' : Slot), Stand p l e { frames := 0, locals := 0, cells := 0, slots := 0 } s m #[.ref b, .int (Int32.ofNat o), .ref d, .int (Int32.ofNat q), .int (Int32.ofNat len)] below meth c T' ([] ++ copyLocs d q len) 0 0 ∧ Put d B' s₁ T' ∧ Laid B B' q (q + len) (fun j => Value.int (lo8 (cv A (o + (j - q))))) ∧
      Steps p.tables e below (s₁.setTop (entryFrame m #[.ref b, .int (Int32.ofNat o), .ref d, .int (Int32.ofNat q), .int (Int32.ofNat len)] 7)) (T'.setTop (mkF m 3 #[.val (.ref b), .val (.int (Int32.ofNat (o + len))), .val (.ref d), .val (.int (Int32.ofNat (q + len))), .val (.int (Int32.ofNat len)), .val (.int (Int32.ofNat len)), z'] [])) := by
    intro r
    induction r with
    | zero =>
      intro i hi z hz Tl Bk Xl pl fl cl
      have hil : i = len := by omega
      rw [hil] at Xl fl cl
      exact ⟨Tl, Bk, z, Xl, pl, fl, cl⟩
    | succ r ih =>
      intro i hi z hz Tl Bk Xl pl fl cl
      have all := X0.warmed.alike.symm.trans Xl.warmed.alike
      have hAl := hA0.keep all (pl.other hne hA0.1)
      have hBk := hB0.like all pl.1 fl.1 fl.2.1 fl.2.2.1
      have hlt : q + i < Bk.slots.size := by rw [fl.2.2.1]; omega
      have c3 : Steps p.tables e below (s₁.setTop (entryFrame m #[.ref b, .int (Int32.ofNat o), .ref d, .int (Int32.ofNat q), .int (Int32.ofNat len)] 7)) (Tl.setTop (mkF m 12 #[.val (.ref b), .val (.int (Int32.ofNat (o + i))), .val (.ref d), .val (.int (Int32.ofNat (q + i))), .val (.int (Int32.ofNat len)), .val (.int (Int32.ofNat i)), z] [.int (Int32.ofNat (o + i)), .ref b])) := cl.trans (by
        refine XS.iload Xl.here hexec rfl (hb hbytes d3) rfl ?_
        refine XS.iload Xl.here hexec rfl (hb hbytes d5) rfl ?_
        refine XS.icmpNo Xl.here hexec rfl (hb hbytes d7) rfl (ii_ge_f (lt32 (by omega) (by omega))) ?_
        refine XS.aloadN Xl.here hexec rfl (hb hbytes d10) rfl rfl ?_
        refine XS.iloadN Xl.here hexec rfl (hb hbytes d11) rfl ?_
        exact Steps.refl _)
      have c4 : Steps p.tables e below (s₁.setTop (entryFrame m #[.ref b, .int (Int32.ofNat o), .ref d, .int (Int32.ofNat q), .int (Int32.ofNat len)] 7)) (Tl.setTop (mkF m 13 #[.val (.ref b), .val (.int (Int32.ofNat (o + i))), .val (.ref d), .val (.int (Int32.ofNat (q + i))), .val (.int (Int32.ofNat len)), .val (.int (Int32.ofNat i)), z] [.int (cv A (o + i))])) := c3.trans (by
        refine Xl.aget hexec hAl rfl (hA.get (i := o + i) (by omega)) rfl rfl (hb hbytes d12) ?_
        exact Steps.refl _)
      have c5 : Steps p.tables e below (s₁.setTop (entryFrame m #[.ref b, .int (Int32.ofNat o), .ref d, .int (Int32.ofNat q), .int (Int32.ofNat len)] 7)) (Tl.setTop (mkF m 15 #[.val (.ref b), .val (.int (Int32.ofNat (o + i))), .val (.ref d), .val (.int (Int32.ofNat (q + i))), .val (.int (Int32.ofNat len)), .val (.int (Int32.ofNat i)), .val (.int (cv A (o + i)))] [])) := c4.trans (by
        refine XS.istoreS Xl.here hexec rfl (hb hbytes d13) rfl rfl hz ?_
        exact Steps.refl _)
      have c6 : Steps p.tables e below (s₁.setTop (entryFrame m #[.ref b, .int (Int32.ofNat o), .ref d, .int (Int32.ofNat q), .int (Int32.ofNat len)] 7)) (Tl.setTop (mkF m 31 #[.val (.ref b), .val (.int (Int32.ofNat (o + i))), .val (.ref d), .val (.int (Int32.ofNat (q + i))), .val (.int (Int32.ofNat len)), .val (.int (Int32.ofNat i)), .val (.int (cv A (o + i)))] [.int (lo8 (cv A (o + i))), .int (Int32.ofNat (q + i)), .ref d])) := c5.trans (by
        refine XS.iload Xl.here hexec rfl (hb hbytes d15) rfl ?_
        refine sipushV Xl.here hexec rfl 255 (hb hbytes d17) (by decide) ?_
        refine XS.icmpYes Xl.here hexec rfl (pc0 := 20) rfl (hb hbytes d20) rfl (ii_le_t (hp i (by omega))) (by decide) rfl ?_
        refine XS.aloadN Xl.here hexec rfl (hb hbytes d26) rfl rfl ?_
        refine XS.iloadN Xl.here hexec rfl (hb hbytes d27) rfl ?_
        refine XS.iload Xl.here hexec rfl (hb hbytes d28) rfl ?_
        refine i2b Xl.here hexec rfl (hb hbytes d30) rfl ?_
        exact Steps.refl _)
      obtain ⟨T7, X7, p7, st7⟩ := Xl.aput hexec hBk rfl hlt rfl (fits_lo8 (cv A (o + i))) (g := (mkF m 31 #[.val (.ref b), .val (.int (Int32.ofNat (o + i))), .val (.ref d), .val (.int (Int32.ofNat (q + i))), .val (.int (Int32.ofNat len)), .val (.int (Int32.ofNat i)), .val (.int (cv A (o + i)))] [.int (lo8 (cv A (o + i))), .int (Int32.ofNat (q + i)), .ref d])) rfl (rest := []) rfl (hb hbytes d31)
      have c8 : Steps p.tables e below (s₁.setTop (entryFrame m #[.ref b, .int (Int32.ofNat o), .ref d, .int (Int32.ofNat q), .int (Int32.ofNat len)] 7)) (T7.setTop (mkF m 32 #[.val (.ref b), .val (.int (Int32.ofNat (o + i))), .val (.ref d), .val (.int (Int32.ofNat (q + i))), .val (.int (Int32.ofNat len)), .val (.int (Int32.ofNat i)), .val (.int (cv A (o + i)))] [])) := c6.trans (st7 _ (Steps.refl _))
      have c9 : Steps p.tables e below (s₁.setTop (entryFrame m #[.ref b, .int (Int32.ofNat o), .ref d, .int (Int32.ofNat q), .int (Int32.ofNat len)] 7)) (T7.setTop (mkF m 3 #[.val (.ref b), .val (.int (Int32.ofNat (o + i) + 1)), .val (.ref d), .val (.int (Int32.ofNat (q + i) + 1)), .val (.int (Int32.ofNat len)), .val (.int (Int32.ofNat i + 1)), .val (.int (cv A (o + i)))] [])) := c8.trans (by
        refine iincV X7.here hexec rfl 1 (hb hbytes d32) (by decide) rfl rfl ?_
        refine iincV X7.here hexec rfl 1 (hb hbytes d35) (by decide) rfl rfl ?_
        refine iincV X7.here hexec rfl 1 (hb hbytes d38) (by decide) rfl rfl ?_
        refine XS.goto X7.here hexec rfl (pc0 := 41) rfl (hb hbytes d41) (by decide) rfl ?_
        exact Steps.refl _)
      have c10 : Steps p.tables e below (s₁.setTop (entryFrame m #[.ref b, .int (Int32.ofNat o), .ref d, .int (Int32.ofNat q), .int (Int32.ofNat len)] 7)) (T7.setTop (mkF m 3 #[.val (.ref b), .val (.int (Int32.ofNat (o + (i + 1)))), .val (.ref d), .val (.int (Int32.ofNat (q + (i + 1)))), .val (.int (Int32.ofNat len)), .val (.int (Int32.ofNat (i + 1))), .val (.int (cv A (o + i)))] [])) := by
        have := c9
        rw [succ32, succ32, succ32] at this
        exact this
      exact ih (i + 1) (by omega) _ (Or.inr ⟨_, rfl, rfl⟩) T7 _ (by rw [copyLocs_step, ← List.append_assoc]; exact X7) (pl.trans p7) (fl.step (by omega) hlt (by simp)) c10
  obtain ⟨T9, B9, z9, X9, p9, f9, g9⟩ := loop len 0 (by omega) .unset (Or.inl rfl) s₁ B (by simpa [copyLocs] using X0) ⟨hB0.1, fun _ _ => rfl, rfl⟩ (Laid.zero _ _ _) c2
  have c11 : Steps p.tables e below (s₁.setTop (entryFrame m #[.ref b, .int (Int32.ofNat o), .ref d, .int (Int32.ofNat q), .int (Int32.ofNat len)] 7)) (T9.setTop (mkF m 46 #[.val (.ref b), .val (.int (Int32.ofNat (o + len))), .val (.ref d), .val (.int (Int32.ofNat (q + len))), .val (.int (Int32.ofNat len)), .val (.int (Int32.ofNat len)), z9] [.int (Int32.ofNat len)])) := g9.trans (by
    refine XS.iload X9.here hexec rfl (hb hbytes d3) rfl ?_
    refine XS.iload X9.here hexec rfl (hb hbytes d5) rfl ?_
    refine XS.icmpYes X9.here hexec rfl (pc0 := 7) rfl (hb hbytes d7) rfl (ii_ge_t (nlt32 (by omega) (Nat.le_refl _))) (by decide) rfl ?_
    refine XS.iload X9.here hexec rfl (hb hbytes d44) rfl ?_
    exact Steps.refl _)
  exact ⟨T9, some (.int (Int32.ofNat len)), _, _, _, X9, by simp, rfl, rfl, (fun h => by cases h), ⟨rfl, B9, p9.from hh0, f9⟩, fun fs hl => c11.trans (X9.ireturnOut hexec hret rfl (Or.inl rfl) (hb hbytes d46) hl)⟩
end Cmp5
namespace Cmp3
def yN : MethodName := ⟨"java/lang/StringUTF16", "compress", "([CII)[B"⟩
abbrev yB : ByteArray := jdk_52_method_16_code
theorem d0 : decode yB 0 = .ok (.iload_n 2, 1) := by decide +kernel
theorem d1 : decode yB 1 = .ok (.newarray .byte, 2) := by decide +kernel
theorem d3 : decode yB 3 = .ok (.astore_n 3, 1) := by decide +kernel
theorem d4 : decode yB 4 = .ok (.aload_n 0, 1) := by decide +kernel
theorem d5 : decode yB 5 = .ok (.iload_n 1, 1) := by decide +kernel
theorem d6 : decode yB 6 = .ok (.aload_n 3, 1) := by decide +kernel
theorem d7 : decode yB 7 = .ok (.iconst 0, 1) := by decide +kernel
theorem d8 : decode yB 8 = .ok (.iload_n 2, 1) := by decide +kernel
theorem d9 : decode yB 9 = .ok (.invokestatic 115, 3) := by decide +kernel
theorem d12 : decode yB 12 = .ok (.istore 4, 2) := by decide +kernel
theorem d14 : decode yB 14 = .ok (.iload 4, 2) := by decide +kernel
theorem d16 : decode yB 16 = .ok (.iload_n 2, 1) := by decide +kernel
theorem d17 : decode yB 17 = .ok (.if_icmp (.eq) 40, 3) := by decide +kernel
theorem d57 : decode yB 57 = .ok (.aload_n 3, 1) := by decide +kernel
theorem d58 : decode yB 58 = .ok (.areturn, 1) := by decide +kernel
def site : List Cond := [.arrayClass .byte, Cmp5.tab] ++ staticW U16 115 Cmp5.yN
def tab : Cond := tabOf yN yB 6 (some (.array .byte)) site
def P (b : Addr) (A : Cell) (o len : Nat) (args : Array Value) (s : State) : Prop := args = #[.ref b, .int (Int32.ofNat o), .int (Int32.ofNat len)] ∧ Ch b A s ∧ o + len ≤ A.slots.size ∧ len ≤ 536870912 ∧ ∀ i, i < len → ¬ 255 < cv A (o + i)
def E (b : Addr) (A : Cell) (o len : Nat) (r : Option Value) (s u : State) : Prop := NewArr .byte "[B" len (fun j => .int (lo8 (cv A (o + j)))) r s u ∧ u.heap.size = s.heap.size + 1
/-- no char of the range above 255: a new byte[] of their low bytes -/
theorem law (l : Launch) (b : Addr) (A : Cell) (o len : Nat) : Law l yN 3 3 1 18 yB 6 (some (.array .byte)) site (P b A o len) (E b A o len) [] 1 len := by
  refine Law.of_walk (plainFor_of_name (by decide +kernel)) (by decide +kernel) (by decide +kernel) (by decide) (fun _ _ h => by rw [h.1]; rfl) (fun _ U U' hal hh h => ⟨h.1, h.2.1.mv hal hh, h.2.2⟩) (fun r U U' V V' h1 hal h2 h => ⟨NewArr.mv r U U' V V' h1 hal h2 h.1, by rw [h1, h2]; exact h.2⟩) ?_
  intro p e s m args below meth c s₁ X0 hexec hbytes hml hret hlk hnm hown hh0 W hP
  obtain ⟨rfl, hA, l1, l2, hp⟩ := hP
  have a31 := hA.1.2.2.2
  have c1 : Steps p.tables e below (s₁.setTop (entryFrame m #[.ref b, .int (Int32.ofNat o), .int (Int32.ofNat len)] 6)) (s₁.setTop (mkF m 0 #[.val (.ref b), .val (.int (Int32.ofNat o)), .val (.int (Int32.ofNat len)), .unset, .unset, .unset] [])) := entry rfl
  have c2 : Steps p.tables e below (s₁.setTop (entryFrame m #[.ref b, .int (Int32.ofNat o), .int (Int32.ofNat len)] 6)) (s₁.setTop (mkF m 1 #[.val (.ref b), .val (.int (Int32.ofNat o)), .val (.int (Int32.ofNat len)), .unset, .unset, .unset] [.int (Int32.ofNat len)])) := c1.trans (by
    refine XS.iloadN X0.here hexec rfl (hb hbytes d0) rfl ?_
    exact Steps.refl _)
  obtain ⟨T3, B3, X3, ba3, bs3, bv3, bh3, bf3, st3⟩ := X0.anew hexec (atype := .byte) (wk W (.arrayClass .byte)) rfl (by show len * 1 ≤ _; omega) (by omega) (g := (mkF m 1 #[.val (.ref b), .val (.int (Int32.ofNat o)), .val (.int (Int32.ofNat len)), .unset, .unset, .unset] [.int (Int32.ofNat len)])) rfl (hb hbytes d1) (rest := []) rfl (Nat.le_refl _) (by show 0 + len ≤ len; omega)
  rw [hh0] at ba3 st3
  have kp3 : XT.Kept s T3 := (XT.Kept.of_eq hh0).push bh3
  have hA3 := hA.keep X3.warmed.alike (kp3 _ _ hA.1.1)
  have hne : b ≠ s.heap.size := hA.1.ne
  have c4 : Steps p.tables e below (s₁.setTop (entryFrame m #[.ref b, .int (Int32.ofNat o), .int (Int32.ofNat len)] 6)) (T3.setTop (mkF m 3 #[.val (.ref b), .val (.int (Int32.ofNat o)), .val (.int (Int32.ofNat len)), .unset, .unset, .unset] [.ref s.heap.size])) := c2.trans (st3 _ (Steps.refl _))
  have c5 : Steps p.tables e below (s₁.setTop (entryFrame m #[.ref b, .int (Int32.ofNat o), .int (Int32.ofNat len)] 6)) (T3.setTop (mkF m 9 #[.val (.ref b), .val (.int (Int32.ofNat o)), .val (.int (Int32.ofNat len)), .val (.ref s.heap.size), .unset, .unset] [.int (Int32.ofNat len), .int 0, .ref s.heap.size, .int (Int32.ofNat o), .ref b])) := c4.trans (by
    refine XS.astoreN X3.here hexec rfl (hb hbytes d3) rfl rfl rfl ?_
    refine XS.aloadN X3.here hexec rfl (hb hbytes d4) rfl rfl ?_
    refine XS.iloadN X3.here hexec rfl (hb hbytes d5) rfl ?_
    refine XS.aloadN X3.here hexec rfl (hb hbytes d6) rfl rfl ?_
    refine iconstV X3.here hexec rfl 0 (hb hbytes d7) (by decide) ?_
    refine XS.iloadN X3.here hexec rfl (hb hbytes d8) rfl ?_
    exact Steps.refl _)
  obtain ⟨v6, T6, X6, E6, g6⟩ := X3.callS hexec (Cmp5.law l b A s.heap.size B3 o 0 len) hown (wks W (staticW U16 115 Cmp5.yN)) (wk W Cmp5.tab) (W := 0) (Nat.le_of_ble_eq_true rfl) (Nat.le_of_ble_eq_true rfl) (Nat.le_refl _) (by show 0 + len + 0 ≤ len; omega) (g := (mkF m 9 #[.val (.ref b), .val (.int (Int32.ofNat o)), .val (.int (Int32.ofNat len)), .val (.ref s.heap.size), .unset, .unset] [.int (Int32.ofNat len), .int (Int32.ofNat 0), .ref s.heap.size, .int (Int32.ofNat o), .ref b])) rfl (by rw [hml]; rfl) c5 (argsL := [.ref b, .int (Int32.ofNat o), .ref s.heap.size, .int (Int32.ofNat 0), .int (Int32.ofNat len)]) (rest := []) rfl rfl (by show 2 * 0 + 0 ≤ _; decide) (hb hbytes d9) (⟨rfl, hA3, ba3, hne, l1, by rw [bs3]; simp, hp⟩)
  obtain ⟨rfl, B6, p6, f6⟩ := E6
  have c7 : Steps p.tables e below (s₁.setTop (entryFrame m #[.ref b, .int (Int32.ofNat o), .int (Int32.ofNat len)] 6)) (T6.setTop (mkF m 12 #[.val (.ref b), .val (.int (Int32.ofNat o)), .val (.int (Int32.ofNat len)), .val (.ref s.heap.size), .unset, .unset] [.int (Int32.ofNat len)])) := g6
  have c8 : Steps p.tables e below (s₁.setTop (entryFrame m #[.ref b, .int (Int32.ofNat o), .int (Int32.ofNat len)] 6)) (T6.setTop (mkF m 58 #[.val (.ref b), .val (.int (Int32.ofNat o)), .val (.int (Int32.ofNat len)), .val (.ref s.heap.size), .val (.int (Int32.ofNat len)), .unset] [.ref s.heap.size])) := c7.trans (by
    refine XS.istore X6.here hexec rfl (hb hbytes d12) rfl rfl ?_
    refine XS.iload X6.here hexec rfl (hb hbytes d14) rfl ?_
    refine XS.iloadN X6.here hexec rfl (hb hbytes d16) rfl ?_
    refine XS.icmpYes X6.here hexec rfl (pc0 := 17) rfl (hb hbytes d17) rfl (ii_eq_t rfl) (by decide) rfl ?_
    refine XS.aloadN X6.here hexec rfl (hb hbytes d57) rfl rfl ?_
    exact Steps.refl _)
  have X8 := X6.wide (L' := []) (cells' := 1) (slots' := len) (fun x hx hlt => by
    simp only [List.nil_append, copyLocs, List.mem_map, List.mem_range] at hx
    obtain ⟨i, -, rfl⟩ := hx
    exact absurd hlt (Nat.lt_irrefl _)) (Nat.le_refl _) (by omega)
  exact ⟨T6, some (.ref s.heap.size), _, _, _, X8, rfl, rfl, rfl, (fun h => by cases h), ⟨⟨rfl, B6, ba3.like (X3.warmed.alike.symm.trans X6.warmed.alike) p6.1 f6.1 f6.2.1 f6.2.2.1, f6.2.1.trans bv3, by rw [X6.warmed.alike.findClass, f6.1]; exact bf3, by rw [f6.2.2.1, bs3]; simp, fun j hj => by rw [f6.2.2.2 j, if_pos (by omega)]; rfl, kp3.put p6 (Nat.le_refl _)⟩, by rw [p6.2.2, bh3, hh0]; simp⟩, fun fs hl => c8.trans (X8.areturnOut hexec rfl hret rfl (hb hbytes d58) hl)⟩
end Cmp3
namespace CodL
def yN : MethodName := ⟨"java/lang/StringUTF16", "coderFromArrayLen", "([BI)B"⟩
abbrev yB : ByteArray := jdk_52_method_15_code
theorem d0 : decode yB 0 = .ok (.iload_n 1, 1) := by decide +kernel
theorem d1 : decode yB 1 = .ok (.aload_n 0, 1) := by decide +kernel
theorem d2 : decode yB 2 = .ok (.arraylength, 1) := by decide +kernel
theorem d3 : decode yB 3 = .ok (.isub, 1) := by decide +kernel
theorem d4 : decode yB 4 = .ok (.bipush 31, 2) := by decide +kernel
theorem d6 : decode yB 6 = .ok (.iushr, 1) := by decide +kernel
theorem d7 : decode yB 7 = .ok (.i2b, 1) := by decide +kernel
theorem d8 : decode yB 8 = .ok (.ireturn, 1) := by decide +kernel
def site : List Cond := []
def tab : Cond := tabOf yN yB 2 (some .byte) site
def P (d : Addr) (B : Cell) (args : Array Value) (s : State) : Prop := args = #[.ref d, .int (Int32.ofNat B.slots.size)] ∧ Arr .byte d B s
def E (r : Option Value) (s u : State) : Prop := XT.PureE (some (.int 0)) r s u
/-- an array as long as the number of chars: LATIN1 -/
theorem law (l : Launch) (d : Addr) (B : Cell) : Law l yN 2 2 0 0 yB 2 (some .byte) site (P d B) E [] 0 0 := by
  refine Law.of_walk (plainFor_of_name (by decide +kernel)) (by decide +kernel) (by decide +kernel) (by decide) (fun _ _ h => by rw [h.1]; rfl) (fun _ U U' hal hh h => ⟨h.1, h.2.mv hal hh⟩) (fun r U U' V V' h1 hal h2 h => XT.PureE.mv r U U' V V' h1 hal h2 h) ?_
  intro p e s m args below meth c s₁ X0 hexec hbytes hml hret hlk hnm hown hh0 W hP
  obtain ⟨rfl, hB⟩ := hP
  have hB0 := hB.mv X0.warmed.alike hh0
  have c1 : Steps p.tables e below (s₁.setTop (entryFrame m #[.ref d, .int (Int32.ofNat B.slots.size)] 2)) (s₁.setTop (mkF m 0 #[.val (.ref d), .val (.int (Int32.ofNat B.slots.size))] [])) := entry rfl
  have c2 : Steps p.tables e below (s₁.setTop (entryFrame m #[.ref d, .int (Int32.ofNat B.slots.size)] 2)) (s₁.setTop (mkF m 2 #[.val (.ref d), .val (.int (Int32.ofNat B.slots.size))] [.ref d, .int (Int32.ofNat B.slots.size)])) := c1.trans (by
    refine XS.iloadN X0.here hexec rfl (hb hbytes d0) rfl ?_
    refine XS.aloadN X0.here hexec rfl (hb hbytes d1) rfl rfl ?_
    exact Steps.refl _)
  have c3 : Steps p.tables e below (s₁.setTop (entryFrame m #[.ref d, .int (Int32.ofNat B.slots.size)] 2)) (s₁.setTop (mkF m 8 #[.val (.ref d), .val (.int (Int32.ofNat B.slots.size))] [.int (lo8 (ushr (Int32.ofNat B.slots.size - Int32.ofNat B.slots.size) 31))])) := c2.trans (by
    refine X0.alen hexec hB0 rfl rfl (hb hbytes d2) ?_
    refine XS.isub X0.here hexec rfl (hb hbytes d3) rfl ?_
    refine bipushV X0.here hexec rfl 31 (hb hbytes d4) (by decide) ?_
    refine iushr X0.here hexec rfl (hb hbytes d6) rfl ?_
    refine i2b X0.here hexec rfl (hb hbytes d7) rfl ?_
    exact Steps.refl _)
  have e0 : lo8 (ushr (Int32.ofNat B.slots.size - Int32.ofNat B.slots.size) 31) = 0 := by rw [Int32.sub_self]; decide
  rw [e0] at c3
  exact ⟨s₁, some (.int 0), _, _, _, X0, rfl, rfl, rfl, (fun h => by cases h), ⟨rfl, hh0⟩, fun fs hl => c3.trans (X0.ireturnOut hexec hret rfl (Or.inr (Or.inr (Or.inl rfl))) (hb hbytes d8) hl)⟩
end CodL
/-- the String at a is Latin-1 over a new byte[] (the heap's one new cell): the low bytes of the len chars of A from o on; every cell but a is kept -/
def Got (a : Addr) (D : Cell) (fV fC : Field) (A : Cell) (o len : Nat) (r : Option Value) (s u : State) : Prop := r = none ∧ ∃ D' V : Cell, Blank "java/lang/String" a D' u ∧ Same D D' [fV.slot, fC.slot] ∧ D'.slots[fV.slot]? = some (.ref s.heap.size) ∧ D'.slots[fC.slot]? = some (.int 0) ∧ Arr .byte s.heap.size V u ∧ V.vm = .none ∧ u.vm.findClass "[B" = some V.cls ∧ V.slots.size = len ∧ (∀ j, j < len → V.slots[j]? = some (.int (lo8 (cv A (o + j))))) ∧ (∀ (y : Addr) (c : Cell), y ≠ a → s.heap[y]? = some c → u.heap[y]? = some c) ∧ u.heap.size = s.heap.size + 1
theorem Got.mv {a : Addr} {D A : Cell} {fV fC : Field} {o len : Nat} : ∀ r (U U' V V' : State), U'.heap = U.heap → V.vm.Alike V'.vm → V'.heap = V.heap → Got a D fV fC A o len r U V → Got a D fV fC A o len r U' V' :=
  fun r U U' V V' h1 hal h2 ⟨e0, D', X, a1, a2, a3, a4, a5, a6, a7, a8, a9, a10, a11⟩ => ⟨e0, D', X, a1.mv hal h2, a2, by rw [h1]; exact a3, a4, by rw [h1]; exact a5.mv hal h2, a6, by rw [hal.findClass]; exact a7, a8, a9, by rw [h1, h2]; exact a10, by rw [h1, h2]; exact a11⟩
namespace New4
def yN : MethodName := ⟨"java/lang/String", "<init>", "([CIILjava/lang/Void;)V"⟩
abbrev yB : ByteArray := jdk_42_method_149_code
theorem d0 : decode yB 0 = .ok (.aload_n 0, 1) := by decide +kernel
theorem d1 : decode yB 1 = .ok (.invokespecial 1, 3) := by decide +kernel
theorem d4 : decode yB 4 = .ok (.iload_n 3, 1) := by decide +kernel
theorem d5 : decode yB 5 = .ok (.ifCond (.ne) 22, 3) := by decide +kernel
theorem d27 : decode yB 27 = .ok (.getstatic 38, 3) := by decide +kernel
theorem d30 : decode yB 30 = .ok (.ifCond (.eq) 28, 3) := by decide +kernel
theorem d33 : decode yB 33 = .ok (.aload_n 1, 1) := by decide +kernel
theorem d34 : decode yB 34 = .ok (.iload_n 2, 1) := by decide +kernel
theorem d35 : decode yB 35 = .ok (.iload_n 3, 1) := by decide +kernel
theorem d36 : decode yB 36 = .ok (.invokestatic 177, 3) := by decide +kernel
theorem d39 : decode yB 39 = .ok (.astore 5, 2) := by decide +kernel
theorem d41 : decode yB 41 = .ok (.aload_n 0, 1) := by decide +kernel
theorem d42 : decode yB 42 = .ok (.aload 5, 2) := by decide +kernel
theorem d44 : decode yB 44 = .ok (.iload_n 3, 1) := by decide +kernel
theorem d45 : decode yB 45 = .ok (.invokestatic 47, 3) := by decide +kernel
theorem d48 : decode yB 48 = .ok (.putfield 15, 3) := by decide +kernel
theorem d51 : decode yB 51 = .ok (.aload_n 0, 1) := by decide +kernel
theorem d52 : decode yB 52 = .ok (.aload 5, 2) := by decide +kernel
theorem d54 : decode yB 54 = .ok (.putfield 9, 3) := by decide +kernel
theorem d57 : decode yB 57 = .ok (.return_, 1) := by decide +kernel
def site : List Cond := [.fieldLink "java/lang/String" 38 "java/lang/String" "COMPACT_STRINGS" "Z", Cmp3.tab, CodL.tab, .laysFinal "java/lang/String" "java/lang/String" "value" "[B", .fieldLink "java/lang/String" 9 "java/lang/String" "value" "[B", .laysFinal "java/lang/String" "java/lang/String" "coder" "B", .fieldLink "java/lang/String" 15 "java/lang/String" "coder" "B"] ++ objW "java/lang/String" 1 ++ staticW "java/lang/String" 177 Cmp3.yN ++ staticW "java/lang/String" 47 CodL.yN
def tab : Cond := tabOf yN yB 6 none site
def P (a : Addr) (D : Cell) (fV fC : Field) (b : Addr) (A : Cell) (z : Int32) (o len : Nat) (args : Array Value) (s : State) : Prop := args = #[.ref a, .ref b, .int (Int32.ofNat o), .int (Int32.ofNat len), .null] ∧ Blank "java/lang/String" a D s ∧ Found "java/lang/String" "value" "[B" fV s ∧ Found "java/lang/String" "coder" "B" fC s ∧ Ch b A s ∧ StaticIs s "java/lang/String" "COMPACT_STRINGS" "Z" (.int z) ∧ ¬ z = 0 ∧ 0 < len ∧ o + len ≤ A.slots.size ∧ len ≤ 536870912 ∧ ∀ i, i < len → ¬ 255 < cv A (o + i)
def E (a : Addr) (D : Cell) (fV fC : Field) (A : Cell) (o len : Nat) (r : Option Value) (s u : State) : Prop := Got a D fV fC A o len r s u
/-- len > 0, no char of the range above 255: a Latin-1 String of their low bytes -/
theorem law (l : Launch) (a : Addr) (D : Cell) (fV fC : Field) (b : Addr) (A : Cell) (z : Int32) (o len : Nat) : Law l yN 5 4 2 35 yB 6 none site (P a D fV fC b A z o len) (E a D fV fC A o len) [⟨a, fC.slot⟩, ⟨a, fV.slot⟩] 1 len := by
  refine Law.of_walk (plainFor_of_name (by decide +kernel)) (by decide +kernel) (by decide +kernel) (by decide) (fun _ _ h => by rw [h.1]; rfl) (fun _ U U' hal hh h => ⟨h.1, h.2.1.mv hal hh, h.2.2.1.al hal, h.2.2.2.1.al hal, h.2.2.2.2.1.mv hal hh, h.2.2.2.2.2.1.there hal hh, h.2.2.2.2.2.2⟩) (fun r U U' V V' h1 hal h2 h => Got.mv r U U' V V' h1 hal h2 h) ?_
  intro p e s m args below meth c s₁ X0 hexec hbytes hml hret hlk hnm hown hh0 W hP
  obtain ⟨rfl, hB, f1, f2, hA, s1, hz, l0, l1, l2, hp⟩ := hP
  have a31 := hA.1.2.2.2
  have c1 : Steps p.tables e below (s₁.setTop (entryFrame m #[.ref a, .ref b, .int (Int32.ofNat o), .int (Int32.ofNat len), .null] 6)) (s₁.setTop (mkF m 0 #[.val (.ref a), .val (.ref b), .val (.int (Int32.ofNat o)), .val (.int (Int32.ofNat len)), .val .null, .unset] [])) := entry rfl
  have c2 : Steps p.tables e below (s₁.setTop (entryFrame m #[.ref a, .ref b, .int (Int32.ofNat o), .int (Int32.ofNat len), .null] 6)) (s₁.setTop (mkF m 1 #[.val (.ref a), .val (.ref b), .val (.int (Int32.ofNat o)), .val (.int (Int32.ofNat len)), .val .null, .unset] [.ref a])) := c1.trans (by
    refine XS.aloadN X0.here hexec rfl (hb hbytes d0) rfl rfl ?_
    exact Steps.refl _)
  obtain ⟨T3, X3, q3, st3⟩ := X0.oinit hexec hown (wks W (objW "java/lang/String" 1)) (g := (mkF m 1 #[.val (.ref a), .val (.ref b), .val (.int (Int32.ofNat o)), .val (.int (Int32.ofNat len)), .val .null, .unset] [.ref a])) rfl (by rw [hml]; rfl) (rest := []) rfl (hb hbytes d1) (W := 0) (by show 2 * 0 + 0 ≤ _; decide) (Nat.le_of_ble_eq_true rfl) (Nat.le_of_ble_eq_true rfl)
  have hh3 := q3.trans hh0
  have c4 : Steps p.tables e below (s₁.setTop (entryFrame m #[.ref a, .ref b, .int (Int32.ofNat o), .int (Int32.ofNat len), .null] 6)) (T3.setTop (mkF m 27 #[.val (.ref a), .val (.ref b), .val (.int (Int32.ofNat o)), .val (.int (Int32.ofNat len)), .val .null, .unset] [])) := (c2.trans (st3 _ (Steps.refl _))).trans (by
    refine XS.iloadN X3.here hexec rfl (hb hbytes d4) rfl ?_
    refine XS.ifYes X3.here hexec rfl (pc0 := 5) rfl (hb hbytes d5) rfl (i0_ne_t (nz32 (by omega) l0)) (by decide) rfl ?_
    exact Steps.refl _)
  obtain ⟨T5, X5, q5, st5⟩ := X3.sget hexec hown (wk W (.fieldLink "java/lang/String" 38 "java/lang/String" "COMPACT_STRINGS" "Z")) s1 (fun _ _ h => by rw [hh3]; exact h) (g := (mkF m 27 #[.val (.ref a), .val (.ref b), .val (.int (Int32.ofNat o)), .val (.int (Int32.ofNat len)), .val .null, .unset] [])) rfl (hb hbytes d27)
  have hh5 := q5.trans hh3
  have c6 : Steps p.tables e below (s₁.setTop (entryFrame m #[.ref a, .ref b, .int (Int32.ofNat o), .int (Int32.ofNat len), .null] 6)) (T5.setTop (mkF m 30 #[.val (.ref a), .val (.ref b), .val (.int (Int32.ofNat o)), .val (.int (Int32.ofNat len)), .val .null, .unset] [.int z])) := c4.trans (st5 _ (Steps.refl _))
  have c7 : Steps p.tables e below (s₁.setTop (entryFrame m #[.ref a, .ref b, .int (Int32.ofNat o), .int (Int32.ofNat len), .null] 6)) (T5.setTop (mkF m 36 #[.val (.ref a), .val (.ref b), .val (.int (Int32.ofNat o)), .val (.int (Int32.ofNat len)), .val .null, .unset] [.int (Int32.ofNat len), .int (Int32.ofNat o), .ref b])) := c6.trans (by
    refine XS.ifNo X5.here hexec rfl (hb hbytes d30) rfl (i0_eq_f hz) ?_
    refine XS.aloadN X5.here hexec rfl (hb hbytes d33) rfl rfl ?_
    refine XS.iloadN X5.here hexec rfl (hb hbytes d34) rfl ?_
    refine XS.iloadN X5.here hexec rfl (hb hbytes d35) rfl ?_
    exact Steps.refl _)
  obtain ⟨v8, T8, X8, E8, g8⟩ := X5.callS hexec (Cmp3.law l b A o len) hown (wks W (staticW "java/lang/String" 177 Cmp3.yN)) (wk W Cmp3.tab) (W := 0) (Nat.le_of_ble_eq_true rfl) (Nat.le_of_ble_eq_true rfl) (Nat.le_refl _) (by show 0 + len ≤ len; omega) (g := (mkF m 36 #[.val (.ref a), .val (.ref b), .val (.int (Int32.ofNat o)), .val (.int (Int32.ofNat len)), .val .null, .unset] [.int (Int32.ofNat len), .int (Int32.ofNat o), .ref b])) rfl (by rw [hml]; rfl) c7 (argsL := [.ref b, .int (Int32.ofNat o), .int (Int32.ofNat len)]) (rest := []) rfl rfl (by show 2 * 0 + 0 ≤ _; decide) (hb hbytes d36) (⟨rfl, hA.mv X5.warmed.alike hh5, l1, l2, hp⟩)
  obtain ⟨e8, z8⟩ := E8
  obtain ⟨rfl, N, n1, n2, n3, n4, n5, n6⟩ := NewArr.mv _ T5 s _ _ hh5.symm (Vm.Alike.refl _) rfl e8
  rw [hh5] at z8
  have hB1 := hB.keep X8.warmed.alike (n6 _ _ hB.1)
  have hne : s.heap.size ≠ a := (Nat.ne_of_lt (Array.getElem?_eq_some_iff.mp hB.1).1).symm
  have c9 : Steps p.tables e below (s₁.setTop (entryFrame m #[.ref a, .ref b, .int (Int32.ofNat o), .int (Int32.ofNat len), .null] 6)) (T8.setTop (mkF m 39 #[.val (.ref a), .val (.ref b), .val (.int (Int32.ofNat o)), .val (.int (Int32.ofNat len)), .val .null, .unset] [.ref s.heap.size])) := g8
  have c10 : Steps p.tables e below (s₁.setTop (entryFrame m #[.ref a, .ref b, .int (Int32.ofNat o), .int (Int32.ofNat len), .null] 6)) (T8.setTop (mkF m 45 #[.val (.ref a), .val (.ref b), .val (.int (Int32.ofNat o)), .val (.int (Int32.ofNat len)), .val .null, .val (.ref s.heap.size)] [.int (Int32.ofNat N.slots.size), .ref s.heap.size, .ref a])) := by
    have hc : Steps p.tables e below (s₁.setTop (entryFrame m #[.ref a, .ref b, .int (Int32.ofNat o), .int (Int32.ofNat len), .null] 6)) (T8.setTop (mkF m 45 #[.val (.ref a), .val (.ref b), .val (.int (Int32.ofNat o)), .val (.int (Int32.ofNat len)), .val .null, .val (.ref s.heap.size)] [.int (Int32.ofNat len), .ref s.heap.size, .ref a])) := c9.trans (by
      refine XS.astore X8.here hexec rfl (hb hbytes d39) rfl rfl rfl ?_
      refine XS.aloadN X8.here hexec rfl (hb hbytes d41) rfl rfl ?_
      refine XS.aload X8.here hexec rfl (hb hbytes d42) rfl rfl ?_
      refine XS.iloadN X8.here hexec rfl (hb hbytes d44) rfl ?_
      exact Steps.refl _)
    rw [n4]; exact hc
  obtain ⟨v11, T11, X11, E11, g11⟩ := X8.callS hexec (CodL.law l s.heap.size N) hown (wks W (staticW "java/lang/String" 47 CodL.yN)) (wk W CodL.tab) (W := 1) (Nat.le_of_ble_eq_true rfl) (Nat.le_of_ble_eq_true rfl) (Nat.le_refl _) (by show 0 + len + 0 ≤ len; omega) (g := (mkF m 45 #[.val (.ref a), .val (.ref b), .val (.int (Int32.ofNat o)), .val (.int (Int32.ofNat len)), .val .null, .val (.ref s.heap.size)] [.int (Int32.ofNat N.slots.size), .ref s.heap.size, .ref a])) rfl (by rw [hml]; rfl) c10 (argsL := [.ref s.heap.size, .int (Int32.ofNat N.slots.size)]) (rest := [.ref a]) rfl rfl (by show 2 * 0 + (1 + 0) ≤ _; decide) (hb hbytes d45) (⟨rfl, n1⟩)
  obtain ⟨rfl, q11⟩ := E11
  have hB11 := hB1.mv (X8.warmed.alike.symm.trans X11.warmed.alike) q11
  have c12 : Steps p.tables e below (s₁.setTop (entryFrame m #[.ref a, .ref b, .int (Int32.ofNat o), .int (Int32.ofNat len), .null] 6)) (T11.setTop (mkF m 48 #[.val (.ref a), .val (.ref b), .val (.int (Int32.ofNat o)), .val (.int (Int32.ofNat len)), .val .null, .val (.ref s.heap.size)] [.int 0, .ref a])) := g11
  obtain ⟨T13, X13, p13, bl13, sl13, st13⟩ := X11.finit hexec hown (wk W (.fieldLink "java/lang/String" 15 "java/lang/String" "coder" "B")) (Or.inr ⟨_, (wk W (.laysFinal "java/lang/String" "java/lang/String" "coder" "B"))⟩) (Or.inl ⟨rfl, hnm⟩) f2 (Or.inl rfl) hB11 (t := .byte) (by decide +kernel) rfl (g := (mkF m 48 #[.val (.ref a), .val (.ref b), .val (.int (Int32.ofNat o)), .val (.int (Int32.ofNat len)), .val .null, .val (.ref s.heap.size)] [.int 0, .ref a])) rfl (rest := []) rfl (hb hbytes d48)
  have c14 : Steps p.tables e below (s₁.setTop (entryFrame m #[.ref a, .ref b, .int (Int32.ofNat o), .int (Int32.ofNat len), .null] 6)) (T13.setTop (mkF m 54 #[.val (.ref a), .val (.ref b), .val (.int (Int32.ofNat o)), .val (.int (Int32.ofNat len)), .val .null, .val (.ref s.heap.size)] [.ref s.heap.size, .ref a])) := (c12.trans (st13 _ (Steps.refl _))).trans (by
    refine XS.aloadN X13.here hexec rfl (hb hbytes d51) rfl rfl ?_
    refine XS.aload X13.here hexec rfl (hb hbytes d52) rfl rfl ?_
    exact Steps.refl _)
  obtain ⟨T15, X15, p15, bl15, sl15, st15⟩ := X13.finit hexec hown (wk W (.fieldLink "java/lang/String" 9 "java/lang/String" "value" "[B")) (Or.inr ⟨_, (wk W (.laysFinal "java/lang/String" "java/lang/String" "value" "[B"))⟩) (Or.inl ⟨rfl, hnm⟩) f1 (Or.inl rfl) bl13 (t := (.array .byte)) (by decide +kernel) rfl (g := (mkF m 54 #[.val (.ref a), .val (.ref b), .val (.int (Int32.ofNat o)), .val (.int (Int32.ofNat len)), .val .null, .val (.ref s.heap.size)] [.ref s.heap.size, .ref a])) rfl (rest := []) rfl (hb hbytes d54)
  have c16 : Steps p.tables e below (s₁.setTop (entryFrame m #[.ref a, .ref b, .int (Int32.ofNat o), .int (Int32.ofNat len), .null] 6)) (T15.setTop (mkF m 57 #[.val (.ref a), .val (.ref b), .val (.int (Int32.ofNat o)), .val (.int (Int32.ofNat len)), .val .null, .val (.ref s.heap.size)] [])) := c14.trans (st15 _ (Steps.refl _))
  have ap := apart (Or.inr ⟨_, (wk W (.laysFinal "java/lang/String" "java/lang/String" "value" "[B"))⟩) (Or.inr ⟨_, (wk W (.laysFinal "java/lang/String" "java/lang/String" "coder" "B"))⟩) f1 f2 (t₁ := .array .byte) (t₂ := .byte) (by decide +kernel) (by decide +kernel) (by decide)
  have al := X8.warmed.alike.symm.trans X15.warmed.alike
  have n7 : T11.heap[s.heap.size]? = some N := by rw [q11]; exact n1.1
  exact ⟨T15, none, _, _, _, X15, by simp, rfl, by omega, (fun _ => rfl), ⟨rfl, _, N, bl15, ((Same.refl D _).set _ (by simp)).set _ (by simp), sl15, (Cell.slots_setSlot_ne _ ap).trans sl13, n1.keep al (p15.other hne (p13.other hne n7)), n2, by rw [al.findClass]; exact n3, n4, n5, fun y c h1 h2 => p15.other h1 (p13.other h1 (by rw [q11]; exact n6 y c h2)), by rw [p15.2.2, p13.2.2, q11]; exact z8⟩, fun fs hl => c16.trans (X15.returnOut hexec hret (hb hbytes d57) hl)⟩
end New4
namespace New1
def yN : MethodName := ⟨"java/lang/String", "<init>", "([C)V"⟩
abbrev yB : ByteArray := jdk_42_method_3_code
theorem d0 : decode yB 0 = .ok (.aload_n 0, 1) := by decide +kernel
theorem d1 : decode yB 1 = .ok (.aload_n 1, 1) := by decide +kernel
theorem d2 : decode yB 2 = .ok (.iconst 0, 1) := by decide +kernel
theorem d3 : decode yB 3 = .ok (.aload_n 1, 1) := by decide +kernel
theorem d4 : decode yB 4 = .ok (.arraylength, 1) := by decide +kernel
theorem d5 : decode yB 5 = .ok (.aconst_null, 1) := by decide +kernel
theorem d6 : decode yB 6 = .ok (.invokespecial 27, 3) := by decide +kernel
theorem d9 : decode yB 9 = .ok (.return_, 1) := by decide +kernel
def site : List Cond := [New4.tab] ++ initW "java/lang/String" 27 New4.yN
def tab : Cond := tabOf yN yB 2 none site
def P (a : Addr) (D : Cell) (fV fC : Field) (b : Addr) (A : Cell) (z : Int32) (args : Array Value) (s : State) : Prop := args = #[.ref a, .ref b] ∧ Blank "java/lang/String" a D s ∧ Found "java/lang/String" "value" "[B" fV s ∧ Found "java/lang/String" "coder" "B" fC s ∧ Ch b A s ∧ StaticIs s "java/lang/String" "COMPACT_STRINGS" "Z" (.int z) ∧ ¬ z = 0 ∧ 0 < A.slots.size ∧ A.slots.size ≤ 536870912 ∧ ∀ i, i < A.slots.size → ¬ 255 < cv A i
def E (a : Addr) (D : Cell) (fV fC : Field) (A : Cell) (r : Option Value) (s u : State) : Prop := Got a D fV fC A 0 A.slots.size r s u
/-- new String(chars), not empty, no char above 255: a Latin-1 String of their low bytes -/
theorem law (l : Launch) (a : Addr) (D : Cell) (fV fC : Field) (b : Addr) (A : Cell) (z : Int32) : Law l yN 2 1 3 52 yB 2 none site (P a D fV fC b A z) (E a D fV fC A) [⟨a, fC.slot⟩, ⟨a, fV.slot⟩] 1 A.slots.size := by
  refine Law.of_walk (plainFor_of_name (by decide +kernel)) (by decide +kernel) (by decide +kernel) (by decide) (fun _ _ h => by rw [h.1]; rfl) (fun _ U U' hal hh h => ⟨h.1, h.2.1.mv hal hh, h.2.2.1.al hal, h.2.2.2.1.al hal, h.2.2.2.2.1.mv hal hh, h.2.2.2.2.2.1.there hal hh, h.2.2.2.2.2.2⟩) (fun r U U' V V' h1 hal h2 h => Got.mv r U U' V V' h1 hal h2 h) ?_
  intro p e s m args below meth c s₁ X0 hexec hbytes hml hret hlk hnm hown hh0 W hP
  obtain ⟨rfl, hB, f1, f2, hA, s1, hz, l0, l2, hp⟩ := hP
  have c1 : Steps p.tables e below (s₁.setTop (entryFrame m #[.ref a, .ref b] 2)) (s₁.setTop (mkF m 0 #[.val (.ref a), .val (.ref b)] [])) := entry rfl
  have c2 : Steps p.tables e below (s₁.setTop (entryFrame m #[.ref a, .ref b] 2)) (s₁.setTop (mkF m 6 #[.val (.ref a), .val (.ref b)] [.null, .int (Int32.ofNat A.slots.size), .int 0, .ref b, .ref a])) := c1.trans (by
    refine XS.aloadN X0.here hexec rfl (hb hbytes d0) rfl rfl ?_
    refine XS.aloadN X0.here hexec rfl (hb hbytes d1) rfl rfl ?_
    refine iconstV X0.here hexec rfl 0 (hb hbytes d2) (by decide) ?_
    refine XS.aloadN X0.here hexec rfl (hb hbytes d3) rfl rfl ?_
    refine X0.alen hexec (hA.1.mv X0.warmed.alike hh0) rfl rfl (hb hbytes d4) ?_
    refine XS.aconstNull X0.here hexec rfl (hb hbytes d5) ?_
    exact Steps.refl _)
  obtain ⟨v3, T3, X3, E3, g3⟩ := X0.callN hexec (New4.law l a D fV fC b A z 0 A.slots.size) rfl hown (wks W (initW "java/lang/String" 27 New4.yN)) (W New4.tab (by simp only [site, List.mem_cons, List.mem_append, true_or, or_true])) (W := 0) (Nat.le_of_ble_eq_true rfl) (Nat.le_of_ble_eq_true rfl) (Nat.le_refl _) (by show 0 + A.slots.size ≤ A.slots.size; omega) (g := (mkF m 6 #[.val (.ref a), .val (.ref b)] [.null, .int (Int32.ofNat A.slots.size), .int (Int32.ofNat 0), .ref b, .ref a])) rfl (by rw [hml]; rfl) c2 (argsL := [.ref b, .int (Int32.ofNat 0), .int (Int32.ofNat A.slots.size), .null]) (rest := []) rfl rfl (by show 2 * 0 + 0 ≤ _; decide) (hb hbytes d6) (⟨rfl, hB.mv X0.warmed.alike hh0, f1.al X0.warmed.alike, f2.al X0.warmed.alike, hA.mv X0.warmed.alike hh0, s1.there X0.warmed.alike hh0, hz, l0, by omega, l2, fun i hi => by rw [Nat.zero_add]; exact hp i hi⟩)
  have e0 := Got.mv _ s₁ s _ _ hh0.symm (Vm.Alike.refl _) rfl E3
  obtain rfl := e0.1
  have c4 : Steps p.tables e below (s₁.setTop (entryFrame m #[.ref a, .ref b] 2)) (T3.setTop (mkF m 9 #[.val (.ref a), .val (.ref b)] [])) := g3
  exact ⟨T3, none, _, _, _, X3, by simp, rfl, by omega, (fun _ => rfl), e0, fun fs hl => c4.trans (X3.returnOut hexec hret (hb hbytes d9) hl)⟩
theorem pays {l : Launch} {R : Room} {p : Program} {e : Env} {below : List Frame} {s : State} {sargs : Array Value} {len W : Nat} (a : Addr) (D : Cell) (fV fC : Field) (b : Addr) (A : Cell) (z : Int32) (htab : tab.before sargs s = true) (hfr : 4 ≤ R.frames) (hlo : W + 65 ≤ R.locals) :
    Back l R p e below s sargs yN len W (fun A₁ a₁ => A₁.cells + 1 ≤ R.cells ∧ A₁.slots + A.slots.size ≤ R.slots ∧ P a D fV fC b A z a₁ A₁.U) (fun A₁ _ v₁ B₁ => E a D fV fC A v₁ A₁.U B₁.U ∧ B₁.locs = A₁.locs ++ [⟨a, fC.slot⟩, ⟨a, fV.slot⟩] ∧ B₁.cells = A₁.cells + 1 ∧ B₁.slots = A₁.slots + A.slots.size) :=
  (law l a D fV fC b A z).pays htab hfr (by omega)
end New1
/-- the byte, read back as charAt reads it, is the char -/
theorem lo8_mask {x : Int32} (h0 : ¬ x < 0) (h1 : ¬ 255 < x) : lo8 x &&& 255 = x := by
  have t : ∀ k : Fin 256, lo8 (Int32.ofNat k.val) &&& 255 = Int32.ofNat k.val := by decide +kernel
  rw [Int32.lt_iff_toInt_lt] at h0 h1
  have e0 : (0 : Int32).toInt = 0 := rfl
  have e1 : (255 : Int32).toInt = 255 := rfl
  obtain ⟨k, hk⟩ : ∃ k : Nat, x.toInt = k := ⟨x.toInt.toNat, by omega⟩
  have hx : x = Int32.ofNat k := Int32.toInt_inj.mp (by rw [hk, Int32.toInt_ofNat_small (by omega)])
  rw [hx]
  exact t ⟨k, by omega⟩
end StrChars
namespace StrChars.Road
open Jvm Sem ClassFile Op Lib Jvm.Stand Jvm.Free Jvm.Free.XT
open Jvm.Lib.Cold (StaticIs)
abbrev ST : String := "java/lang/String"
/-- every table word that New1's law asks, flat -/
abbrev words : List Jvm.Cond := [.code New1.yN New1.yB 2 none, .initialized ST, .methodLink ST 27 New4.yN, .instanceMethod New4.yN,
  .code New4.yN New4.yB 6 none, .fieldLink ST 38 ST "COMPACT_STRINGS" "Z", .laysFinal ST ST "value" "[B", .fieldLink ST 9 ST "value" "[B", .laysFinal ST ST "coder" "B", .fieldLink ST 15 ST "coder" "B",
  .methodLink ST 1 Lib.objectInit, .instanceMethod Lib.objectInit, .code Lib.objectInit ⟨#[0xb1]⟩ 1 none, .methodLink ST 177 Cmp3.yN, .static Cmp3.yN, .methodLink ST 47 CodL.yN, .static CodL.yN,
  .code Cmp3.yN Cmp3.yB 6 (some (.array .byte)), .initialized U16, .arrayClass .byte, .methodLink U16 115 Cmp5.yN, .static Cmp5.yN, .code Cmp5.yN Cmp5.yB 7 (some .int), .code CodL.yN CodL.yB 2 (some .byte)]
theorem tab_of {a : Array Value} {s : State} (h : ∀ w ∈ words, w.before a s = true) : New1.tab.before a s = true := by
  have h5 : Cmp5.tab.before a s = true := unparts (wk h (.code Cmp5.yN Cmp5.yB 7 (some .int))) (wks h (.initialized Cmp5.yN.cls :: Cmp5.site))
  have hc : CodL.tab.before a s = true := unparts (wk h (.code CodL.yN CodL.yB 2 (some .byte))) (wks h (.initialized CodL.yN.cls :: CodL.site))
  have q5 : ∀ w ∈ Cmp5.tab :: words, w.before a s = true := fun w hw => (List.mem_cons.mp hw).elim (fun e => e ▸ h5) (h w)
  have h3 : Cmp3.tab.before a s = true := unparts (wk q5 (.code Cmp3.yN Cmp3.yB 6 (some (.array .byte)))) (wks q5 (.initialized Cmp3.yN.cls :: Cmp3.site))
  have q3 : ∀ w ∈ Cmp3.tab :: CodL.tab :: words, w.before a s = true := fun w hw => (List.mem_cons.mp hw).elim (fun e => e ▸ h3) fun hw => (List.mem_cons.mp hw).elim (fun e => e ▸ hc) (h w)
  have h4 : New4.tab.before a s = true := unparts (wk q3 (.code New4.yN New4.yB 6 none)) (wks q3 (.initialized New4.yN.cls :: New4.site))
  have q4 : ∀ w ∈ New4.tab :: words, w.before a s = true := fun w hw => (List.mem_cons.mp hw).elim (fun e => e ▸ h4) (h w)
  exact unparts (wk q4 (.code New1.yN New1.yB 2 none)) (wks q4 (.initialized New1.yN.cls :: New1.site))
/-- the words ride from the start Z to the walk's own state -/
theorem moved {Z s : State} {a0 args : Array Value} (hZ : Z.Warmed39 s.vm) (hw : ∀ d ∈ words, d.before a0 Z = true) : ∀ d ∈ words, d.before args s = true := fun d hd => by
  have q := hw d hd
  have t : ∀ d ∈ words, d = .arrayClass .byte ∨ (d.onTables && d.keepsFace) = true := by decide +kernel
  rcases t d hd with rfl | t
  · exact RoadKit.mvA hZ q
  · exact RoadKit.mv hZ q t
/-- WHAT COMES BACK, over the tables of the start Z: h the heap at the call, h' behind it -/
def Q (Z : State) (x : Addr) (A : Cell) (h : Heap) (v : Option Value) (h' : Heap) (L : List Loc) : Prop := v = none ∧ (∀ y ∈ L, y.base = x) ∧ RoadKit.Keep h h' [x] ∧ h'.size = h.size + 1 ∧ RoadKit.Exa Z h' x ST ∧ RoadKit.Fld Z h' x ST "value" "[B" (.ref h.size) ∧ RoadKit.Fld Z h' x ST "coder" "B" (.int 0) ∧
  (∃ V : Cell, RoadKit.Arr Z h' h.size V .byte ∧ V.vm = .none ∧ Z.vm.findClass "[B" = some V.cls ∧ V.slots.size = A.slots.size ∧ ∀ j, j < A.slots.size → V.slots[j]? = some (.int (lo8 (cv A j)))) ∧
  ∀ (O n d : String) (w : Value), RoadKit.Fld Z h x O n d w → RoadKit.slotOf Z O n d ≠ RoadKit.slotOf Z ST "value" "[B" → RoadKit.slotOf Z O n d ≠ RoadKit.slotOf Z ST "coder" "B" → RoadKit.Fld Z h' x O n d w
/-- **new String(chars) AT A CALL, IN THE ROAD'S FORM**: for specialBack behind newO: x the fresh String, b the char[] with the cell A -/
theorem back {p : Program} {l : Launch} {e : Env} {R : Room} {s : State} {args : Array Value} {below : List Frame} {len W : Nat} {Z : State} {a0 : Array Value} {h : Heap} (hZ : Z.Warmed39 s.vm) (hw : ∀ d ∈ words, d.before a0 Z = true) {kI : Nat} (wi : (Jvm.Cond.instantiable ST kI).before a0 Z = true)
    {x b : Addr} {A : Cell} {z : Int32} {v0 c0 : Value} (E : RoadKit.Exa Z h x ST) (V : RoadKit.Fld Z h x ST "value" "[B" v0) (C : RoadKit.Fld Z h x ST "coder" "B" c0) (K : RoadKit.Arr Z h b A .char) (hty : Typed .char A) (S : RoadKit.Sta Z h ST "COMPACT_STRINGS" "Z" (.int z)) (hz : ¬ z = 0)
    (l0 : 0 < A.slots.size) (l2 : A.slots.size ≤ 536870912) (hp : ∀ i, i < A.slots.size → ¬ 255 < cv A i) (hfr : 4 ≤ R.frames) (hlo : W + 65 ≤ R.locals) :
    Back l R p e below s args New1.yN len W (fun P a => a = #[.ref x, .ref b] ∧ P.U.heap = h ∧ P.cells + 1 ≤ R.cells ∧ P.slots + A.slots.size ≤ R.slots)
      (fun P _ v B => ∃ L, Q Z x A h v B.U.heap L ∧ B.locs = P.locs ++ L ∧ B.cells = P.cells + 1 ∧ B.slots = P.slots + A.slots.size) := by
  intro m meth c P g ig mk a X hg hsize hdg hW hn hp'
  obtain ⟨rfl, rfl, r1, r2⟩ := hp'
  have al : Z.vm.Alike P.U.vm := hZ.alike.trans X.warmed.alike
  obtain ⟨D, cfV, kV, iV, fV, hD, gV, stV, knV, obV, asV, slV⟩ := id V
  obtain ⟨D', cfC, kC, iC, fC, hD', gC, stC, -, -, asC, slC⟩ := id C
  cases hD.symm.trans hD'
  obtain ⟨D2, kD, e1, e2, e3, e4, e5⟩ := id E
  cases hD.symm.trans e1
  obtain ⟨c2, k2, i1, i2, i3, -⟩ := Cond.instantiable_spec wi
  cases e2.symm.trans i1
  cases e3.symm.trans i2
  obtain ⟨kU, u1, u2⟩ := al.2.2 _ _ e3
  have hB : Blank ST x D P.U := ⟨hD, ⟨knV, fun q hq => by rw [hq] at obV; cases obV⟩, by rw [al.findClass]; exact e2, kU, u1, by rw [u2]; exact i3, by rw [u2]; exact e5 i3⟩
  have F1 : Found ST "value" "[B" fV P.U := ⟨SBG.found_only al ⟨cfV, kV, iV, gV⟩, stV⟩
  have F2 : Found ST "coder" "B" fC P.U := ⟨SBG.found_only al ⟨cfC, kC, iC, gC⟩, stC⟩
  have hA : Ch b A P.U := ⟨⟨K.1, State.isArrayOf_alike al K.2.1, K.2.2, by omega⟩, hty⟩
  have hS : StaticIs P.U ST "COMPACT_STRINGS" "Z" (.int z) := by
    obtain ⟨cfS, iS, kS, fS, st, cS, t1, t2, t3, t4, t5, t6, t7⟩ := S
    exact StaticIs.there (s := { Z with heap := P.U.heap }) ⟨cfS, iS, kS, fS, st, cS, t1, t2, t3, t4, t5, (fun q => by rw [q] at t6; cases t6), t7⟩ al rfl
  obtain ⟨v, B, X', ⟨⟨hv, E', V', q1, q2, q3, q4, q5, q6, q7, q8, q9, q10, q11⟩, hl, hc, hs⟩, st⟩ := New1.pays x D fV fC b A z (tab_of (moved hZ hw)) hfr hlo m meth c P g ig mk _ X hg hsize hdg hW hn ⟨r1, r2, rfl, hB, F1, F2, hA, hS, hz, l0, l2, hp⟩
  have al' : Z.vm.Alike B.U.vm := hZ.alike.trans X'.warmed.alike
  have hsz : E'.slots.size = D.slots.size := by
    obtain ⟨-, -, -, kB, w1, w2, w3⟩ := q1
    obtain ⟨kB', y1, y2⟩ := al'.2.2 _ _ e3
    rw [q2.2.1] at w1
    cases w1.symm.trans y1
    rw [w3, e5 i3, y2]
  refine ⟨v, B, X', ⟨_, ⟨hv, ?_, ⟨by omega, fun y cy hy hn' => q10 y cy (by simpa using hn') hy, fun y cy hy => ?_⟩, q11, ⟨E', _, q1.1, by rw [q2.2.1]; exact e2, by rw [q2.2.1]; exact e3, by rw [q2.1]; exact obV, fun _ => by rw [hsz]; exact e5 i3⟩,
    ⟨E', cfV, kV, iV, fV, q1.1, gV, stV, by rw [q2.1]; exact knV, by rw [q2.1]; exact obV, by rw [q2.2.1]; exact asV, q3⟩, ⟨E', cfC, kC, iC, fC, q1.1, gC, stC, by rw [q2.1]; exact knV, by rw [q2.1]; exact obV, by rw [q2.2.1]; exact asC, q4⟩,
    ⟨V', ⟨q5.1, State.isArrayOf_alike al'.symm q5.2.1, q5.2.2.1⟩, q6, by rw [← al'.findClass]; exact q7, q8, fun j hj => by have := q9 j hj; rwa [Nat.zero_add] at this⟩, fun O n d w F n1 n2 => ?_⟩, hl, hc, hs⟩, st⟩
  · intro y hy
    simp only [List.mem_cons, List.not_mem_nil, or_false] at hy
    rcases hy with rfl | rfl <;> rfl
  · by_cases q : y = x
    · subst q
      cases hD.symm.trans hy
      exact ⟨E', q1.1, q2.2.1, q2.1, hsz⟩
    · exact ⟨cy, q10 y cy q hy, rfl, rfl, rfl⟩
  · obtain ⟨D3, cf, k, i, f, g1, g2, g3, g4, g5, g6, g7⟩ := F
    cases hD.symm.trans g1
    simp only [RoadKit.slotOf, g2, gV, gC, Option.map_some, Option.getD_some] at n1 n2
    exact ⟨E', cf, k, i, f, q1.1, g2, g3, by rw [q2.1]; exact g4, by rw [q2.1]; exact g5, by rw [q2.2.1]; exact g6, by rw [q2.2.2 f.slot (by simp [n1, n2])]; exact g7⟩
end StrChars.Road
namespace StrChars.Road
open Jvm Sem ClassFile Op Lib Jvm.Stand Jvm.Free Jvm.Free.XT
/-- WHAT COMES BACK, the byte[] as a list of values -/
def QA (Z : State) (x : Addr) (zn : Int32) (cs : List Int32) (h : Heap) (v : Option Value) (h' : Heap) (L : List Loc) : Prop := v = none ∧ (∀ y ∈ L, y.base = x) ∧ RoadKit.Keep h h' [x] ∧ h'.size = h.size + 1 ∧ RoadKit.Exa Z h' x ST ∧ RoadKit.Fld Z h' x ST "value" "[B" (.ref h.size) ∧ RoadKit.Fld Z h' x ST "coder" "B" (.int 0) ∧
  (∃ kb, Z.vm.findClass "[B" = some kb ∧ RoadKit.Arv Z h' h.size kb .byte zn (cs.map fun c => .int (lo8 c)) (.int 0)) ∧
  ∀ (O n d : String) (w : Value), RoadKit.Fld Z h x O n d w → RoadKit.slotOf Z O n d ≠ RoadKit.slotOf Z ST "value" "[B" → RoadKit.slotOf Z O n d ≠ RoadKit.slotOf Z ST "coder" "B" → RoadKit.Fld Z h' x O n d w
/-- **new String(chars) AT A CALL, THE ARRAYS AS LISTS**: the char[] at b holds cs, not empty, no char above 255 -/
theorem backArv {p : Program} {l : Launch} {e : Env} {R : Room} {s : State} {args : Array Value} {below : List Frame} {len W : Nat} {Z : State} {a0 : Array Value} {h : Heap} (hZ : Z.Warmed39 s.vm) (hw : ∀ d ∈ words, d.before a0 Z = true) {kI : Nat} (wi : (Jvm.Cond.instantiable ST kI).before a0 Z = true)
    {x b : Addr} {k : ClassId} {zn z : Int32} {cs : List Int32} {dv v0 c0 : Value} (E : RoadKit.Exa Z h x ST) (V : RoadKit.Fld Z h x ST "value" "[B" v0) (C : RoadKit.Fld Z h x ST "coder" "B" c0) (K : RoadKit.Arv Z h b k .char zn (cs.map Value.int) dv) (S : RoadKit.Sta Z h ST "COMPACT_STRINGS" "Z" (.int z)) (hz : ¬ z = 0)
    (hlen : zn.toNatClampNeg = cs.length) (h0 : 0 < cs.length) (hbig : cs.length ≤ 536870912) (hall : ∀ c ∈ cs, ¬ 255 < c) (hfr : 4 ≤ R.frames) (hlo : W + 65 ≤ R.locals) :
    Back l R p e below s args New1.yN len W (fun P a => a = #[.ref x, .ref b] ∧ P.U.heap = h ∧ P.cells + 1 ≤ R.cells ∧ P.slots + cs.length ≤ R.slots)
      (fun P _ v B => ∃ L, QA Z x zn cs h v B.U.heap L ∧ B.locs = P.locs ++ L ∧ B.cells = P.cells + 1 ∧ B.slots = P.slots + cs.length) := by
  obtain ⟨A, K1, K2, K3, K4, K5, K6⟩ := K
  have e : A.slots.size = cs.length := K3.trans hlen
  have hat : ∀ (i : Nat) (hi : i < cs.length), A.slots[i]? = some (.int cs[i]) := fun i hi => by rw [K5 i (by omega)]; simp [List.getD_eq_getElem?_getD, hi]
  have hcv : ∀ (i : Nat) (hi : i < cs.length), cv A i = cs[i] := fun i hi => by unfold cv; rw [hat i hi]
  have hty : Typed .char A := fun i v hv => by
    have hi : i < A.slots.size := (Array.getElem?_eq_some_iff.mp hv).1
    have q := K5 i hi
    rw [hv] at q
    rw [Option.some.inj q]
    exact K6 i hi
  refine Back.mono (back hZ hw wi E V C K1 hty S hz (by omega) (by omega) (fun i hi => by rw [hcv i (by omega)]; exact hall _ (List.getElem_mem _)) hfr hlo) (fun P a hp => ⟨hp.1, hp.2.1, hp.2.2.1, by rw [e]; exact hp.2.2.2⟩) (fun P a v B hp hq => ?_)
  obtain ⟨L, ⟨q1, q2, q3, q4, q5, q6, q7, ⟨V', v1, v2, v3, v4, v5⟩, q9⟩, hl, hc, hs⟩ := hq
  refine ⟨L, ⟨q1, q2, q3, q4, q5, q6, q7, ⟨V'.cls, v3, V', v1, rfl, by rw [v4, e, hlen], K4, fun i hi => ?_, fun i hi => ?_⟩, q9⟩, hl, hc, by rw [hs, e]⟩
  · have hi' : i < cs.length := by omega
    rw [v5 i (by omega), hcv i hi']; simp [List.getD_eq_getElem?_getD, hi']
  · have hi' : i < cs.length := by omega
    simp only [List.getD_eq_getElem?_getD, List.getElem?_map, List.getElem?_eq_getElem hi', Option.map_some, Option.getD_some]
    exact fits_lo8 _
end StrChars.Road
namespace StrChars.Road
open Jvm Sem ClassFile Op Lib Jvm.Stand Jvm.Free Jvm.Free.XT
/-- WHAT COMES BACK, in the writer's own shape -/
def QV (Z : State) (x : Addr) (N : Int32) (bs : List Int32) (h : Heap) (n0 : Nat) (v : Option Value) (h' : Heap) (L : List Loc) : Prop := v = none ∧ RoadKit.Fr n0 L ∧ RoadKit.Keep h h' [x] ∧ RoadKit.Exa Z h' x ST ∧ RoadKit.Fld Z h' x ST "coder" "B" (.int 0) ∧
  ∃ (t : Addr) (kb : ClassId), n0 ≤ t ∧ h.size ≤ t ∧ ¬ t = x ∧ RoadKit.Fld Z h' x ST "value" "[B" (.ref t) ∧ RoadKit.Arv Z h' t kb .byte N (bs.map Value.int) (.int 0)
/-- **new String(chars) AT A CALL, FOR THE WRITER**: a char[] of n known ints, each 0 to 255 -/
theorem backV {p : Program} {l : Launch} {e : Env} {R : Room} {s : State} {args : Array Value} {below : List Frame} {len W : Nat} {Z : State} {a0 : Array Value} {h : Heap} (hZ : Z.Warmed39 s.vm) (hw : ∀ d ∈ words, d.before a0 Z = true) {kI : Nat} (wi : (Jvm.Cond.instantiable ST kI).before a0 Z = true)
    {x b : Addr} {kC : ClassId} {cs bs : List Int32} {d v0 c0 : Value} {z N : Int32} {n n0 : Nat} (hx0 : n0 ≤ x) (hh0 : n0 ≤ h.size) (E : RoadKit.Exa Z h x ST) (V : RoadKit.Fld Z h x ST "value" "[B" v0) (C : RoadKit.Fld Z h x ST "coder" "B" c0) (K : RoadKit.Arv Z h b kC .char N (cs.map Value.int) d) (S : RoadKit.Sta Z h ST "COMPACT_STRINGS" "Z" (.int z)) (hz : ¬ z = 0)
    (hn : cs.length = n) (hN : N = Int32.ofNat n) (l0 : 0 < n) (l2 : n ≤ 4000) (hp : ∀ c ∈ cs, ¬ c < 0 ∧ ¬ (255 : Int32) < c) (hb : bs = cs.map (fun c => c.toInt8.toInt32)) (hfr : 4 ≤ R.frames) (hlo : W + 65 ≤ R.locals) :
    Back l R p e below s args (⟨"java/lang/String", "<init>", "([C)V"⟩ : MethodName) len W (fun P a => a = #[.ref x, .ref b] ∧ P.U.heap = h ∧ P.cells + 1 ≤ R.cells ∧ P.slots + n ≤ R.slots)
      (fun P _ v B => ∃ L, QV Z x N bs h n0 v B.U.heap L ∧ B.locs = P.locs ++ L ∧ B.cells = P.cells + 1 ∧ B.slots = P.slots + n) := by
  subst hn hN hb
  refine Back.mono (backArv hZ hw wi E V C K S hz (n32 (by omega)) l0 (by omega) (fun c hc => (hp c hc).2) hfr hlo) (fun P a hp => hp) (fun P a v B hp hq => ?_)
  obtain ⟨L, ⟨q1, q2, q3, q4, q5, q6, q7, ⟨kb, v1, v2⟩, q9⟩, hl, hc, hs⟩ := hq
  exact ⟨L, ⟨q1, fun y hy => by rw [q2 y hy]; exact hx0, q3, q5, q7, h.size, kb, hh0, Nat.le_refl _, Nat.ne_of_gt E.lt, q6, by rw [List.map_map]; exact v2⟩, hl, hc, hs⟩
end StrChars.Road
namespace StrChars
open Jvm Sem ClassFile Op Lib Jvm.Stand Jvm.Free.XT Jvm.Free.ALB Jvm.Free.JM Jvm.Free
open Jvm.Lib.Cold (StaticIs)
def hi8 (x : Int32) : Int32 := lo8 (x >>> ((8 : Int32) &&& 31))
/-- what StringUTF16.getChar makes of two bytes -/
def pairCh (u v : Int32) : Int32 := (((u &&& 255) <<< ((0 : Int32) &&& 31)) ||| ((v &&& 255) <<< ((8 : Int32) &&& 31))).toUInt32.toUInt16.toUInt32.toInt32
theorem shr0 (c : Int32) : c >>> ((0 : Int32) &&& 31) = c := by
  have e : ((0 : Int32) &&& 31) = 0 := by decide
  rw [e]
  apply Int32.toBitVec_inj.mp
  rw [Int32.toBitVec_shiftRight]
  have e1 : ((0 : Int32).toBitVec.smod 32) = 0#32 := by decide
  rw [e1, BitVec.sshiftRight_eq']
  exact BitVec.sshiftRight_zero
theorem lo8_and (x : Int32) : (lo8 x &&& 255).toBitVec.toNat = x.toBitVec.toNat % 256 := by
  have h : (lo8 x).toBitVec = (x.toBitVec.signExtend 8).signExtend 32 := by rw [lo8, Int8.toBitVec_toInt32, Int32.toBitVec_toInt8]
  rw [Int32.toBitVec_and, BitVec.toNat_and, h]
  have e : ((x.toBitVec.signExtend 8).signExtend 32).toNat % 256 = x.toBitVec.toNat % 256 := by
    rw [BitVec.toNat_signExtend]
    have hlt := x.toBitVec.isLt
    simp only [BitVec.toNat_setWidth, BitVec.toNat_signExtend]
    split <;> split <;> omega
  rw [← e]
  exact Nat.and_two_pow_sub_one_eq_mod _ 8
theorem pair_says {c : Int32} (h0 : ¬ c < 0) (h1 : ¬ 65535 < c) : pairCh (lo8 c) (hi8 c) = c := by
  rw [Int32.lt_iff_toInt_lt] at h0 h1
  have e0 : (0 : Int32).toInt = 0 := rfl
  have e1 : (65535 : Int32).toInt = 65535 := rfl
  have hc : c.toInt = c.toBitVec.toNat := by
    have := c.toBitVec.isLt
    have e : c.toInt = c.toBitVec.toInt := rfl
    rw [e] at h0 h1
    rw [e]
    rw [BitVec.toInt_eq_toNat_cond] at h0 h1 ⊢
    split at h0 <;> split <;> omega
  have hn : c.toBitVec.toNat < 65536 := by omega
  have a1 := lo8_and c
  have a2 : (hi8 c &&& 255).toBitVec.toNat = c.toBitVec.toNat / 256 := by
    rw [hi8, lo8_and]
    have e : ((8 : Int32) &&& 31) = 8 := by decide
    rw [e, Int32.toBitVec_shiftRight]
    have e2 : ((8 : Int32).toBitVec.smod 32) = 8#32 := by decide
    rw [e2, BitVec.sshiftRight_eq', BitVec.toNat_sshiftRight_of_msb_false (by rw [BitVec.msb_eq_false_iff_two_mul_lt]; omega)]
    show c.toBitVec.toNat >>> 8 % 256 = _
    rw [Nat.shiftRight_eq_div_pow]
    omega
  unfold pairCh
  apply Int32.toBitVec_inj.mp
  apply BitVec.eq_of_toNat_eq
  have f0 : ((0 : Int32) &&& 31) = 0 := by decide
  have f8 : ((8 : Int32) &&& 31) = 8 := by decide
  rw [f0, f8]
  have g : (((lo8 c &&& 255) <<< (0 : Int32)) ||| ((hi8 c &&& 255) <<< (8 : Int32))).toBitVec.toNat = c.toBitVec.toNat := by
    rw [Int32.toBitVec_or, Int32.toBitVec_shiftLeft, Int32.toBitVec_shiftLeft]
    have s0 : ((0 : Int32).toBitVec.smod 32) = 0#32 := by decide
    have s8 : ((8 : Int32).toBitVec.smod 32) = 8#32 := by decide
    rw [s0, s8, BitVec.toNat_or]
    simp only [BitVec.shiftLeft_eq', BitVec.toNat_shiftLeft, a1, a2]
    show (c.toBitVec.toNat % 256) <<< 0 % 2 ^ 32 ||| (c.toBitVec.toNat / 256) <<< 8 % 2 ^ 32 = _
    rw [Nat.shiftLeft_zero, Nat.mod_eq_of_lt (show c.toBitVec.toNat % 256 < 2 ^ 32 by omega), Nat.mod_eq_of_lt (show (c.toBitVec.toNat / 256) <<< 8 < 2 ^ 32 by rw [Nat.shiftLeft_eq]; omega), Nat.or_comm, ← Nat.shiftLeft_add_eq_or_of_lt (by omega), Nat.shiftLeft_eq]
    omega
  show BitVec.toNat (((((lo8 c &&& 255) <<< (0 : Int32)) ||| ((hi8 c &&& 255) <<< (8 : Int32))).toBitVec.setWidth 16).setWidth 32) = _
  rw [BitVec.toNat_setWidth, BitVec.toNat_setWidth, g]
  omega
end StrChars
namespace StrChars
open Jvm Sem ClassFile Op Lib Jvm.Stand Jvm.Free.XT Jvm.Free.ALB Jvm.Free.JM Jvm.Free
open Jvm.Lib.Cold (StaticIs)
theorem shr1 {n : Nat} (h : 2 * n < 2 ^ 31) : Int32.ofNat (2 * n) >>> ((1 : Int32) &&& 31) = Int32.ofNat n := by
  have e : ((1 : Int32) &&& 31) = 1 := by decide
  rw [e]
  apply Int32.toBitVec_inj.mp
  rw [Int32.toBitVec_shiftRight]
  have e1 : ((1 : Int32).toBitVec.smod 32) = 1#32 := by decide
  have hm : (BitVec.ofNat 32 (2 * n)).toNat = 2 * n := by rw [BitVec.toNat_ofNat, Nat.mod_eq_of_lt (by omega)]
  rw [e1, BitVec.sshiftRight_eq']
  apply BitVec.eq_of_toNat_eq
  show ((BitVec.ofNat 32 (2 * n)).sshiftRight 1).toNat = (BitVec.ofNat 32 n).toNat
  rw [BitVec.toNat_sshiftRight_of_msb_false (by rw [BitVec.msb_eq_false_iff_two_mul_lt, hm]; omega), hm, BitVec.toNat_ofNat, Nat.shiftRight_eq_div_pow]
  omega
/-- charAt's cast of a byte read back -/
def chr8 (u : Int32) : Int32 := (u &&& 255).toUInt32.toUInt16.toUInt32.toInt32
theorem chr8_lo8 {c : Int32} (h0 : ¬ c < 0) (h1 : ¬ 255 < c) : chr8 (lo8 c) = c := by
  have t : ∀ k : Fin 256, (Int32.ofNat k.val).toUInt32.toUInt16.toUInt32.toInt32 = Int32.ofNat k.val := by decide +kernel
  unfold chr8
  rw [lo8_mask h0 h1]
  rw [Int32.lt_iff_toInt_lt] at h0 h1
  have e0 : (0 : Int32).toInt = 0 := rfl
  have e1 : (255 : Int32).toInt = 255 := rfl
  obtain ⟨k, hk⟩ : ∃ k : Nat, c.toInt = k := ⟨c.toInt.toNat, by omega⟩
  have hx : c = Int32.ofNat k := Int32.toInt_inj.mp (by rw [hk, Int32.toInt_ofNat_small (by omega)])
  rw [hx]
  exact t ⟨k, by omega⟩
theorem narrow_ch {c : Int32} (h0 : ¬ c < 0) (h1 : ¬ 65535 < c) : narrow .char (.int c) = .int c := by
  have q : narrow .char (.int (pairCh (lo8 c) (hi8 c))) = .int (pairCh (lo8 c) (hi8 c)) := narrow_c _
  rwa [pair_says h0 h1] at q
/-- the array's cell V codes the n chars f 0 .. f (n - 1) by the coder cd, as the JDK does: coder 1 just where some char is above 255 -/
def Cod (cd : Int32) (n : Nat) (f : Nat → Int32) (V : Cell) : Prop := (cd = 0 ∧ V.slots.size = n ∧ ∀ j, j < n → V.slots[j]? = some (.int (lo8 (f j))) ∧ ¬ 255 < f j) ∨ (cd = 1 ∧ V.slots.size = 2 * n ∧ (∀ j, j < n → V.slots[2 * j]? = some (.int (lo8 (f j))) ∧ V.slots[2 * j + 1]? = some (.int (hi8 (f j)))) ∧ ∃ j, j < n ∧ 255 < f j)
theorem Cod.cd {cd : Int32} {n : Nat} {f : Nat → Int32} {V : Cell} (h : Cod cd n f V) : cd = 0 ∨ cd = 1 := h.imp (fun q => q.1) fun q => q.1
theorem Cod.len {cd : Int32} {n : Nat} {f : Nat → Int32} {V : Cell} (h : Cod cd n f V) (hs : V.slots.size < 2 ^ 31) : Int32.ofNat V.slots.size >>> (cd &&& 31) = Int32.ofNat n := by
  rcases h with ⟨rfl, h, -⟩ | ⟨rfl, h, -⟩
  · rw [shr0, h]
  · rw [h, shr1 (by omega)]
/-- **x is a String of the n chars f 0 .. f (n - 1)**, Latin-1 or UTF-16; its array at t has the cell V -/
def Txt (x t : Addr) (V : Cell) (cd : Int32) (n : Nat) (f : Nat → Int32) (U : State) : Prop := Exact "java/lang/String" x U ∧ Has x "java/lang/String" "value" "[B" (.ref t) U ∧ Has x "java/lang/String" "coder" "B" (.int cd) U ∧ XT.Arr .byte t V U ∧ Cod cd n f V ∧ ∀ j, j < n → ¬ f j < 0 ∧ ¬ 65535 < f j
theorem Txt.mv {x t : Addr} {V : Cell} {cd : Int32} {n : Nat} {f : Nat → Int32} {U U' : State} (h : Txt x t V cd n f U) (hal : U.vm.Alike U'.vm) (hh : U'.heap = U.heap) : Txt x t V cd n f U' := ⟨h.1.mv hal hh, h.2.1.mv hal hh, h.2.2.1.mv hal hh, h.2.2.2.1.mv hal hh, h.2.2.2.2⟩
namespace Cdr
def yN : MethodName := ⟨"java/lang/String", "coder", "()B"⟩
abbrev yB : ByteArray := jdk_42_method_152_code
theorem d0 : decode yB 0 = .ok (.getstatic 38, 3) := by decide +kernel
theorem d3 : decode yB 3 = .ok (.ifCond (.eq) 10, 3) := by decide +kernel
theorem d6 : decode yB 6 = .ok (.aload_n 0, 1) := by decide +kernel
theorem d7 : decode yB 7 = .ok (.getfield 15, 3) := by decide +kernel
theorem d10 : decode yB 10 = .ok (.goto 4, 3) := by decide +kernel
theorem d14 : decode yB 14 = .ok (.ireturn, 1) := by decide +kernel
def site : List Cond := [.fieldLink "java/lang/String" 38 "java/lang/String" "COMPACT_STRINGS" "Z", .fieldLink "java/lang/String" 15 "java/lang/String" "coder" "B"]
def tab : Cond := tabOf yN yB 1 (some .byte) site
def P (x : Addr) (cd z : Int32) (args : Array Value) (s : State) : Prop := args = #[.ref x] ∧ Has x "java/lang/String" "coder" "B" (.int cd) s ∧ (cd = 0 ∨ cd = 1) ∧ StaticIs s "java/lang/String" "COMPACT_STRINGS" "Z" (.int z) ∧ ¬ z = 0
def E (cd : Int32) (r : Option Value) (s u : State) : Prop := XT.PureE (some (.int cd)) r s u
theorem law (l : Launch) (x : Addr) (cd z : Int32) : Law l yN 1 0 0 0 yB 1 (some .byte) site (P x cd z) (E cd) [] 0 0 := by
  refine Law.of_walk (plainFor_of_name (by decide +kernel)) (by decide +kernel) (by decide +kernel) (by decide) (fun _ _ h => by rw [h.1]; rfl) (fun _ U U' hal hh h => ⟨h.1, h.2.1.mv hal hh, h.2.2.1, h.2.2.2.1.there hal hh, h.2.2.2.2⟩) (fun r U U' V V' h1 hal h2 h => XT.PureE.mv r U U' V V' h1 hal h2 h) ?_
  intro p e s m args below meth c s₁ X0 hexec hbytes hml hret hlk hnm hown hh0 W hP
  obtain ⟨rfl, hx, hc, s1, hz⟩ := hP
  have c1 : Steps p.tables e below (s₁.setTop (entryFrame m #[.ref x] 1)) (s₁.setTop (mkF m 0 #[.val (.ref x)] [])) := entry rfl
  obtain ⟨T2, X2, q2, st2⟩ := X0.sget hexec hown (wk W (.fieldLink "java/lang/String" 38 "java/lang/String" "COMPACT_STRINGS" "Z")) s1 (fun _ _ h => by rw [hh0]; exact h) (g := (mkF m 0 #[.val (.ref x)] [])) rfl (hb hbytes d0)
  have hh2 := q2.trans hh0
  have c3 : Steps p.tables e below (s₁.setTop (entryFrame m #[.ref x] 1)) (T2.setTop (mkF m 7 #[.val (.ref x)] [.ref x])) := (c1.trans (st2 _ (Steps.refl _))).trans (by
    refine XS.ifNo X2.here hexec rfl (hb hbytes d3) rfl (i0_eq_f hz) ?_
    refine XS.aloadN X2.here hexec rfl (hb hbytes d6) rfl rfl ?_
    exact Steps.refl _)
  obtain ⟨T4, X4, q4, st4⟩ := X2.hget hexec hown (wk W (.fieldLink "java/lang/String" 15 "java/lang/String" "coder" "B")) (hx.mv X2.warmed.alike hh2) (g := (mkF m 7 #[.val (.ref x)] [.ref x])) rfl (rest := []) rfl (hb hbytes d7)
  have c5 : Steps p.tables e below (s₁.setTop (entryFrame m #[.ref x] 1)) (T4.setTop (mkF m 14 #[.val (.ref x)] [.int cd])) := (c3.trans (st4 _ (Steps.refl _))).trans (by
    refine XS.goto X4.here hexec rfl (pc0 := 10) rfl (hb hbytes d10) (by decide) rfl ?_
    exact Steps.refl _)
  exact ⟨T4, some (.int cd), _, _, _, X4, rfl, rfl, rfl, (fun h => by cases h), ⟨rfl, q4.trans hh2⟩, fun fs hl => c5.trans (X4.ireturnOut hexec hret (by rcases hc with rfl | rfl <;> rfl) (Or.inr (Or.inr (Or.inl rfl))) (hb hbytes d14) hl)⟩
end Cdr
namespace Len
def yN : MethodName := ⟨"java/lang/String", "length", "()I"⟩
abbrev yB : ByteArray := jdk_42_method_54_code
theorem d0 : decode yB 0 = .ok (.aload_n 0, 1) := by decide +kernel
theorem d1 : decode yB 1 = .ok (.getfield 9, 3) := by decide +kernel
theorem d4 : decode yB 4 = .ok (.arraylength, 1) := by decide +kernel
theorem d5 : decode yB 5 = .ok (.aload_n 0, 1) := by decide +kernel
theorem d6 : decode yB 6 = .ok (.invokevirtual 335, 3) := by decide +kernel
theorem d9 : decode yB 9 = .ok (.ishr, 1) := by decide +kernel
theorem d10 : decode yB 10 = .ok (.ireturn, 1) := by decide +kernel
def site : List Cond := [.fieldLink "java/lang/String" 9 "java/lang/String" "value" "[B", Cdr.tab] ++ virtW "java/lang/String" 335 "java/lang/String" Cdr.yN Cdr.yN
def tab : Cond := tabOf yN yB 1 (some .int) site
def P (x t : Addr) (V : Cell) (cd : Int32) (n : Nat) (f : Nat → Int32) (z : Int32) (args : Array Value) (s : State) : Prop := args = #[.ref x] ∧ Txt x t V cd n f s ∧ StaticIs s "java/lang/String" "COMPACT_STRINGS" "Z" (.int z) ∧ ¬ z = 0
def E (n : Nat) (r : Option Value) (s u : State) : Prop := XT.PureE (some (.int (Int32.ofNat n))) r s u
/-- length() of a String of n chars, in either coding -/
theorem law (l : Launch) (x t : Addr) (V : Cell) (cd : Int32) (n : Nat) (f : Nat → Int32) (z : Int32) : Law l yN 1 0 1 13 yB 1 (some .int) site (P x t V cd n f z) (E n) [] 0 0 := by
  refine Law.of_walk (plainFor_of_name (by decide +kernel)) (by decide +kernel) (by decide +kernel) (by decide) (fun _ _ h => by rw [h.1]; rfl) (fun _ U U' hal hh h => ⟨h.1, h.2.1.mv hal hh, h.2.2.1.there hal hh, h.2.2.2⟩) (fun r U U' V V' h1 hal h2 h => XT.PureE.mv r U U' V V' h1 hal h2 h) ?_
  intro p e s m args below meth c s₁ X0 hexec hbytes hml hret hlk hnm hown hh0 W hP
  obtain ⟨rfl, hx, s1, hz⟩ := hP
  have v31 := hx.2.2.2.1.2.2.2
  have c1 : Steps p.tables e below (s₁.setTop (entryFrame m #[.ref x] 1)) (s₁.setTop (mkF m 1 #[.val (.ref x)] [.ref x])) := Steps.trans (entry rfl) (by
    show Steps p.tables e below (s₁.setTop (mkF m 0 #[.val (.ref x)] [])) _
    refine XS.aloadN X0.here hexec rfl (hb hbytes d0) rfl rfl ?_
    exact Steps.refl _)
  obtain ⟨T2, X2, q2, st2⟩ := X0.hget hexec hown (wk W (.fieldLink "java/lang/String" 9 "java/lang/String" "value" "[B")) (hx.mv X0.warmed.alike hh0).2.1 (g := (mkF m 1 #[.val (.ref x)] [.ref x])) rfl (rest := []) rfl (hb hbytes d1)
  have hh2 := q2.trans hh0
  have hx2 := hx.mv X2.warmed.alike hh2
  have c3 : Steps p.tables e below (s₁.setTop (entryFrame m #[.ref x] 1)) (T2.setTop (mkF m 6 #[.val (.ref x)] [.ref x, .int (Int32.ofNat V.slots.size)])) := (c1.trans (st2 _ (Steps.refl _))).trans (by
    refine X2.alen hexec hx2.2.2.2.1 rfl rfl (hb hbytes d4) ?_
    refine XS.aloadN X2.here hexec rfl (hb hbytes d5) rfl rfl ?_
    exact Steps.refl _)
  obtain ⟨v4, T4, X4, E4, g4⟩ := X2.callV hexec (Cdr.law l x cd z) hown (wks W (virtW "java/lang/String" 335 "java/lang/String" Cdr.yN Cdr.yN)) rfl (by decide) (wk W Cdr.tab) (W := 1) (Nat.le_of_ble_eq_true rfl) (Nat.le_of_ble_eq_true rfl) (Nat.le_refl _) (Nat.le_refl _) (hx2.1.fc X2.warmed.alike) hx2.1.is (g := (mkF m 6 #[.val (.ref x)] [.ref x, .int (Int32.ofNat V.slots.size)])) rfl (by rw [hml]; rfl) c3 (argsL := []) (rest := [.int (Int32.ofNat V.slots.size)]) rfl rfl (by show 2 * 0 + (1 + 0) ≤ _; decide) (hb hbytes d6) (⟨rfl, hx2.2.2.1, hx.2.2.2.2.1.cd, s1.there X2.warmed.alike hh2, hz⟩)
  obtain ⟨rfl, q4⟩ := E4
  have c5 : Steps p.tables e below (s₁.setTop (entryFrame m #[.ref x] 1)) (T4.setTop (mkF m 10 #[.val (.ref x)] [.int (Int32.ofNat V.slots.size >>> (cd &&& 31))])) := Steps.trans g4 (by
    refine ishr X4.here hexec rfl (hb hbytes d9) rfl ?_
    exact Steps.refl _)
  rw [hx.2.2.2.2.1.len v31] at c5
  exact ⟨T4, some (.int (Int32.ofNat n)), _, _, _, X4, rfl, rfl, rfl, (fun h => by cases h), ⟨rfl, q4.trans hh2⟩, fun fs hl => c5.trans (X4.ireturnOut hexec hret rfl (Or.inl rfl) (hb hbytes d10) hl)⟩
theorem pays {l : Launch} {R : Room} {p : Program} {e : Env} {below : List Frame} {s : State} {sargs : Array Value} {len W : Nat} (x t : Addr) (V : Cell) (cd : Int32) (n : Nat) (f : Nat → Int32) (z : Int32) (htab : tab.before sargs s = true) (hfr : 2 ≤ R.frames) (hlo : W + 25 ≤ R.locals) :
    Back l R p e below s sargs yN len W (fun A₁ a₁ => A₁.cells + 0 ≤ R.cells ∧ A₁.slots + 0 ≤ R.slots ∧ P x t V cd n f z a₁ A₁.U) (fun A₁ _ v₁ B₁ => E n v₁ A₁.U B₁.U ∧ B₁.locs = A₁.locs ++ [] ∧ B₁.cells = A₁.cells + 0 ∧ B₁.slots = A₁.slots + 0) :=
  (law l x t V cd n f z).pays htab hfr (by omega)
end Len
namespace IsL
def yN : MethodName := ⟨"java/lang/String", "isLatin1", "()Z"⟩
abbrev yB : ByteArray := jdk_42_method_154_code
theorem d0 : decode yB 0 = .ok (.getstatic 38, 3) := by decide +kernel
theorem d3 : decode yB 3 = .ok (.ifCond (.eq) 14, 3) := by decide +kernel
theorem d6 : decode yB 6 = .ok (.aload_n 0, 1) := by decide +kernel
theorem d7 : decode yB 7 = .ok (.getfield 15, 3) := by decide +kernel
theorem d10 : decode yB 10 = .ok (.ifCond (.ne) 7, 3) := by decide +kernel
theorem d13 : decode yB 13 = .ok (.iconst 1, 1) := by decide +kernel
theorem d14 : decode yB 14 = .ok (.goto 4, 3) := by decide +kernel
theorem d17 : decode yB 17 = .ok (.iconst 0, 1) := by decide +kernel
theorem d18 : decode yB 18 = .ok (.ireturn, 1) := by decide +kernel
def site : List Cond := [.fieldLink "java/lang/String" 38 "java/lang/String" "COMPACT_STRINGS" "Z", .fieldLink "java/lang/String" 15 "java/lang/String" "coder" "B"]
def tab : Cond := tabOf yN yB 1 (some .boolean) site
def P (x : Addr) (cd z : Int32) (args : Array Value) (s : State) : Prop := args = #[.ref x] ∧ Has x "java/lang/String" "coder" "B" (.int cd) s ∧ (cd = 0 ∨ cd = 1) ∧ StaticIs s "java/lang/String" "COMPACT_STRINGS" "Z" (.int z) ∧ ¬ z = 0
def E (cd : Int32) (r : Option Value) (s u : State) : Prop := XT.PureE (some (.int (1 - cd))) r s u
theorem law (l : Launch) (x : Addr) (cd z : Int32) : Law l yN 1 0 0 0 yB 1 (some .boolean) site (P x cd z) (E cd) [] 0 0 := by
  refine Law.of_walk (plainFor_of_name (by decide +kernel)) (by decide +kernel) (by decide +kernel) (by decide) (fun _ _ h => by rw [h.1]; rfl) (fun _ U U' hal hh h => ⟨h.1, h.2.1.mv hal hh, h.2.2.1, h.2.2.2.1.there hal hh, h.2.2.2.2⟩) (fun r U U' V V' h1 hal h2 h => XT.PureE.mv r U U' V V' h1 hal h2 h) ?_
  intro p e s m args below meth c s₁ X0 hexec hbytes hml hret hlk hnm hown hh0 W hP
  obtain ⟨rfl, hx, hc, s1, hz⟩ := hP
  have c1 : Steps p.tables e below (s₁.setTop (entryFrame m #[.ref x] 1)) (s₁.setTop (mkF m 0 #[.val (.ref x)] [])) := entry rfl
  obtain ⟨T2, X2, q2, st2⟩ := X0.sget hexec hown (wk W (.fieldLink "java/lang/String" 38 "java/lang/String" "COMPACT_STRINGS" "Z")) s1 (fun _ _ h => by rw [hh0]; exact h) (g := (mkF m 0 #[.val (.ref x)] [])) rfl (hb hbytes d0)
  have hh2 := q2.trans hh0
  have c3 : Steps p.tables e below (s₁.setTop (entryFrame m #[.ref x] 1)) (T2.setTop (mkF m 7 #[.val (.ref x)] [.ref x])) := (c1.trans (st2 _ (Steps.refl _))).trans (by
    refine XS.ifNo X2.here hexec rfl (hb hbytes d3) rfl (i0_eq_f hz) ?_
    refine XS.aloadN X2.here hexec rfl (hb hbytes d6) rfl rfl ?_
    exact Steps.refl _)
  obtain ⟨T4, X4, q4, st4⟩ := X2.hget hexec hown (wk W (.fieldLink "java/lang/String" 15 "java/lang/String" "coder" "B")) (hx.mv X2.warmed.alike hh2) (g := (mkF m 7 #[.val (.ref x)] [.ref x])) rfl (rest := []) rfl (hb hbytes d7)
  have c5 : Steps p.tables e below (s₁.setTop (entryFrame m #[.ref x] 1)) (T4.setTop (mkF m 10 #[.val (.ref x)] [.int cd])) := c3.trans (st4 _ (Steps.refl _))
  have c6 : Steps p.tables e below (s₁.setTop (entryFrame m #[.ref x] 1)) (T4.setTop (mkF m 18 #[.val (.ref x)] [.int (1 - cd)])) := by
    rcases hc with rfl | rfl
    · exact c5.trans (by
        refine XS.ifNo X4.here hexec rfl (hb hbytes d10) rfl (i0_ne_f rfl) ?_
        refine iconstV X4.here hexec rfl 1 (hb hbytes d13) (by decide) ?_
        refine XS.goto X4.here hexec rfl (pc0 := 14) rfl (hb hbytes d14) (by decide) rfl ?_
        exact Steps.refl _)
    · exact c5.trans (by
        refine XS.ifYes X4.here hexec rfl (pc0 := 10) rfl (hb hbytes d10) rfl (i0_ne_t (by decide)) (by decide) rfl ?_
        refine iconstV X4.here hexec rfl 0 (hb hbytes d17) (by decide) ?_
        exact Steps.refl _)
  exact ⟨T4, some (.int (1 - cd)), _, _, _, X4, rfl, rfl, rfl, (fun h => by cases h), ⟨rfl, q4.trans hh2⟩, fun fs hl => c6.trans (X4.ireturnOut hexec hret (by rcases hc with rfl | rfl <;> rfl) (Or.inr (Or.inl rfl)) (hb hbytes d18) hl)⟩
end IsL
namespace LChA
def yN : MethodName := ⟨"java/lang/StringLatin1", "charAt", "([BI)C"⟩
abbrev yB : ByteArray := jdk_43_method_2_code
theorem d0 : decode yB 0 = .ok (.iload_n 1, 1) := by decide +kernel
theorem d1 : decode yB 1 = .ok (.aload_n 0, 1) := by decide +kernel
theorem d2 : decode yB 2 = .ok (.arraylength, 1) := by decide +kernel
theorem d3 : decode yB 3 = .ok (.invokestatic 9, 3) := by decide +kernel
theorem d6 : decode yB 6 = .ok (.aload_n 0, 1) := by decide +kernel
theorem d7 : decode yB 7 = .ok (.iload_n 1, 1) := by decide +kernel
theorem d8 : decode yB 8 = .ok (.baload, 1) := by decide +kernel
theorem d9 : decode yB 9 = .ok (.sipush 255, 3) := by decide +kernel
theorem d12 : decode yB 12 = .ok (.iand, 1) := by decide +kernel
theorem d13 : decode yB 13 = .ok (.i2c, 1) := by decide +kernel
theorem d14 : decode yB 14 = .ok (.ireturn, 1) := by decide +kernel
def site : List Cond := [JO.Str_checkIndex.tab] ++ staticW "java/lang/StringLatin1" 9 JO.Str_checkIndex.yN
def tab : Cond := tabOf yN yB 2 (some .char) site
def P (t : Addr) (V : Cell) (i : Nat) (u : Int32) (fm : Value) (args : Array Value) (s : State) : Prop := args = #[.ref t, .int (Int32.ofNat i)] ∧ XT.Arr .byte t V s ∧ V.slots[i]? = some (.int u) ∧ (StaticIs s "jdk/internal/util/Preconditions" "SIOOBE_FORMATTER" "Ljava/util/function/BiFunction;" fm ∧ fm.isRef = true)
def E (u : Int32) (r : Option Value) (s w : State) : Prop := XT.PureE (some (.int (chr8 u))) r s w
theorem law (l : Launch) (t : Addr) (V : Cell) (i : Nat) (u : Int32) (fm : Value) : Law l yN 2 2 2 27 yB 2 (some .char) site (P t V i u fm) (E u) [] 0 0 := by
  refine Law.of_walk (plainFor_of_name (by decide +kernel)) (by decide +kernel) (by decide +kernel) (by decide) (fun _ _ h => by rw [h.1]; rfl) (fun _ U U' hal hh h => ⟨h.1, h.2.1.mv hal hh, h.2.2.1, h.2.2.2.1.there hal hh, h.2.2.2.2⟩) (fun r U U' V V' h1 hal h2 h => XT.PureE.mv r U U' V V' h1 hal h2 h) ?_
  intro p e s m args below meth c s₁ X0 hexec hbytes hml hret hlk hnm hown hh0 W hP
  obtain ⟨rfl, hV, hu, s1, rf⟩ := hP
  have v31 := hV.2.2.2
  have hi : i < V.slots.size := (Array.getElem?_eq_some_iff.mp hu).1
  have c1 : Steps p.tables e below (s₁.setTop (entryFrame m #[.ref t, .int (Int32.ofNat i)] 2)) (s₁.setTop (mkF m 0 #[.val (.ref t), .val (.int (Int32.ofNat i))] [])) := entry rfl
  have c2 : Steps p.tables e below (s₁.setTop (entryFrame m #[.ref t, .int (Int32.ofNat i)] 2)) (s₁.setTop (mkF m 3 #[.val (.ref t), .val (.int (Int32.ofNat i))] [.int (Int32.ofNat V.slots.size), .int (Int32.ofNat i)])) := c1.trans (by
    refine XS.iloadN X0.here hexec rfl (hb hbytes d0) rfl ?_
    refine XS.aloadN X0.here hexec rfl (hb hbytes d1) rfl rfl ?_
    refine X0.alen hexec (hV.mv X0.warmed.alike hh0) rfl rfl (hb hbytes d2) ?_
    exact Steps.refl _)
  obtain ⟨v3, T3, X3, E3, g3⟩ := X0.callS hexec (JO.Str_checkIndex.law l (Int32.ofNat i) (Int32.ofNat V.slots.size) fm) hown (wks W (staticW "java/lang/StringLatin1" 9 JO.Str_checkIndex.yN)) (wk W JO.Str_checkIndex.tab) (W := 0) (Nat.le_of_ble_eq_true rfl) (Nat.le_of_ble_eq_true rfl) (Nat.le_refl _) (Nat.le_refl _) (g := (mkF m 3 #[.val (.ref t), .val (.int (Int32.ofNat i))] [.int (Int32.ofNat V.slots.size), .int (Int32.ofNat i)])) rfl (by rw [hml]; rfl) c2 (argsL := [.int (Int32.ofNat i), .int (Int32.ofNat V.slots.size)]) (rest := []) rfl rfl (by show 2 * 0 + 0 ≤ _; decide) (hb hbytes d3) (⟨rfl, rf, s1.there X0.warmed.alike hh0, Int32.ofNat_not_neg (by omega), lt32 v31 hi⟩)
  obtain ⟨rfl, q3⟩ := E3
  have hh3 := q3.trans hh0
  have c4 : Steps p.tables e below (s₁.setTop (entryFrame m #[.ref t, .int (Int32.ofNat i)] 2)) (T3.setTop (mkF m 14 #[.val (.ref t), .val (.int (Int32.ofNat i))] [.int (chr8 u)])) := Steps.trans g3 (by
    refine XS.aloadN X3.here hexec rfl (hb hbytes d6) rfl rfl ?_
    refine XS.iloadN X3.here hexec rfl (hb hbytes d7) rfl ?_
    refine X3.aget hexec (hV.mv X3.warmed.alike hh3) rfl hu rfl rfl (hb hbytes d8) ?_
    refine sipushV X3.here hexec rfl 255 (hb hbytes d9) (by decide) ?_
    refine XS.iand X3.here hexec rfl (hb hbytes d12) rfl ?_
    refine i2c X3.here hexec rfl (hb hbytes d13) rfl ?_
    exact Steps.refl _)
  exact ⟨T3, some (.int (chr8 u)), _, _, _, X3, rfl, rfl, rfl, (fun h => by cases h), ⟨rfl, hh3⟩, fun fs hl => c4.trans (X3.ireturnOut hexec hret (narrow_c _) (Or.inr (Or.inr (Or.inr (Or.inl rfl)))) (hb hbytes d14) hl)⟩
end LChA
end StrChars
namespace StrChars.Road
open Jvm Sem ClassFile Op Lib Jvm.Stand Jvm.Free Jvm.Free.XT
open Jvm.Lib.Cold (StaticIs)
theorem consq {a : Array Value} {s : State} {c : Jvm.Cond} {L : List Jvm.Cond} (h0 : c.before a s = true) (h : ∀ w ∈ L, w.before a s = true) : ∀ w ∈ c :: L, w.before a s = true := fun w hw => (List.mem_cons.mp hw).elim (fun e => e ▸ h0) (h w)
/-- the words of String.length(), either coding -/
abbrev wordsLen : List Jvm.Cond := [.code Len.yN Len.yB 1 (some .int), .initialized ST, .fieldLink ST 9 ST "value" "[B", .fieldLink ST 38 ST "COMPACT_STRINGS" "Z", .fieldLink ST 15 ST "coder" "B", .code Cdr.yN Cdr.yB 1 (some .byte), .methodLink ST 335 Cdr.yN, .declares Cdr.yN, .selects ST Cdr.yN Cdr.yN, .instanceMethod Cdr.yN]
theorem tabLen_of {a : Array Value} {s : State} (h : ∀ w ∈ wordsLen, w.before a s = true) : Len.tab.before a s = true := by
  have hc : Cdr.tab.before a s = true := unparts (wk h (.code Cdr.yN Cdr.yB 1 (some .byte))) (wks h (.initialized Cdr.yN.cls :: Cdr.site))
  have q := consq hc h
  exact unparts (wk q (.code Len.yN Len.yB 1 (some .int))) (wks q (.initialized Len.yN.cls :: Len.site))
theorem movedLen {Z s : State} {a0 args : Array Value} (hZ : Z.Warmed39 s.vm) (hw : ∀ d ∈ wordsLen, d.before a0 Z = true) : ∀ d ∈ wordsLen, d.before args s = true := fun d hd => by
  have q := hw d hd
  have t : ∀ d ∈ wordsLen, d = .arrayClass .byte ∨ (d.onTables && d.keepsFace) = true := by decide +kernel
  rcases t d hd with rfl | t
  · exact RoadKit.mvA hZ q
  · exact RoadKit.mv hZ q t
/-- the bytes of the chars cs, low before high -/
def wideBytes : List Int32 → List Value
  | [] => []
  | c :: cs => .int (lo8 c) :: .int (hi8 c) :: wideBytes cs
theorem wide_lo (d : Value) : ∀ (cs : List Int32) (j : Nat), j < cs.length → (wideBytes cs).getD (2 * j) d = .int (lo8 (cs.getD j 0))
  | [], j, h => absurd h (Nat.not_lt_zero j)
  | c :: cs, 0, _ => rfl
  | c :: cs, j + 1, h => by
    have q := wide_lo d cs j (by simpa using h)
    rw [show 2 * (j + 1) = 2 * j + 1 + 1 from by omega]
    simpa [wideBytes] using q
theorem wide_hi (d : Value) : ∀ (cs : List Int32) (j : Nat), j < cs.length → (wideBytes cs).getD (2 * j + 1) d = .int (hi8 (cs.getD j 0))
  | [], j, h => absurd h (Nat.not_lt_zero j)
  | c :: cs, 0, _ => rfl
  | c :: cs, j + 1, h => by
    have q := wide_hi d cs j (by simpa using h)
    rw [show 2 * (j + 1) + 1 = 2 * j + 1 + 1 + 1 from by omega]
    simpa [wideBytes] using q
theorem low_at (d : Value) (cs : List Int32) (j : Nat) (h : j < cs.length) : (cs.map fun c => Value.int (lo8 c)).getD j d = .int (lo8 (cs.getD j 0)) := by
  simp [List.getD_eq_getElem?_getD, h]
/-- an array of N2 bytes vs codes the chars cs by the coder cd -/
def CodA (cs : List Int32) (cd N2 : Int32) (vs : List Value) : Prop := (cd = 0 ∧ N2 = Int32.ofNat cs.length ∧ vs = (cs.map fun c => Value.int (lo8 c)) ∧ ∀ c ∈ cs, ¬ 255 < c) ∨ (cd = 1 ∧ N2 = Int32.ofNat (2 * cs.length) ∧ vs = wideBytes cs ∧ ∃ c ∈ cs, 255 < c)
theorem CodA.cod {cs : List Int32} {cd N2 : Int32} {vs : List Value} {V : Cell} (h : CodA cs cd N2 vs) (hn : 2 * cs.length < 2 ^ 31) (hs : V.slots.size = N2.toNatClampNeg) (hv : RoadKit.Has V vs (.int 0)) : Cod cd cs.length (fun j => cs.getD j 0) V := by
  rcases h with ⟨rfl, rfl, rfl, h⟩ | ⟨rfl, rfl, rfl, c, hc, hw⟩
  · rw [n32 (by omega)] at hs
    exact Or.inl ⟨rfl, hs, fun j hj => ⟨by rw [hv j (by omega), low_at _ _ _ hj], by
      have e : cs.getD j 0 = cs[j] := by simp [List.getD_eq_getElem?_getD, hj]
      show ¬ 255 < cs.getD j 0
      rw [e]; exact h _ (List.getElem_mem _)⟩⟩
  · rw [n32 (by omega)] at hs
    obtain ⟨j, hj, rfl⟩ := List.getElem_of_mem hc
    exact Or.inr ⟨rfl, hs, fun j hj => ⟨by rw [hv _ (by omega), wide_lo _ _ _ hj], by rw [hv _ (by omega), wide_hi _ _ _ hj]⟩, j, hj, by
      have e : cs.getD j 0 = cs[j] := by simp [List.getD_eq_getElem?_getD, hj]
      show 255 < cs.getD j 0
      rw [e]; exact hw⟩
/-- an object of exactly java/lang/String, its two fields found: as the laws ask it -/
theorem strObj {Z U : State} {a0 : Array Value} {kI : Nat} (wi : (Jvm.Cond.instantiable ST kI).before a0 Z = true) (al : Z.vm.Alike U.vm) {x : Addr} {v0 c0 : Value} (E : RoadKit.Exa Z U.heap x ST) (V : RoadKit.Fld Z U.heap x ST "value" "[B" v0) (C : RoadKit.Fld Z U.heap x ST "coder" "B" c0) :
    ∃ (D : Cell) (fV fC : Field), Blank ST x D U ∧ Found ST "value" "[B" fV U ∧ Found ST "coder" "B" fC U ∧ D.slots[fV.slot]? = some v0 ∧ D.slots[fC.slot]? = some c0 ∧ RoadKit.slotOf Z ST "value" "[B" = fV.slot ∧ RoadKit.slotOf Z ST "coder" "B" = fC.slot := by
  obtain ⟨D, cfV, kV, iV, fV, hD, gV, stV, knV, obV, asV, slV⟩ := V
  obtain ⟨D', cfC, kC, iC, fC, hD', gC, stC, -, -, asC, slC⟩ := C
  cases hD.symm.trans hD'
  obtain ⟨D2, kD, e1, e2, e3, e4, e5⟩ := E
  cases hD.symm.trans e1
  obtain ⟨c2, k2, i1, i2, i3, -⟩ := Cond.instantiable_spec wi
  cases e2.symm.trans i1
  cases e3.symm.trans i2
  obtain ⟨kU, u1, u2⟩ := al.2.2 _ _ e3
  exact ⟨D, fV, fC, ⟨hD, ⟨knV, fun q hq => by rw [hq] at obV; cases obV⟩, by rw [al.findClass]; exact e2, kU, u1, by rw [u2]; exact i3, by rw [u2]; exact e5 i3⟩, ⟨SBG.found_only al ⟨cfV, kV, iV, gV⟩, stV⟩, ⟨SBG.found_only al ⟨cfC, kC, iC, gC⟩, stC⟩, slV, slC, by simp [RoadKit.slotOf, gV], by simp [RoadKit.slotOf, gC]⟩
theorem sta_is {Z U : State} (al : Z.vm.Alike U.vm) {C n d : String} {v : Value} (S : RoadKit.Sta Z U.heap C n d v) : StaticIs U C n d v := by
  obtain ⟨cfS, iS, kS, fS, st, cS, t1, t2, t3, t4, t5, t6, t7⟩ := S
  exact StaticIs.there (s := { Z with heap := U.heap }) ⟨cfS, iS, kS, fS, st, cS, t1, t2, t3, t4, t5, (fun q => by rw [q] at t6; cases t6), t7⟩ al rfl
/-- **length() OF SUCH A STRING** -/
theorem lenW {p : Program} {l : Launch} {e : Env} {R : Room} {s : State} {args : Array Value} {below : List Frame} {len W : Nat} {Z : State} {a0 : Array Value} {h : Heap} (hZ : Z.Warmed39 s.vm) (hw : ∀ d ∈ wordsLen, d.before a0 Z = true) {kI : Nat} (wi : (Jvm.Cond.instantiable ST kI).before a0 Z = true)
    {x t : Addr} {kb : ClassId} {cs : List Int32} {cd N2 z : Int32} {vs : List Value} (E : RoadKit.Exa Z h x ST) (V : RoadKit.Fld Z h x ST "value" "[B" (.ref t)) (C : RoadKit.Fld Z h x ST "coder" "B" (.int cd)) (K : RoadKit.Arv Z h t kb .byte N2 vs (.int 0)) (hc : CodA cs cd N2 vs) (hb : ∀ c ∈ cs, ¬ c < 0 ∧ ¬ (65535 : Int32) < c)
    (S : RoadKit.Sta Z h ST "COMPACT_STRINGS" "Z" (.int z)) (hz : ¬ z = 0) (l2 : cs.length ≤ 4000) (hfr : 2 ≤ R.frames) (hlo : W + 25 ≤ R.locals) :
    Back l R p e below s args (⟨"java/lang/String", "length", "()I"⟩ : MethodName) len W (fun P a => a = #[.ref x] ∧ P.U.heap = h ∧ P.cells + 0 ≤ R.cells ∧ P.slots + 0 ≤ R.slots)
      (fun P _ v B => ∃ L, (v = some (.int (Int32.ofNat cs.length)) ∧ L = [] ∧ B.U.heap = h) ∧ B.locs = P.locs ++ L ∧ B.cells = P.cells + 0 ∧ B.slots = P.slots + 0) := by
  obtain ⟨A, K1, K2, K3, K4, K5, K6⟩ := K
  have hcod := hc.cod (by omega) K3 K5
  intro m meth c P g ig mk a X hg hsize hdg hW hn hp'
  obtain ⟨rfl, rfl, r1, r2⟩ := hp'
  have al : Z.vm.Alike P.U.vm := hZ.alike.trans X.warmed.alike
  obtain ⟨D, fV, fC, hB, F1, F2, g1, g2, -, -⟩ := strObj wi al E V C
  have hx : Txt x t A cd cs.length (fun j => cs.getD j 0) P.U := ⟨⟨_, hB.2.2.1, D, hB.1, rfl, by cases q : D.vm <;> first | rfl | exact absurd q (hB.2.1.2 _)⟩, Has.of hB F1 g1, Has.of hB F2 g2, ⟨K1.1, State.isArrayOf_alike al K1.2.1, K1.2.2, by rcases hcod with ⟨-, q, -⟩ | ⟨-, q, -⟩ <;> omega⟩, hcod, fun j hj => by
    have e : cs.getD j 0 = cs[j] := by simp [List.getD_eq_getElem?_getD, hj]
    show ¬ cs.getD j 0 < 0 ∧ ¬ 65535 < cs.getD j 0
    rw [e]; exact hb _ (List.getElem_mem _)⟩
  obtain ⟨v, B, X', ⟨⟨hv, hh⟩, hl, hk, hs⟩, st⟩ := Len.pays x t A cd cs.length (fun j => cs.getD j 0) z (tabLen_of (movedLen hZ hw)) hfr hlo m meth c P g ig mk _ X hg hsize hdg hW hn ⟨r1, r2, rfl, hx, sta_is al S, hz⟩
  exact ⟨v, B, X', ⟨[], ⟨hv, rfl, hh⟩, hl, hk, hs⟩, st⟩
end StrChars.Road
namespace StrChars.Road
open Jvm Sem ClassFile Op Lib Jvm.Stand Jvm.Free Jvm.Free.XT
open Jvm.Lib.Cold (StaticIs)
/-- the road's facts of a String, as the laws ask it -/
theorem txt_of {Z U : State} {a0 : Array Value} {kI : Nat} (wi : (Jvm.Cond.instantiable ST kI).before a0 Z = true) (al : Z.vm.Alike U.vm) {x t : Addr} {kb : ClassId} {cs : List Int32} {cd N2 : Int32} {vs : List Value} (E : RoadKit.Exa Z U.heap x ST) (V : RoadKit.Fld Z U.heap x ST "value" "[B" (.ref t)) (C : RoadKit.Fld Z U.heap x ST "coder" "B" (.int cd)) (K : RoadKit.Arv Z U.heap t kb .byte N2 vs (.int 0)) (hc : CodA cs cd N2 vs) (hb : ∀ c ∈ cs, ¬ c < 0 ∧ ¬ (65535 : Int32) < c) (l2 : cs.length ≤ 4000) :
    ∃ A, Txt x t A cd cs.length (fun j => cs.getD j 0) U := by
  obtain ⟨A, K1, K2, K3, K4, K5, K6⟩ := K
  have hcod := hc.cod (by omega) K3 K5
  obtain ⟨D, fV, fC, hB, F1, F2, g1, g2, -, -⟩ := strObj wi al E V C
  exact ⟨A, ⟨_, hB.2.2.1, D, hB.1, rfl, by cases q : D.vm <;> first | rfl | exact absurd q (hB.2.1.2 _)⟩, Has.of hB F1 g1, Has.of hB F2 g2, ⟨K1.1, State.isArrayOf_alike al K1.2.1, K1.2.2, by rcases hcod with ⟨-, q, -⟩ | ⟨-, q, -⟩ <;> omega⟩, hcod, fun j hj => by
    have e : cs.getD j 0 = cs[j] := by simp [List.getD_eq_getElem?_getD, hj]
    show ¬ cs.getD j 0 < 0 ∧ ¬ 65535 < cs.getD j 0
    rw [e]; exact hb _ (List.getElem_mem _)⟩
end StrChars.Road
namespace StrChars
open Jvm Sem ClassFile Op Lib Jvm.Stand Jvm.Free.XT Jvm.Free.ALB Jvm.Free.JM Jvm.Free
open Jvm.Lib.Cold (StaticIs)
namespace ChN
def yN : MethodName := ⟨"java/lang/String", "charAt", "(I)C"⟩
abbrev yB : ByteArray := jdk_42_method_56_code
theorem d0 : decode yB 0 = .ok (.aload_n 0, 1) := by decide +kernel
theorem d1 : decode yB 1 = .ok (.invokevirtual 492, 3) := by decide +kernel
theorem d4 : decode yB 4 = .ok (.ifCond (.eq) 12, 3) := by decide +kernel
theorem d7 : decode yB 7 = .ok (.aload_n 0, 1) := by decide +kernel
theorem d8 : decode yB 8 = .ok (.getfield 9, 3) := by decide +kernel
theorem d11 : decode yB 11 = .ok (.iload_n 1, 1) := by decide +kernel
theorem d12 : decode yB 12 = .ok (.invokestatic 495, 3) := by decide +kernel
theorem d15 : decode yB 15 = .ok (.ireturn, 1) := by decide +kernel
def site : List Cond := [.fieldLink "java/lang/String" 9 "java/lang/String" "value" "[B", IsL.tab, LChA.tab] ++ virtW "java/lang/String" 492 "java/lang/String" IsL.yN IsL.yN ++ staticW "java/lang/String" 495 LChA.yN
def tab : Cond := tabOf yN yB 2 (some .char) site
def P (x t : Addr) (V : Cell) (n : Nat) (f : Nat → Int32) (z : Int32) (fm : Value) (i : Nat) (args : Array Value) (s : State) : Prop := args = #[.ref x, .int (Int32.ofNat i)] ∧ Txt x t V 0 n f s ∧ i < n ∧ StaticIs s "java/lang/String" "COMPACT_STRINGS" "Z" (.int z) ∧ ¬ z = 0 ∧ StaticIs s "jdk/internal/util/Preconditions" "SIOOBE_FORMATTER" "Ljava/util/function/BiFunction;" fm ∧ fm.isRef = true
def E (f : Nat → Int32) (i : Nat) (r : Option Value) (s u : State) : Prop := XT.PureE (some (.int (f i))) r s u
/-- charAt(i) of a Latin-1 String of n chars, i < n: f i -/
theorem law (l : Launch) (x t : Addr) (V : Cell) (n : Nat) (f : Nat → Int32) (z : Int32) (fm : Value) (i : Nat) : Law l yN 2 1 3 40 yB 2 (some .char) site (P x t V n f z fm i) (E f i) [] 0 0 := by
  refine Law.of_walk (plainFor_of_name (by decide +kernel)) (by decide +kernel) (by decide +kernel) (by decide) (fun _ _ h => by rw [h.1]; rfl) (fun _ U U' hal hh h => ⟨h.1, h.2.1.mv hal hh, h.2.2.1, h.2.2.2.1.there hal hh, h.2.2.2.2.1, h.2.2.2.2.2.1.there hal hh, h.2.2.2.2.2.2⟩) (fun r U U' V V' h1 hal h2 h => XT.PureE.mv r U U' V V' h1 hal h2 h) ?_
  intro p e s m args below meth c s₁ X0 hexec hbytes hml hret hlk hnm hown hh0 W hP
  obtain ⟨rfl, hx, hi, s1, hz, s3, rf⟩ := hP
  have v31 := hx.2.2.2.1.2.2.2
  have hr := hx.2.2.2.2.2 i hi
  have hx0 := hx.mv X0.warmed.alike hh0
  have c1 : Steps p.tables e below (s₁.setTop (entryFrame m #[.ref x, .int (Int32.ofNat i)] 2)) (s₁.setTop (mkF m 1 #[.val (.ref x), .val (.int (Int32.ofNat i))] [.ref x])) := Steps.trans (entry rfl) (by
    show Steps p.tables e below (s₁.setTop (mkF m 0 #[.val (.ref x), .val (.int (Int32.ofNat i))] [])) _
    refine XS.aloadN X0.here hexec rfl (hb hbytes d0) rfl rfl ?_
    exact Steps.refl _)
  obtain ⟨v2, T2, X2, E2, g2⟩ := X0.callV hexec (IsL.law l x 0 z) hown (wks W (virtW "java/lang/String" 492 "java/lang/String" IsL.yN IsL.yN)) rfl (by decide) (wk W IsL.tab) (W := 0) (Nat.le_of_ble_eq_true rfl) (Nat.le_of_ble_eq_true rfl) (Nat.le_refl _) (Nat.le_refl _) (hx0.1.fc X0.warmed.alike) hx0.1.is (g := (mkF m 1 #[.val (.ref x), .val (.int (Int32.ofNat i))] [.ref x])) rfl (by rw [hml]; rfl) c1 (argsL := []) (rest := []) rfl rfl (by show 2 * 0 + 0 ≤ _; decide) (hb hbytes d1) (⟨rfl, hx0.2.2.1, hx.2.2.2.2.1.cd, s1.there X0.warmed.alike hh0, hz⟩)
  obtain ⟨rfl, q2⟩ := E2
  have hh2 := q2.trans hh0
  have hx2 := hx.mv X2.warmed.alike hh2
  obtain ⟨-, k1, k2⟩ | ⟨k0, -⟩ := hx.2.2.2.2.1
  · have c3 : Steps p.tables e below (s₁.setTop (entryFrame m #[.ref x, .int (Int32.ofNat i)] 2)) (T2.setTop (mkF m 8 #[.val (.ref x), .val (.int (Int32.ofNat i))] [.ref x])) := Steps.trans g2 (by
      refine XS.ifNo X2.here hexec rfl (hb hbytes d4) rfl (i0_eq_f (by decide)) ?_
      refine XS.aloadN X2.here hexec rfl (hb hbytes d7) rfl rfl ?_
      exact Steps.refl _)
    obtain ⟨T4, X4, q4, st4⟩ := X2.hget hexec hown (wk W (.fieldLink "java/lang/String" 9 "java/lang/String" "value" "[B")) hx2.2.1 (g := (mkF m 8 #[.val (.ref x), .val (.int (Int32.ofNat i))] [.ref x])) rfl (rest := []) rfl (hb hbytes d8)
    have hh4 := q4.trans hh2
    have c5 : Steps p.tables e below (s₁.setTop (entryFrame m #[.ref x, .int (Int32.ofNat i)] 2)) (T4.setTop (mkF m 12 #[.val (.ref x), .val (.int (Int32.ofNat i))] [.int (Int32.ofNat i), .ref t])) := (c3.trans (st4 _ (Steps.refl _))).trans (by
      refine XS.iloadN X4.here hexec rfl (hb hbytes d11) rfl ?_
      exact Steps.refl _)
    obtain ⟨v6, T6, X6, E6, g6⟩ := X4.callS hexec (LChA.law l t V i (lo8 (f i)) fm) hown (wks W (staticW "java/lang/String" 495 LChA.yN)) (wk W LChA.tab) (W := 0) (Nat.le_of_ble_eq_true rfl) (Nat.le_of_ble_eq_true rfl) (Nat.le_refl _) (Nat.le_refl _) (g := (mkF m 12 #[.val (.ref x), .val (.int (Int32.ofNat i))] [.int (Int32.ofNat i), .ref t])) rfl (by rw [hml]; rfl) c5 (argsL := [.ref t, .int (Int32.ofNat i)]) (rest := []) rfl rfl (by show 2 * 0 + 0 ≤ _; decide) (hb hbytes d12) (⟨rfl, hx.2.2.2.1.mv X4.warmed.alike hh4, (k2 i hi).1, s3.there X4.warmed.alike hh4, rf⟩)
    obtain ⟨rfl, q6⟩ := E6
    rw [chr8_lo8 hr.1 (k2 i hi).2] at g6
    exact ⟨T6, some (.int (f i)), _, _, _, X6, rfl, rfl, rfl, (fun h => by cases h), ⟨rfl, q6.trans hh4⟩, fun fs hl => Steps.trans g6 (X6.ireturnOut hexec hret (narrow_ch hr.1 hr.2) (Or.inr (Or.inr (Or.inr (Or.inl rfl)))) (hb hbytes d15) hl)⟩
  · exact absurd k0 (by decide)
theorem pays {l : Launch} {R : Room} {p : Program} {e : Env} {below : List Frame} {s : State} {sargs : Array Value} {len W : Nat} (x t : Addr) (V : Cell) (n : Nat) (f : Nat → Int32) (z : Int32) (fm : Value) (i : Nat) (htab : tab.before sargs s = true) (hfr : 4 ≤ R.frames) (hlo : W + 53 ≤ R.locals) :
    Back l R p e below s sargs yN len W (fun A₁ a₁ => A₁.cells + 0 ≤ R.cells ∧ A₁.slots + 0 ≤ R.slots ∧ P x t V n f z fm i a₁ A₁.U) (fun A₁ _ v₁ B₁ => E f i v₁ A₁.U B₁.U ∧ B₁.locs = A₁.locs ++ [] ∧ B₁.cells = A₁.cells + 0 ∧ B₁.slots = A₁.slots + 0) :=
  (law l x t V n f z fm i).pays htab hfr (by omega)
end ChN
end StrChars
namespace StrChars.Road
open Jvm Sem ClassFile Op Lib Jvm.Stand Jvm.Free Jvm.Free.XT
open Jvm.Lib.Cold (StaticIs)
/-- the words of String.charAt(int), the Latin-1 road alone -/
abbrev wordsChN : List Jvm.Cond := [.code ChN.yN ChN.yB 2 (some .char), .initialized ST, .fieldLink ST 9 ST "value" "[B", .fieldLink ST 38 ST "COMPACT_STRINGS" "Z", .fieldLink ST 15 ST "coder" "B", .code IsL.yN IsL.yB 1 (some .boolean), .methodLink ST 492 IsL.yN, .declares IsL.yN, .selects ST IsL.yN IsL.yN, .instanceMethod IsL.yN,
  .methodLink ST 495 LChA.yN, .static LChA.yN, .code LChA.yN LChA.yB 2 (some .char), .initialized "java/lang/StringLatin1", .methodLink "java/lang/StringLatin1" 9 JO.Str_checkIndex.yN, .static JO.Str_checkIndex.yN, .code JO.Str_checkIndex.yN JO.Str_checkIndex.yB 2 none,
  .fieldLink ST 1053 "jdk/internal/util/Preconditions" "SIOOBE_FORMATTER" "Ljava/util/function/BiFunction;", .methodLink ST 1059 JC.PreCheck.yN, .static JC.PreCheck.yN, .code JC.PreCheck.yN JC.PreCheck.yB 3 (some .int), .initialized "jdk/internal/util/Preconditions"]
theorem tabChN_of {a : Array Value} {s : State} (h : ∀ w ∈ wordsChN, w.before a s = true) : ChN.tab.before a s = true := by
  have hp : JC.PreCheck.tab.before a s = true := unparts (wk h (.code JC.PreCheck.yN JC.PreCheck.yB 3 (some .int))) (wks h (.initialized JC.PreCheck.yN.cls :: JC.PreCheck.site))
  have qk := consq hp h
  have hk : JO.Str_checkIndex.tab.before a s = true := unparts (wk qk (.code JO.Str_checkIndex.yN JO.Str_checkIndex.yB 2 none)) (wks qk (.initialized JO.Str_checkIndex.yN.cls :: JO.Str_checkIndex.site))
  have ql := consq hk h
  have hl : LChA.tab.before a s = true := unparts (wk ql (.code LChA.yN LChA.yB 2 (some .char))) (wks ql (.initialized LChA.yN.cls :: LChA.site))
  have hi : IsL.tab.before a s = true := unparts (wk h (.code IsL.yN IsL.yB 1 (some .boolean))) (wks h (.initialized IsL.yN.cls :: IsL.site))
  have q := consq hi (consq hl h)
  exact unparts (wk q (.code ChN.yN ChN.yB 2 (some .char))) (wks q (.initialized ChN.yN.cls :: ChN.site))
theorem movedChN {Z s : State} {a0 args : Array Value} (hZ : Z.Warmed39 s.vm) (hw : ∀ d ∈ wordsChN, d.before a0 Z = true) : ∀ d ∈ wordsChN, d.before args s = true := fun d hd => by
  have t : ∀ d ∈ wordsChN, (d.onTables && d.keepsFace) = true := by decide +kernel
  exact RoadKit.mv hZ (hw d hd) (t d hd)
/-- **charAt(i) OF A LATIN-1 STRING**, i < n: the char -/
theorem chN {p : Program} {l : Launch} {e : Env} {R : Room} {s : State} {args : Array Value} {below : List Frame} {len W : Nat} {Z : State} {a0 : Array Value} {h : Heap} (hZ : Z.Warmed39 s.vm) (hw : ∀ d ∈ wordsChN, d.before a0 Z = true) {kI : Nat} (wi : (Jvm.Cond.instantiable ST kI).before a0 Z = true)
    {x t : Addr} {kb : ClassId} {cs : List Int32} {N2 z : Int32} {vs : List Value} {fm : Value} {i : Nat} {j : Int32} (E : RoadKit.Exa Z h x ST) (V : RoadKit.Fld Z h x ST "value" "[B" (.ref t)) (C : RoadKit.Fld Z h x ST "coder" "B" (.int 0)) (K : RoadKit.Arv Z h t kb .byte N2 vs (.int 0)) (hc : CodA cs 0 N2 vs) (hb : ∀ c ∈ cs, ¬ c < 0 ∧ ¬ (65535 : Int32) < c)
    (S : RoadKit.Sta Z h ST "COMPACT_STRINGS" "Z" (.int z)) (hz : ¬ z = 0) (F : RoadKit.Sta Z h "jdk/internal/util/Preconditions" "SIOOBE_FORMATTER" "Ljava/util/function/BiFunction;" fm) (rf : fm.isRef = true) (l2 : cs.length ≤ 4000) (hi : i < cs.length) (hj : j = Int32.ofNat i) (hfr : 4 ≤ R.frames) (hlo : W + 53 ≤ R.locals) :
    Back l R p e below s args (⟨"java/lang/String", "charAt", "(I)C"⟩ : MethodName) len W (fun P a => a = #[.ref x, .int j] ∧ P.U.heap = h ∧ P.cells + 0 ≤ R.cells ∧ P.slots + 0 ≤ R.slots)
      (fun P _ v B => ∃ L, (v = some (.int (cs.getD i 0)) ∧ L = [] ∧ B.U.heap = h) ∧ B.locs = P.locs ++ L ∧ B.cells = P.cells + 0 ∧ B.slots = P.slots + 0) := by
  subst hj
  intro m meth c P g ig mk a X hg hsize hdg hW hn hp'
  obtain ⟨rfl, rfl, r1, r2⟩ := hp'
  have al : Z.vm.Alike P.U.vm := hZ.alike.trans X.warmed.alike
  obtain ⟨A, hx⟩ := txt_of wi al E V C K hc hb l2
  obtain ⟨v, B, X', ⟨⟨hv, hh⟩, hl, hk, hs⟩, st⟩ := ChN.pays x t A cs.length (fun j => cs.getD j 0) z fm i (tabChN_of (movedChN hZ hw)) hfr hlo m meth c P g ig mk _ X hg hsize hdg hW hn ⟨r1, r2, rfl, hx, hi, sta_is al S, hz, sta_is al F, rf⟩
  exact ⟨v, B, X', ⟨[], ⟨hv, rfl, hh⟩, hl, hk, hs⟩, st⟩
/-- what backV says of its String, as the contracts of this text ask it: cs's low bytes, coder 0 -/
theorem codOf {cs : List Int32} {n : Nat} (hn : cs.length = n) (hb : ∀ c ∈ cs, ¬ 255 < c) : CodA cs 0 (Int32.ofNat n) ((cs.map lo8).map Value.int) := Or.inl ⟨rfl, by rw [hn], by simp [List.map_map, Function.comp_def], hb⟩
end StrChars.Road
end Jvm.Pilot.@@N@@
namespace Jvm.Pilot.@@N@@
open Jvm Jvm.ClassFile Sem Op Lib Jvm.Free Jvm.Stand Jvm.LawKit Jvm.RoadKit Bundle Jvm.Pilot.@@N@@.Jvm.D
/-! 0. own tools: the goal that a walk carries; an array's store and load by what is known of it -/
def Go (tb : Tables) (e : Env) (below : List Frame) (P : State → Prop) (s : State) : Prop := ∃ s₂, Steps tb e below s s₂ ∧ P s₂
section OwnTools
variable {tb : Tables} {e : Env} {below : List Frame} {P : State → Prop} {A B : State}
theorem Go.st (h : ∀ t, Steps tb e below A t → Steps tb e below B t) (g : Go tb e below P A) : Go tb e below P B := by
  obtain ⟨s₂, h1, h2⟩ := g
  exact ⟨s₂, h _ h1, h2⟩
theorem Go.tr (h : Steps tb e below B A) (g : Go tb e below P A) : Go tb e below P B := by
  obtain ⟨s₂, h1, h2⟩ := g
  exact ⟨s₂, h.trans h1, h2⟩
theorem Go.start {Q : Outcome → State → Prop} (h : ∀ P : State → Prop, (∀ s₂ o, s₂.status = .running → Ended s₂ below o → Q o s₂ → P s₂) → Go tb e below P A) : ∃ s₂ o, Steps tb e below A s₂ ∧ s₂.status = .running ∧ Ended s₂ below o ∧ Q o s₂ := by
  obtain ⟨s₂, h1, o, h2, h3, h4⟩ := h (fun s₂ => ∃ o, s₂.status = .running ∧ Ended s₂ below o ∧ Q o s₂) (fun s₂ o a b c => ⟨o, a, b, c⟩)
  exact ⟨s₂, o, h1, h2, h3, h4⟩
abbrev lR (a : Addr) : Slot := .val (.ref a)
abbrev lI (x : Int32) : Slot := .val (.int x)
abbrev lJ (x : Int64) : Slot := .val (.long x)
abbrev lD (x : UInt64) : Slot := .val (.double x)
abbrev lN : Slot := .val .null
abbrev lU : Slot := .unset
abbrev lS : Slot := .second
theorem ow {a0 : Array Value} {Z : State} (hw : ∀ d ∈ tables_1, d.before a0 Z = true) (i : Nat) {d : Jvm.Cond} (h : tables_1[i]? = some d) : d.before a0 Z = true := hw d (List.mem_of_getElem? h)
theorem own_oldsz {Z : State} {n0 : Nat} {h : Heap} (X : Old Z n0 h) : n0 ≤ h.size := by have := X.1; have := X.2.1; omega
theorem own_cat {v : Value} (h : v.isRef = true) : v.category = 1 := by cases v <;> first | rfl | simp [Value.isRef] at h
theorem own_refcase {v : Value} (h : v.isRef = true) : v = .null ∨ ∃ a, v = .ref a := by cases v <;> first | (left; rfl) | (right; exact ⟨_, rfl⟩) | (simp [Value.isRef] at h)
theorem own_nar_ref {v : Value} {t : FieldType} (h : v.isRef = true) : narrow t v = v := by cases v <;> first | (simp [Value.isRef] at h; done) | (cases t <;> rfl)
theorem own_fits_ref {v : Value} {t : FieldType} (h : v.isRef = true) (ht : t.isReference = true := by rfl) : fits t v = true := by cases v <;> first | (simp [Value.isRef] at h; done) | (cases t <;> first | rfl | (simp [FieldType.isReference] at ht))
theorem own_eq_ref {args : Array Value} {first s : State} {o : Option Outcome} {idx : List Nat} {a b : Term} {w : Addr} (hb : b.eval args first o idx s = some (.ref w)) (h : (Cond.eq a b).value args first o s idx = some true) : a.eval args first o idx s = some (.ref w) := by
  cases ha : a.eval args first o idx s with
  | none => simp [Cond.value, ha] at h
  | some x => cases x <;> simp [Cond.value, ha, hb] at h ⊢; exact h
theorem own_len_start {args : Array Value} {s : State} {t : Term} {n : Int32} {a : Addr} {cl : Cell} (h : (Term.length t).eval args s none [] s = some (.int n)) (ht : t.eval args s none [] s = some (.ref a)) (hc : s.heap[a]? = some cl) : cl.slots.size < 2 ^ 31 ∧ cl.slots.size.toInt32 = n := by
  simp only [Term.eval, ht, Option.bind_eq_bind, Option.bind_some] at h
  cases hq : s.arrayAt? a with
  | none => simp [hq] at h
  | some c2 =>
    have e := (State.arrayAt?_spec hq).1
    cases hc.symm.trans e
    simp only [hq, Option.bind_some] at h
    split at h
    · rename_i hlt; exact ⟨hlt, by simpa using h⟩
    · cases h
theorem own_since (s : State) : s.Since s.vm 0 := (State.WarmedH.refl s).since 0
theorem own_and255 (x : Int32) : ¬ (x &&& 255) < 0 ∧ ¬ (255 : Int32) < (x &&& 255) := by
  have h := c_and x 255 (by decide)
  have e0 : (0 : Int32).toInt = 0 := rfl
  have e1 : (255 : Int32).toInt = 255 := rfl
  rw [Int32.lt_iff_toInt_lt, Int32.lt_iff_toInt_lt]
  omega
theorem own_nar_i2c (x : Int32) : nar .char (x.toUInt32.toUInt16.toUInt32.toInt32) = x.toUInt32.toUInt16.toUInt32.toInt32 := by
  show (x.toUInt32.toUInt16.toUInt32.toInt32).toUInt32.toUInt16.toUInt32.toInt32 = _
  rw [UInt32.toUInt32_toInt32, UInt16.toUInt16_toUInt32]
theorem own_nar_i2b (x : Int32) : nar .byte (x.toInt8.toInt32) = x.toInt8.toInt32 := by
  show (x.toInt8.toInt32).toInt8.toInt32 = _
  simp
theorem own_narZ {x : Int32} (h : x = 0 ∨ x = 1) : nar .boolean x = x := by rcases h with rfl | rfl <;> rfl
theorem own_up (cs : List Int32) (h : ∀ c ∈ cs, ¬ c < 0 ∧ ¬ (255 : Int32) < c) : ∀ c ∈ cs, ¬ c < 0 ∧ ¬ (65535 : Int32) < c := fun c hc => ⟨(h c hc).1, fun q => (h c hc).2 (by rw [Int32.lt_iff_toInt_lt] at q ⊢; have e1 : (65535 : Int32).toInt = 65535 := rfl; have e2 : (255 : Int32).toInt = 255 := rfl; omega)⟩
theorem own_narC {x : Int32} (h : ¬ x < 0 ∧ ¬ (255 : Int32) < x) : nar .char x = x := by
  have e0 : (0 : Int32).toInt = 0 := rfl
  have e1 : (255 : Int32).toInt = 255 := rfl
  have a := h.1
  have b := h.2
  rw [Int32.lt_iff_toInt_lt, e0] at a
  rw [Int32.lt_iff_toInt_lt, e1] at b
  have c := c_i2c x
  exact Int32.toInt_inj.mp (show x.toUInt32.toUInt16.toUInt32.toInt32.toInt = x.toInt by omega)
theorem own_int {r : Int32} {k : Int} (h : r.toInt = k) {q : Int32} (hq : q.toInt = k) : r = q := Int32.toInt_inj.mp (by rw [h, hq])
end OwnTools
section OwnArrays
variable {p : Program} {l : Launch} {e : Env} {R : Room} {s : State} {m : MethodId} {args : Array Value} {below : List Frame} {meth : Method} {c : Code} {T : State} {locs : List Loc} {cells slots : Nat} {Z : State} {h : Heap} {a : Addr} {k : ClassId} {z : Int32} {vs : List Value} {dv : Value}
theorem own_stC (X : Stand p l e R s m args below meth c T locs cells slots) (hx : p.tables.exec = Jvm.exec) (hZ : Z.Warmed39 s.vm) (eT : T.heap = h) (V : Arv Z h a k .char z vs dv) {j x : Int32} {i : Nat} (hj : ¬ j < 0 ∧ j < z) (hji : j.toNatClampNeg = i) (hi : i < vs.length) {g : JFrame} (hg : g.method = m) {rest : List Value} (hs : g.stack = .int x :: .int j :: .ref a :: rest) (hd : decode c.code g.pc = .ok (.castore, 1)) :
    ∃ T' h', Stand p l e R s m args below meth c T' (locs ++ [⟨a, j.toNatClampNeg⟩]) cells slots ∧ T'.heap = h' ∧ Wr h h' a j.toNatClampNeg (.int (nar .char x)) ∧ Arv Z h' a k .char z (vs.set i (.int (nar .char x))) dv ∧ ∀ target, Steps p.tables e below (T'.setTop { g with pc := g.pc + 1, stack := rest }) target → Steps p.tables e below (T.setTop g) target := by
  obtain ⟨cl, A, q1, S, q3, H, G⟩ := V
  obtain ⟨T', h', X', e', W, st⟩ := stC X hx hZ eT A (inb_of S hj) hg hs hd
  exact ⟨T', h', X', e', W, Arv.set A q1 S q3 H G (fits_nar_char x) W i hji hi, st⟩
theorem own_stI (X : Stand p l e R s m args below meth c T locs cells slots) (hx : p.tables.exec = Jvm.exec) (hZ : Z.Warmed39 s.vm) (eT : T.heap = h) (V : Arv Z h a k .int z vs dv) {j x : Int32} {i : Nat} (hj : ¬ j < 0 ∧ j < z) (hji : j.toNatClampNeg = i) (hi : i < vs.length) {g : JFrame} (hg : g.method = m) {rest : List Value} (hs : g.stack = .int x :: .int j :: .ref a :: rest) (hd : decode c.code g.pc = .ok (.iastore, 1)) :
    ∃ T' h', Stand p l e R s m args below meth c T' (locs ++ [⟨a, j.toNatClampNeg⟩]) cells slots ∧ T'.heap = h' ∧ Wr h h' a j.toNatClampNeg (.int x) ∧ Arv Z h' a k .int z (vs.set i (.int x)) dv ∧ ∀ target, Steps p.tables e below (T'.setTop { g with pc := g.pc + 1, stack := rest }) target → Steps p.tables e below (T.setTop g) target := by
  obtain ⟨cl, A, q1, S, q3, H, G⟩ := V
  obtain ⟨T', h', X', e', W, st⟩ := stI X hx hZ eT A (inb_of S hj) hg hs hd
  exact ⟨T', h', X', e', W, Arv.set A q1 S q3 H G rfl W i hji hi, st⟩
theorem own_stZ (X : Stand p l e R s m args below meth c T locs cells slots) (hx : p.tables.exec = Jvm.exec) (hZ : Z.Warmed39 s.vm) (eT : T.heap = h) (V : Arv Z h a k .boolean z vs dv) {j x : Int32} {i : Nat} (hj : ¬ j < 0 ∧ j < z) (hji : j.toNatClampNeg = i) (hi : i < vs.length) {g : JFrame} (hg : g.method = m) {rest : List Value} (hs : g.stack = .int x :: .int j :: .ref a :: rest) (hd : decode c.code g.pc = .ok (.bastore, 1)) :
    ∃ T' h', Stand p l e R s m args below meth c T' (locs ++ [⟨a, j.toNatClampNeg⟩]) cells slots ∧ T'.heap = h' ∧ Wr h h' a j.toNatClampNeg (.int (nar .boolean x)) ∧ Arv Z h' a k .boolean z (vs.set i (.int (nar .boolean x))) dv ∧ ∀ target, Steps p.tables e below (T'.setTop { g with pc := g.pc + 1, stack := rest }) target → Steps p.tables e below (T.setTop g) target := by
  obtain ⟨cl, A, q1, S, q3, H, G⟩ := V
  obtain ⟨T', h', X', e', W, st⟩ := stZ X hx hZ eT A (inb_of S hj) hg hs hd
  exact ⟨T', h', X', e', W, Arv.set A q1 S q3 H G (fits_nar_bool x) W i hji hi, st⟩
theorem own_stB (X : Stand p l e R s m args below meth c T locs cells slots) (hx : p.tables.exec = Jvm.exec) (hZ : Z.Warmed39 s.vm) (eT : T.heap = h) (V : Arv Z h a k .byte z vs dv) {j x : Int32} {i : Nat} (hj : ¬ j < 0 ∧ j < z) (hji : j.toNatClampNeg = i) (hi : i < vs.length) {g : JFrame} (hg : g.method = m) {rest : List Value} (hs : g.stack = .int x :: .int j :: .ref a :: rest) (hd : decode c.code g.pc = .ok (.bastore, 1)) :
    ∃ T' h', Stand p l e R s m args below meth c T' (locs ++ [⟨a, j.toNatClampNeg⟩]) cells slots ∧ T'.heap = h' ∧ Wr h h' a j.toNatClampNeg (.int (nar .byte x)) ∧ Arv Z h' a k .byte z (vs.set i (.int (nar .byte x))) dv ∧ ∀ target, Steps p.tables e below (T'.setTop { g with pc := g.pc + 1, stack := rest }) target → Steps p.tables e below (T.setTop g) target := by
  obtain ⟨cl, A, q1, S, q3, H, G⟩ := V
  obtain ⟨T', h', X', e', W, st⟩ := stB X hx hZ eT A (inb_of S hj) hg hs hd
  exact ⟨T', h', X', e', W, Arv.set A q1 S q3 H G (fits_nar_byte x) W i hji hi, st⟩
theorem own_stD (X : Stand p l e R s m args below meth c T locs cells slots) (hx : p.tables.exec = Jvm.exec) (hZ : Z.Warmed39 s.vm) (eT : T.heap = h) (V : Arv Z h a k .double z vs dv) {j : Int32} {x : UInt64} {i : Nat} (hj : ¬ j < 0 ∧ j < z) (hji : j.toNatClampNeg = i) (hi : i < vs.length) {g : JFrame} (hg : g.method = m) {rest : List Value} (hs : g.stack = .double x :: .int j :: .ref a :: rest) (hd : decode c.code g.pc = .ok (.dastore, 1)) :
    ∃ T' h', Stand p l e R s m args below meth c T' (locs ++ [⟨a, j.toNatClampNeg⟩]) cells slots ∧ T'.heap = h' ∧ Wr h h' a j.toNatClampNeg (.double x) ∧ Arv Z h' a k .double z (vs.set i (.double x)) dv ∧ ∀ target, Steps p.tables e below (T'.setTop { g with pc := g.pc + 1, stack := rest }) target → Steps p.tables e below (T.setTop g) target := by
  obtain ⟨cl, A, q1, S, q3, H, G⟩ := V
  obtain ⟨T', h', X', e', W, st⟩ := stD X hx hZ eT A (inb_of S hj) hg hs hd
  exact ⟨T', h', X', e', W, Arv.set A q1 S q3 H G rfl W i hji hi, st⟩
theorem own_at {ty : FieldType} (V : Arv Z h a k ty z vs dv) {j : Int32} {i : Nat} {v : Value} (hj : ¬ j < 0 ∧ j < z) (hji : j.toNatClampNeg = i) (hv : vs.getD i dv = v) : ∃ cl : Cell, Arr Z h a cl ty ∧ ¬ (j < 0 ∨ cl.slots.size ≤ j.toNatClampNeg) ∧ cl.slots[j.toNatClampNeg]? = some v := by
  obtain ⟨cl, A, q1, S, q3, H, G⟩ := V
  exact ⟨cl, A, inb_of S hj, Has.at H (inb_of S hj) (by rw [hji]; exact hv)⟩
theorem own_ldI (X : Stand p l e R s m args below meth c T locs cells slots) (hx : p.tables.exec = Jvm.exec) (hZ : Z.Warmed39 s.vm) (eT : T.heap = h) (V : Arv Z h a k .int z vs dv) {j : Int32} {i : Nat} {v : Value} (hj : ¬ j < 0 ∧ j < z) (hji : j.toNatClampNeg = i) (hv : vs.getD i dv = v) {g : JFrame} (hg : g.method = m) {rest : List Value} (hs : g.stack = .int j :: .ref a :: rest) (hd : decode c.code g.pc = .ok (.iaload, 1)) (target : State) :
    Steps p.tables e below (T.setTop { g with pc := g.pc + 1, stack := v :: rest }) target → Steps p.tables e below (T.setTop g) target := by
  obtain ⟨cl, A, hin, hat⟩ := own_at V hj hji hv
  exact X.iaload hx (by rw [eT]; exact A.1) (State.isArrayOf_alike hZ.alike A.2.1) A.2.2 hin hat hg hs hd target
theorem own_ldC (X : Stand p l e R s m args below meth c T locs cells slots) (hx : p.tables.exec = Jvm.exec) (hZ : Z.Warmed39 s.vm) (eT : T.heap = h) (V : Arv Z h a k .char z vs dv) {j : Int32} {i : Nat} {v : Value} (hj : ¬ j < 0 ∧ j < z) (hji : j.toNatClampNeg = i) (hv : vs.getD i dv = v) {g : JFrame} (hg : g.method = m) {rest : List Value} (hs : g.stack = .int j :: .ref a :: rest) (hd : decode c.code g.pc = .ok (.caload, 1)) (target : State) :
    Steps p.tables e below (T.setTop { g with pc := g.pc + 1, stack := v :: rest }) target → Steps p.tables e below (T.setTop g) target := by
  obtain ⟨cl, A, hin, hat⟩ := own_at V hj hji hv
  exact X.caload hx (by rw [eT]; exact A.1) (State.isArrayOf_alike hZ.alike A.2.1) A.2.2 hin hat hg hs hd target
theorem own_ldZ (X : Stand p l e R s m args below meth c T locs cells slots) (hx : p.tables.exec = Jvm.exec) (hZ : Z.Warmed39 s.vm) (eT : T.heap = h) (V : Arv Z h a k .boolean z vs dv) {j : Int32} {i : Nat} {v : Value} (hj : ¬ j < 0 ∧ j < z) (hji : j.toNatClampNeg = i) (hv : vs.getD i dv = v) {g : JFrame} (hg : g.method = m) {rest : List Value} (hs : g.stack = .int j :: .ref a :: rest) (hd : decode c.code g.pc = .ok (.baload, 1)) (target : State) :
    Steps p.tables e below (T.setTop { g with pc := g.pc + 1, stack := v :: rest }) target → Steps p.tables e below (T.setTop g) target := by
  obtain ⟨cl, A, hin, hat⟩ := own_at V hj hji hv
  exact X.baloadBooleans hx (by rw [eT]; exact A.1) (State.isArrayOf_alike hZ.alike A.2.1) A.2.2 hin hat hg hs hd target
theorem own_ldB (X : Stand p l e R s m args below meth c T locs cells slots) (hx : p.tables.exec = Jvm.exec) (hZ : Z.Warmed39 s.vm) (eT : T.heap = h) (V : Arv Z h a k .byte z vs dv) {j : Int32} {i : Nat} {v : Value} (hj : ¬ j < 0 ∧ j < z) (hji : j.toNatClampNeg = i) (hv : vs.getD i dv = v) {g : JFrame} (hg : g.method = m) {rest : List Value} (hs : g.stack = .int j :: .ref a :: rest) (hd : decode c.code g.pc = .ok (.baload, 1)) (target : State) :
    Steps p.tables e below (T.setTop { g with pc := g.pc + 1, stack := v :: rest }) target → Steps p.tables e below (T.setTop g) target := by
  obtain ⟨cl, A, hin, hat⟩ := own_at V hj hji hv
  exact X.baloadBytes hx (by rw [eT]; exact A.1) (State.isArrayOf_alike hZ.alike A.2.1) A.2.2 hin hat hg hs hd target
theorem own_ldD (X : Stand p l e R s m args below meth c T locs cells slots) (hx : p.tables.exec = Jvm.exec) (hZ : Z.Warmed39 s.vm) (eT : T.heap = h) (V : Arv Z h a k .double z vs dv) {j : Int32} {i : Nat} {v : Value} (hj : ¬ j < 0 ∧ j < z) (hji : j.toNatClampNeg = i) (hv : vs.getD i dv = v) {g : JFrame} (hg : g.method = m) {rest : List Value} (hs : g.stack = .int j :: .ref a :: rest) (hd : decode c.code g.pc = .ok (.daload, 1)) (target : State) :
    Steps p.tables e below (T.setTop { g with pc := g.pc + 1, stack := v :: rest }) target → Steps p.tables e below (T.setTop g) target := by
  obtain ⟨cl, A, hin, hat⟩ := own_at V hj hji hv
  exact X.daload hx (by rw [eT]; exact A.1) (State.isArrayOf_alike hZ.alike A.2.1) A.2.2 hin hat hg hs hd target
theorem own_ldR {C : String} (X : Stand p l e R s m args below meth c T locs cells slots) (hx : p.tables.exec = Jvm.exec) (hZ : Z.Warmed39 s.vm) (eT : T.heap = h) (V : Arv Z h a k (.object C) z vs dv) {j : Int32} {i : Nat} {v : Value} (hj : ¬ j < 0 ∧ j < z) (hji : j.toNatClampNeg = i) (hv : vs.getD i dv = v) {g : JFrame} (hg : g.method = m) {rest : List Value} (hs : g.stack = .int j :: .ref a :: rest) (hd : decode c.code g.pc = .ok (.aaload, 1)) (target : State) :
    Steps p.tables e below (T.setTop { g with pc := g.pc + 1, stack := v :: rest }) target → Steps p.tables e below (T.setTop g) target := by
  obtain ⟨cl, A, hin, hat⟩ := own_at V hj hji hv
  exact X.aaload hx (by rw [eT]; exact A.1) (State.isArrayOf_alike hZ.alike A.2.1) rfl A.2.2 hin hat hg hs hd target
theorem own_len {ty : FieldType} (X : Stand p l e R s m args below meth c T locs cells slots) (hx : p.tables.exec = Jvm.exec) (hZ : Z.Warmed39 s.vm) (eT : T.heap = h) (V : Arv Z h a k ty z vs dv) {g : JFrame} (hg : g.method = m) {rest : List Value} (hs : g.stack = .ref a :: rest) (hd : decode c.code g.pc = .ok (.arraylength, 1)) (target : State) :
    Steps p.tables e below (T.setTop { g with pc := g.pc + 1, stack := .int z :: rest }) target → Steps p.tables e below (T.setTop g) target := by
  obtain ⟨cl, A, q1, S, q3, H, G⟩ := V
  have q := X.arraylength hx (by rw [eT]; exact A.1) (State.isArrayOf_alike hZ.alike A.2.1) hg hs hd target
  rw [len_of S q3] at q
  exact q
theorem own_getD_int (xs : List Int32) (i : Nat) : (xs.map Value.int).getD i (.int 0) = .int (xs.getD i 0) := by
  simp only [List.getD_eq_getElem?_getD, List.getElem?_map]
  cases xs[i]? <;> rfl
theorem own_arv_set {ty : FieldType} {xs : List Int32} {i : Nat} {v : Int32} (V : Arv Z h a k ty z ((xs.map Value.int).set i (.int v)) dv) : Arv Z h a k ty z ((xs.set i v).map Value.int) dv := by rw [List.map_set]; exact V
end OwnArrays

theorem own_strAtoms : ∀ a ∈ Bundle.stringAtoms, a ∈ tables_1 := by decide +kernel
theorem own_wNew : ∀ d ∈ StrChars.Road.words, d ∈ tables_1 := by decide +kernel
theorem own_wLen : ∀ d ∈ StrChars.Road.wordsLen, d ∈ tables_1 := by decide +kernel
theorem own_wCh : ∀ d ∈ StrChars.Road.wordsChN, d ∈ tables_1 := by decide +kernel
theorem own_arvN {Z : State} {h : Heap} {t : Addr} {k : ClassId} {cs : List Int32} {n : Nat} {vs : List Value} {dv : Value} (hn : cs.length = n) (A : Arv Z h t k .byte (Int32.ofNat n) vs dv) : Arv Z h t k .byte (Int32.ofNat cs.length) vs dv := by rw [hn]; exact A
theorem own_set_small {xs : List Int32} {i : Nat} {v : Int32} (h : ∀ c ∈ xs, ¬ c < 0 ∧ ¬ (255 : Int32) < c) (hv : ¬ v < 0 ∧ ¬ (255 : Int32) < v) : ∀ c ∈ xs.set i v, ¬ c < 0 ∧ ¬ (255 : Int32) < c := fun c hc => by
  rcases List.mem_or_eq_of_mem_set hc with q | q
  · exact h c q
  · rw [q]; exact hv
theorem own_set_eq {xs : List Int32} {i : Nat} {v : Int32} (hi : i < xs.length) : xs.set i v = xs ↔ v = xs.getD i 0 := by
  constructor
  · intro q
    have e := congrArg (fun l : List Int32 => l.getD i 0) q
    simp only [List.getD_eq_getElem?_getD, List.getElem?_set_self hi] at e
    simpa [List.getD_eq_getElem?_getD] using e
  · intro q
    apply List.ext_getElem?
    intro j
    rw [List.getElem?_set]
    split
    · rename_i e; subst e; rw [q, List.getD_eq_getElem?_getD, List.getElem?_eq_getElem hi]; simp [hi]
    · rfl
theorem own_natback {j : Int32} (h : ¬ j < 0) : j = Int32.ofNat j.toNatClampNeg := (back32 h).1.symm
section OwnInt
theorem own_ishl0 (x : Int32) : x <<< ((0 : Int32) &&& 31) = x := by
  rw [show (0 : Int32) &&& 31 = 0 from by decide]; exact Int32.toBitVec_inj.mp (by simp)
theorem own_ishr0 (x : Int32) : x >>> ((0 : Int32) &&& 31) = x := by
  rw [show (0 : Int32) &&& 31 = 0 from by decide]; exact Int32.toBitVec_inj.mp (by simp)
theorem own_sub0 (x : Int32) : x - (0 : Int32) = x := Int32.sub_zero x
theorem own_ofN {n : Nat} (h : n < 2 ^ 31) : (Int32.ofNat n).toInt = (n : Int) := len_toInt h
theorem own_clamp {n : Nat} (h : n < 2 ^ 31) : (Int32.ofNat n).toNatClampNeg = n := by
  have := own_ofN h
  show (Int32.ofNat n).toInt.toNat = n
  omega
theorem own_zlt (z : Int32) : z.toNatClampNeg < 2 ^ 31 := by have := z.toInt_lt; show z.toInt.toNat < 2 ^ 31; omega
theorem own_znat {z : Int32} (h : ¬ z < 0) : z.toInt = (z.toNatClampNeg : Int) := by
  rw [Int32.lt_iff_toInt_lt, show (0 : Int32).toInt = 0 from rfl] at h
  show z.toInt = (z.toInt.toNat : Int)
  omega
theorem own_arvnn {Z : State} {h : Heap} {a : Addr} {k : ClassId} {ty : FieldType} {z : Int32} {vs : List Value} {d : Value} (A : Arv Z h a k ty z vs d) : ¬ z < 0 := by
  obtain ⟨c, -, -, -, q, -⟩ := A
  exact q
theorem own_nneg {n : Nat} (h : n < 2 ^ 31) : ¬ (Int32.ofNat n < 0) := by
  rw [Int32.lt_iff_toInt_lt, own_ofN h, show (0 : Int32).toInt = 0 from rfl]; omega
theorem own_ltz {p2 za : Int32} {nv : Nat} (hz : ¬ za < 0) (hnv : p2 = Int32.ofNat nv) (hzc : nv ≤ za.toNatClampNeg) (hne : ¬ (p2 = za)) : p2 < za := by
  have hl := own_zlt za
  have e1 := own_ofN (n := nv) (by omega)
  have e2 := own_znat hz
  rw [Int32.lt_iff_toInt_lt]
  have : p2.toInt ≠ za.toInt := fun q => hne (Int32.toInt_inj.mp q)
  rw [hnv] at this ⊢
  omega
end OwnInt

section OwnDur
theorem own_pad0 (X : List Int32) : ∀ i, ((X ++ [0]).map Value.int).getD i (.int 0) = (X.map Value.int).getD i (.int 0) := fun i => by
  simp only [List.getD_eq_getElem?_getD, List.getElem?_map, List.getElem?_append]
  split
  · rfl
  · rename_i h
    rw [List.getElem?_eq_none (show X.length ≤ i by omega)]
    by_cases q : i - X.length = 0
    · rw [q]; rfl
    · rw [List.getElem?_eq_none (by simp; omega)]
theorem own_pad1 (X : List Int32) : X.length < ((X ++ [0]).map Value.int).length := by simp
theorem own_setlast (X : List Int32) (v : Int32) : ((X ++ [0]).map Value.int).set X.length (.int v) = (X ++ [v]).map Value.int := by
  induction X with
  | nil => rfl
  | cons a t ih => exact congrArg (List.cons (Value.int a)) ih
def own_val (cs : List Int32) : Nat := cs.foldl (fun v c => 10 * v + (c.toInt.toNat - 48)) 0
theorem own_val_snoc (cs : List Int32) (c : Int32) : own_val (cs ++ [c]) = 10 * own_val cs + (c.toInt.toNat - 48) := by simp [own_val]
theorem own_fold_le : ∀ (cs : List Int32) (v : Nat), v ≤ cs.foldl (fun v c => 10 * v + (c.toInt.toNat - 48)) v := by
  intro cs
  induction cs with
  | nil => intro v; exact Nat.le_refl _
  | cons a t ih => intro v; exact Nat.le_trans (show v ≤ 10 * v + (a.toInt.toNat - 48) by omega) (ih _)
theorem own_take_mono (ds : List Int32) (k : Nat) : own_val (ds.take k) ≤ own_val ds := by
  have h := own_fold_le (ds.drop k) (own_val (ds.take k))
  have e : own_val ds = (ds.drop k).foldl (fun v c => 10 * v + (c.toInt.toNat - 48)) (own_val (ds.take k)) := by
    unfold own_val
    rw [← List.foldl_append, List.take_append_drop]
  rw [e]; exact h
def own_D (cs : List Int32) : Prop := ∀ c ∈ cs, 48 ≤ c.toInt ∧ c.toInt ≤ 57
theorem own_D_snoc {cs : List Int32} {c : Int32} (h : own_D cs) (hc : 48 ≤ c.toInt ∧ c.toInt ≤ 57) : own_D (cs ++ [c]) := fun z hz => by
  rcases List.mem_append.mp hz with q | q
  · exact h z q
  · rw [List.mem_singleton.mp q]; exact hc
theorem own_D_at {ds : List Int32} (h : own_D ds) {t : Nat} (ht : t < ds.length) : 48 ≤ (ds.getD t 0).toInt ∧ (ds.getD t 0).toInt ≤ 57 := by
  rw [List.getD_eq_getElem?_getD, List.getElem?_eq_getElem ht, Option.getD_some]; exact h _ (List.getElem_mem _)
theorem own_fold_lt : ∀ (cs : List Int32) (v : Nat), own_D cs → cs.foldl (fun v c => 10 * v + (c.toInt.toNat - 48)) v < (v + 1) * 10 ^ cs.length := by
  intro cs
  induction cs with
  | nil => intro v _; simp
  | cons a t ih =>
    intro v h
    have ha := h a (List.mem_cons_self ..)
    have q := ih (10 * v + (a.toInt.toNat - 48)) (fun c hc => h c (List.mem_cons_of_mem _ hc))
    refine Nat.lt_of_lt_of_le q ?_
    rw [List.length_cons, Nat.pow_succ, Nat.mul_comm (10 ^ t.length) 10, ← Nat.mul_assoc]
    exact Nat.mul_le_mul_right _ (by omega)
theorem own_val_lt {cs : List Int32} (h : own_D cs) (hl : cs.length ≤ 10) : own_val cs < 10000000000 := by
  have q := own_fold_lt cs 0 h
  rw [Nat.zero_add, Nat.one_mul] at q
  have e : (10 : Nat) ^ cs.length ≤ 10 ^ 10 := Nat.pow_le_pow_right (by decide) hl
  have e2 : (10 : Nat) ^ 10 = 10000000000 := by decide
  exact Nat.lt_of_lt_of_le q (by omega)
theorem own_48 {rd : Int32} (h : ¬ rd < 0 ∧ ¬ (9 : Int32) < rd) : 48 ≤ ((48 : Int32) + rd).toInt ∧ ((48 : Int32) + rd).toInt ≤ 57 ∧ ((48 : Int32) + rd).toInt = 48 + rd.toInt ∧ 0 ≤ rd.toInt := by
  obtain ⟨h1, h2⟩ := h
  rw [Int32.lt_iff_toInt_lt] at h1 h2
  have e0 : (0 : Int32).toInt = 0 := rfl
  have e9 : (9 : Int32).toInt = 9 := rfl
  rw [e0] at h1
  rw [e9] at h2
  have e : ((48 : Int32) + rd).toInt = 48 + rd.toInt := by rw [Int32.toInt_add, show (48 : Int32).toInt = 48 from rfl, Int.bmod_eq_of_le (by omega) (by omega)]
  omega
theorem own_i2c48 {rd : Int32} (h : ¬ rd < 0 ∧ ¬ (9 : Int32) < rd) : ((48 : Int32) + rd).toUInt32.toUInt16.toUInt32.toInt32 = (48 : Int32) + rd := by
  have q := own_48 h
  have s : ¬ ((48 : Int32) + rd) < 0 ∧ ¬ (255 : Int32) < ((48 : Int32) + rd) := by
    rw [Int32.lt_iff_toInt_lt, Int32.lt_iff_toInt_lt, show (0 : Int32).toInt = 0 from rfl, show (255 : Int32).toInt = 255 from rfl]; omega
  exact own_narC s
theorem own_nar48 {rd : Int32} (h : ¬ rd < 0 ∧ ¬ (9 : Int32) < rd) : nar .char ((48 : Int32) + rd) = (48 : Int32) + rd := own_i2c48 h
theorem own_ofN64 {n : Nat} (h : n < 2 ^ 63) : (Int64.ofNat n).toInt = (n : Int) := Int64.toInt_ofNat_of_lt h
theorem own_cnt {X : List Int32} {rd : Int32} (h : ¬ rd < 0 ∧ ¬ (9 : Int32) < rd) : (((Int64.ofNat (own_val X)) * (10 : Int64)) + (rd.toInt64)) = Int64.ofNat (own_val (X ++ [((48 : Int32) + rd)])) := by
  have q := own_48 h
  rw [own_val_snoc, Int64.ofNat_add, Int64.ofNat_mul, q.2.2.1]
  have e : rd.toInt64 = Int64.ofNat ((48 + rd.toInt).toNat - 48) := by
    apply Int64.toInt_inj.mp
    have b := rd.toInt_lt
    rw [Int32.toInt_toInt64, own_ofN64 (by omega)]; omega
  rw [e, Int64.mul_comm]; rfl
theorem own_cnt0 {rd : Int32} (h : ¬ rd < 0 ∧ ¬ (9 : Int32) < rd) : ((0 : Int64) + (rd.toInt64)) = Int64.ofNat (own_val (([] : List Int32) ++ [((48 : Int32) + rd)])) := by
  have q := own_cnt (X := []) h
  rw [← q]; rfl
theorem own_digit (x : Int64) : ¬ (((x &&& 15) - ((x &&& 15) / 10) * 10).toInt32 < 0) ∧ ¬ ((9 : Int32) < ((x &&& 15) - ((x &&& 15) / 10) * 10).toInt32) := by
  have key : ∀ n : Fin 16, ¬ (((Int64.ofBitVec (BitVec.ofNat 64 n.val)) - ((Int64.ofBitVec (BitVec.ofNat 64 n.val)) / 10) * 10).toInt32 < 0) ∧ ¬ ((9 : Int32) < ((Int64.ofBitVec (BitVec.ofNat 64 n.val)) - ((Int64.ofBitVec (BitVec.ofNat 64 n.val)) / 10) * 10).toInt32) := by decide +kernel
  have h : (x &&& 15).toBitVec.toNat < 16 := by
    rw [Int64.toBitVec_and, BitVec.toNat_and]
    exact Nat.lt_of_le_of_lt Nat.and_le_right (by decide)
  have e : x &&& 15 = Int64.ofBitVec (BitVec.ofNat 64 (x &&& 15).toBitVec.toNat) := by
    apply Int64.toBitVec_inj.mp
    simp
  rw [e]
  exact key ⟨_, h⟩
theorem own_len10 (x : Int32) : ∃ n : Nat, ((1 : Int32) + ((x &&& (2147483647 : Int32)) % (10 : Int32))) = Int32.ofNat n ∧ 1 ≤ n ∧ n ≤ 10 := by
  have h : (x &&& 2147483647).toInt = x.toInt % (2 ^ 31 : Nat) := c_mask x 2147483647 31 (by decide) (by decide)
  have g := (c_irem (x &&& 2147483647) 10 10 (by decide)).1 (by omega)
  have e : ((1 : Int32) + ((x &&& (2147483647 : Int32)) % (10 : Int32))).toInt = 1 + ((x &&& 2147483647) % 10).toInt := by
    rw [Int32.toInt_add, show (1 : Int32).toInt = 1 from rfl, Int.bmod_eq_of_le (by omega) (by omega)]
  refine ⟨(1 + ((x &&& 2147483647) % 10).toInt).toNat, ?_, by omega, by omega⟩
  apply Int32.toInt_inj.mp
  rw [e, own_ofN (by omega)]; omega
def own_U (u : Int32) (n : Nat) : Prop := (u = 115 ∧ n = 1) ∨ (u = 109 ∧ n = 60) ∨ (u = 104 ∧ n = 3600) ∨ (u = 100 ∧ n = 86400) ∨ (u = 119 ∧ n = 604800)
theorem own_U_b {u : Int32} {n : Nat} (h : own_U u n) : 1 ≤ n ∧ n ≤ 604800 ∧ ¬ u < 0 ∧ ¬ (255 : Int32) < u := by
  rcases h with ⟨rfl, rfl⟩ | ⟨rfl, rfl⟩ | ⟨rfl, rfl⟩ | ⟨rfl, rfl⟩ | ⟨rfl, rfl⟩ <;> decide
theorem own_U_nz {u : Int32} {n : Nat} (h : own_U u n) : ¬ (lcmpW (Int64.ofNat n) 0 = 0) ∧ ¬ (Int64.ofNat n = 0) := by
  rcases h with ⟨rfl, rfl⟩ | ⟨rfl, rfl⟩ | ⟨rfl, rfl⟩ | ⟨rfl, rfl⟩ | ⟨rfl, rfl⟩ <;> decide
theorem own_U_div {u : Int32} {n v : Nat} (h : own_U u n) (hv : v * n ≤ 3155760000) : ¬ ((0 : Int32) < lcmpW (Int64.ofNat v) ((3155760000 : Int64) / (Int64.ofNat n))) := by
  rcases h with ⟨rfl, rfl⟩ | ⟨rfl, rfl⟩ | ⟨rfl, rfl⟩ | ⟨rfl, rfl⟩ | ⟨rfl, rfl⟩
  · rw [lw_gt, Int64.lt_iff_toInt_lt, own_ofN64 (by omega), show ((3155760000 : Int64) / (Int64.ofNat 1)).toInt = 3155760000 from by decide]; omega
  · rw [lw_gt, Int64.lt_iff_toInt_lt, own_ofN64 (by omega), show ((3155760000 : Int64) / (Int64.ofNat 60)).toInt = 52596000 from by decide]; omega
  · rw [lw_gt, Int64.lt_iff_toInt_lt, own_ofN64 (by omega), show ((3155760000 : Int64) / (Int64.ofNat 3600)).toInt = 876600 from by decide]; omega
  · rw [lw_gt, Int64.lt_iff_toInt_lt, own_ofN64 (by omega), show ((3155760000 : Int64) / (Int64.ofNat 86400)).toInt = 36525 from by decide]; omega
  · rw [lw_gt, Int64.lt_iff_toInt_lt, own_ofN64 (by omega), show ((3155760000 : Int64) / (Int64.ofNat 604800)).toInt = 5217 from by decide]; omega
theorem own_lm1 (ds : List Int32) (u : Int32) (h : ds.length ≤ 10) : ((Int32.ofNat (ds ++ [u]).length) - (1 : Int32)) = (Int32.ofNat ds.length) := by
  apply Int32.toInt_inj.mp
  rw [Int32.toInt_sub, List.length_append, List.length_singleton, own_ofN (by omega), own_ofN (by omega), show (1 : Int32).toInt = 1 from rfl, Int.bmod_eq_of_le (by omega) (by omega)]; omega
theorem own_last (ds : List Int32) (u : Int32) : (ds ++ [u]).getD ds.length 0 = u := by simp [List.getD_eq_getElem?_getD]
theorem own_atd {ds : List Int32} (u : Int32) {i : Nat} (h : i < ds.length) : (ds ++ [u]).getD i 0 = ds.getD i 0 := by
  simp only [List.getD_eq_getElem?_getD, List.getElem?_append_left h]
theorem own_turn {ds : List Int32} {u : Int32} {i : Nat} (hd : own_D ds) (hi : i < ds.length) : (48 ≤ ((ds ++ [u]).getD i 0).toInt ∧ ((ds ++ [u]).getD i 0).toInt ≤ 57) ∧ (((Int64.ofNat (own_val (ds.take i))) * (10 : Int64)) + (((((ds ++ [u]).getD i 0) - (48 : Int32))).toInt64)) = Int64.ofNat (own_val (ds.take (i + 1))) := by
  rw [own_atd u hi]
  have q := own_D_at hd hi
  refine ⟨q, ?_⟩
  rw [List.take_add_one, List.getElem?_eq_getElem hi, Option.toList_some, own_val_snoc, Int64.ofNat_add, Int64.ofNat_mul]
  rw [List.getD_eq_getElem?_getD, List.getElem?_eq_getElem hi, Option.getD_some] at q ⊢
  have e : (ds[i] - 48).toInt64 = Int64.ofNat (ds[i].toInt.toNat - 48) := by
    apply Int64.toInt_inj.mp
    rw [Int32.toInt_toInt64, Int32.toInt_sub, show (48 : Int32).toInt = 48 from rfl, Int.bmod_eq_of_le (by omega) (by omega), own_ofN64 (by omega)]; omega
  rw [e, Int64.mul_comm]; rfl
theorem own_turn0 {ds : List Int32} {u : Int32} (hd : own_D ds) (hi : 0 < ds.length) : ((0 : Int64) + (((((ds ++ [u]).getD 0 0) - (48 : Int32))).toInt64)) = Int64.ofNat (own_val (ds.take (0 + 1))) := by
  rw [← (own_turn (u := u) hd hi).2]; rfl
theorem own_d48 {x : Int32} (h : 48 ≤ x.toInt) : ¬ (x < (48 : Int32)) := by rw [Int32.lt_iff_toInt_lt, show (48 : Int32).toInt = 48 from rfl]; omega
theorem own_d57 {x : Int32} (h : x.toInt ≤ 57) : ¬ ((57 : Int32) < x) := by rw [Int32.lt_iff_toInt_lt, show (57 : Int32).toInt = 57 from rfl]; omega
theorem own_ltN {i n : Nat} (h : i < n) (hn : n ≤ 4000) : Int32.ofNat i < Int32.ofNat n := by rw [Int32.lt_iff_toInt_lt, own_ofN (by omega), own_ofN (by omega)]; omega
theorem own_nltN {i n : Nat} (h : n ≤ i) (hn : i ≤ 4000) : ¬ (Int32.ofNat i < Int32.ofNat n) := by rw [Int32.lt_iff_toInt_lt, own_ofN (by omega), own_ofN (by omega)]; omega
theorem own_ltN' {i n : Nat} (h : Int32.ofNat i < Int32.ofNat n) (hi : i ≤ 4000) (hn : n ≤ 4000) : i < n := by rw [Int32.lt_iff_toInt_lt, own_ofN (by omega), own_ofN (by omega)] at h; omega
theorem own_nltN' {i n : Nat} (h : ¬ (Int32.ofNat i < Int32.ofNat n)) (hi : i ≤ 4000) (hn : n ≤ 4000) : n ≤ i := by rw [Int32.lt_iff_toInt_lt, own_ofN (by omega), own_ofN (by omega)] at h; omega
theorem own_mul64 (a b : Nat) : ((Int64.ofNat a) * (Int64.ofNat b)) = (Int64.ofNat (a * b)) := (Int64.ofNat_mul a b).symm
theorem own_secle {v n : Nat} (hv : v < 10000000000) (hn : n ≤ 604800) (h : ¬ ((0 : Int32) < lcmpW (Int64.ofNat (v * n)) (3155760000 : Int64))) : v * n ≤ 3155760000 := by
  have b : v * n ≤ 10000000000 * 604800 := Nat.mul_le_mul (Nat.le_of_lt hv) hn
  rw [lw_gt, Int64.lt_iff_toInt_lt, own_ofN64 (by omega), show (3155760000 : Int64).toInt = 3155760000 from rfl] at h
  omega
theorem own_addj {p : Int32} {k : Nat} (j : Nat) (h : p = Int32.ofNat k) : p + Int32.ofNat j = Int32.ofNat (k + j) := by rw [h]; exact (Int32.ofNat_add k j).symm
theorem own_or0 (x : Int64) : x ||| ((0 : Int32).toInt64) = x := by
  rw [show (0 : Int32).toInt64 = 0 from by decide]; exact Int64.or_zero
theorem own_smallD {ds : List Int32} {u : Int32} {n : Nat} (hd : own_D ds) (hu : own_U u n) : ∀ c ∈ (ds ++ [u]), ¬ c < 0 ∧ ¬ (255 : Int32) < c := fun c hc => by
  rcases List.mem_append.mp hc with q | q
  · have := hd c q
    rw [Int32.lt_iff_toInt_lt, Int32.lt_iff_toInt_lt, show (0 : Int32).toInt = 0 from rfl, show (255 : Int32).toInt = 255 from rfl]; omega
  · rw [List.mem_singleton.mp q]; exact (own_U_b hu).2.2
end OwnDur

theorem own_ef_rm_canEnc (m : MethodId) (x0 : Int32) : entryFrame m #[(.int x0)] 1 = mkF m 0 #[.val (.int x0)] [] := by first | (simp [entryFrame, mkF, argsToLocals, Value.category]; done) | rfl
theorem own_pn0 : plainName "java/lang/StringLatin1" = true := by first | (simp [plainName, overriddenIn]; done) | decide +kernel
theorem od0_0 : decode jdk_43_method_3_code 0 = .ok (.iload_n 0, 1) := by decide +kernel
theorem od0_1 : decode jdk_43_method_3_code 1 = .ok (.sipush 255, 3) := by decide +kernel
theorem od0_4 : decode jdk_43_method_3_code 4 = .ok (.if_icmp .gt 7, 3) := by decide +kernel
theorem od0_7 : decode jdk_43_method_3_code 7 = .ok (.iconst 1, 1) := by decide +kernel
theorem od0_8 : decode jdk_43_method_3_code 8 = .ok (.goto 4, 3) := by decide +kernel
theorem od0_12 : decode jdk_43_method_3_code 12 = .ok (.ireturn, 1) := by decide +kernel
def Q_rm_canEnc (Z : State) (g_CS : Int32) (p0 : Int32) (h0 : Heap) (n0 : Nat) (v : Option Value) (h : Heap) (L : List Loc) : Prop := v = some (.int (1 : Int32)) ∧ Fr n0 L ∧ h = h0
set_option maxRecDepth 65536 in
set_option maxHeartbeats 40000000 in
theorem rm_canEnc (l : Launch) (Z : State) (a0 : Array Value) (hw : ∀ d ∈ tables_1, d.before a0 Z = true) (ws : List Jvm.Cond) (g_CS : Int32) (S_CS : Sta Z Z.heap "java/lang/String" "COMPACT_STRINGS" "Z" (.int g_CS)) (nz_CS : ¬ (g_CS = (0 : Int32))) (p0 : Int32) (h0 : Heap) (n0 : Nat) (X00 : Old Z n0 h0) (hsm : ¬ p0 < 0 ∧ ¬ (255 : Int32) < p0) :
    MetFree l (⟨"java/lang/StringLatin1", "canEncode", "(C)Z"⟩ : MethodName) (head1 (Jvm.Cond.code (⟨"java/lang/StringLatin1", "canEncode", "(C)Z"⟩ : MethodName) jdk_43_method_3_code 1 (some .boolean) :: ws) ({ frames := 0, cells := 0, slots := 0, locals := 0 } : Room)) (fun a U => a = #[(.int p0)] ∧ Z.Warmed39 U.vm ∧ U.heap = h0) (fun _ _ _ _ _ => True) (fun _ U o U' => ∃ v L, o = .returned v ∧ Q_rm_canEnc Z g_CS p0 h0 n0 v U'.heap L ∧ FrameEnd U o U' L ({ frames := 0, cells := 0, slots := 0, locals := 0 } : Room).cells ({ frames := 0, cells := 0, slots := 0, locals := 0 } : Room).slots) := by
  refine MetFree.of_bodySF (plainFor_of_name own_pn0) hisR ?_
  intro p e s m args below meth c s₁ Bd hml0 hP hK
  obtain ⟨rfl, hZ, hh⟩ := hP
  have hx := Bd.exec
  have hby := Bd.bytes
  have hml : c.maxLocals = 1 := hml0
  have hown : s.vm.findClass "java/lang/StringLatin1" = some m.cls := findClass_of_methodNamed Bd.named
  have hnm := (name_of_methodNamed Bd.named Bd.method).1
  have X0 : Stand p l e ({ frames := 0, cells := 0, slots := 0, locals := 0 } : Room) s m #[(.int p0)] below meth c s₁ [] 0 0 := Stand.of_body Bd
  have e0 : s₁.heap = h0 := by rw [← hh, Bd.state]; rfl
  have N0 := Fr.nil n0
  refine Go.start fun P hPend => ?_
  refine Go.st (fun _ k => castTop (own_ef_rm_canEnc m p0) k) ?_
  show Go _ _ _ _ (s₁.setTop (mkF m 0 #[lI p0] []))
  refine Go.st (fun _ => XS.iloadN X0.here hx rfl (hb hby od0_0) rfl) ?_
  refine Go.st (fun _ => XS.sipush X0.here hx rfl (hb hby od0_1)) ?_
  show Go _ _ _ _ (s₁.setTop (mkF m 4 #[lI p0] [(.int (255 : Int32)), (.int p0)]))
  have hb1 : ¬ ((255 : Int32) < p0) := hsm.2
  refine Go.st (fun _ => XS.icmpNo X0.here hx rfl (hb hby od0_4) rfl (flt hb1).2.2.1) ?_
  show Go _ _ _ _ (s₁.setTop (mkF m 7 #[lI p0] []))
  refine Go.st (fun _ => XS.iconst X0.here hx rfl (hb hby od0_7)) ?_
  show Go _ _ _ _ (s₁.setTop (mkF m 8 #[lI p0] [(.int (1 : Int32))]))
  refine Go.st (fun _ => XS.goto X0.here hx rfl (pc0 := 8) (pc' := 12) rfl (hb hby od0_8) (by decide) (by decide)) ?_
  show Go _ _ _ _ (s₁.setTop (mkF m 12 #[lI p0] [(.int (1 : Int32))]))
  obtain ⟨fs, hr, hrun, hended, hW, hsame⟩ := X0.leave (v := some (.int (1 : Int32))) (fun h => by rw [Bd.returns] at h; cases h)
  refine ⟨_, ?_, hPend _ _ hrun hended ⟨_, _, rfl, ?_, ⟨_, rfl⟩, hW, hsame.mono (by decide) (by decide)⟩⟩
  · exact retN X0 hx (t := .boolean) Bd.returns (by simp) (hb hby od0_12) hr
  · show Q_rm_canEnc Z _ _ h0 n0 _ s₁.heap _
    rw [e0]
    exact ⟨rfl, N0, rfl⟩
theorem own_ef_rm_toB (m : MethodId) (x0 : Int32) : entryFrame m #[(.int x0)] 1 = mkF m 0 #[.val (.int x0)] [] := by first | (simp [entryFrame, mkF, argsToLocals, Value.category]; done) | rfl
theorem od1_0 : decode jdk_43_method_46_code 0 = .ok (.iconst 1, 1) := by decide +kernel
theorem od1_1 : decode jdk_43_method_46_code 1 = .ok (.newarray .byte, 2) := by decide +kernel
theorem od1_3 : decode jdk_43_method_46_code 3 = .ok (.dup, 1) := by decide +kernel
theorem od1_4 : decode jdk_43_method_46_code 4 = .ok (.iconst 0, 1) := by decide +kernel
theorem od1_5 : decode jdk_43_method_46_code 5 = .ok (.iload_n 0, 1) := by decide +kernel
theorem od1_6 : decode jdk_43_method_46_code 6 = .ok (.i2b, 1) := by decide +kernel
theorem od1_7 : decode jdk_43_method_46_code 7 = .ok (.bastore, 1) := by decide +kernel
theorem od1_8 : decode jdk_43_method_46_code 8 = .ok (.areturn, 1) := by decide +kernel
def Q_rm_toB (Z : State) (g_CS : Int32) (p0 : Int32) (h0 : Heap) (n0 : Nat) (v : Option Value) (h : Heap) (L : List Loc) : Prop := ∃ (ob : Addr) (kb : ClassId), v = some (.ref ob) ∧ Fr n0 L ∧ Keep h0 h [] ∧ h0.size ≤ ob ∧ Arv Z h ob kb .byte (1 : Int32) [(.int p0.toInt8.toInt32)] (.int (0 : Int32))
set_option maxRecDepth 65536 in
set_option maxHeartbeats 40000000 in
theorem rm_toB (l : Launch) (Z : State) (a0 : Array Value) (hw : ∀ d ∈ tables_1, d.before a0 Z = true) (ws : List Jvm.Cond) (g_CS : Int32) (S_CS : Sta Z Z.heap "java/lang/String" "COMPACT_STRINGS" "Z" (.int g_CS)) (nz_CS : ¬ (g_CS = (0 : Int32))) (p0 : Int32) (h0 : Heap) (n0 : Nat) (X00 : Old Z n0 h0)  :
    MetFree l (⟨"java/lang/StringLatin1", "toBytes", "(C)[B"⟩ : MethodName) (head1 (Jvm.Cond.code (⟨"java/lang/StringLatin1", "toBytes", "(C)[B"⟩ : MethodName) jdk_43_method_46_code 1 (some (.array .byte)) :: ws) ({ frames := 0, cells := 1, slots := 1, locals := 0 } : Room)) (fun a U => a = #[(.int p0)] ∧ Z.Warmed39 U.vm ∧ U.heap = h0) (fun _ _ _ _ _ => True) (fun _ U o U' => ∃ v L, o = .returned v ∧ Q_rm_toB Z g_CS p0 h0 n0 v U'.heap L ∧ FrameEnd U o U' L ({ frames := 0, cells := 1, slots := 1, locals := 0 } : Room).cells ({ frames := 0, cells := 1, slots := 1, locals := 0 } : Room).slots) := by
  refine MetFree.of_bodySF (plainFor_of_name own_pn0) hisR ?_
  intro p e s m args below meth c s₁ Bd hml0 hP hK
  obtain ⟨rfl, hZ, hh⟩ := hP
  have hx := Bd.exec
  have hby := Bd.bytes
  have hml : c.maxLocals = 1 := hml0
  have hown : s.vm.findClass "java/lang/StringLatin1" = some m.cls := findClass_of_methodNamed Bd.named
  have hnm := (name_of_methodNamed Bd.named Bd.method).1
  have X0 : Stand p l e ({ frames := 0, cells := 1, slots := 1, locals := 0 } : Room) s m #[(.int p0)] below meth c s₁ [] 0 0 := Stand.of_body Bd
  have e0 : s₁.heap = h0 := by rw [← hh, Bd.state]; rfl
  have N0 := Fr.nil n0
  refine Go.start fun P hPend => ?_
  refine Go.st (fun _ k => castTop (own_ef_rm_toB m p0) k) ?_
  show Go _ _ _ _ (s₁.setTop (mkF m 0 #[lI p0] []))
  refine Go.st (fun _ => XS.iconst X0.here hx rfl (hb hby od1_0)) ?_
  show Go _ _ _ _ (s₁.setTop (mkF m 1 #[lI p0] [(.int (1 : Int32))]))
  obtain ⟨T1, h1, k1, X1, e1, E1, A1, st1⟩ := newP X0 hx hZ (ow hw 24 rfl) e0 (g := (mkF m 1 #[.val (.int p0)] [(.int (1 : Int32))])) rfl (hb hby od1_1) rfl (by decide) (cap := 1) (by decide) (by decide) (by decide) (by decide)
  obtain ⟨b1, g1⟩ : ∃ z, z = h0.size := ⟨_, rfl⟩
  rw [← g1] at A1 st1
  refine Go.st st1 ?_
  have g_b1 : n0 ≤ b1 := Nat.le_trans (own_oldsz X00) (Nat.le_of_eq g1.symm)
  have sz_b1 : h0.size ≤ b1 := Nat.le_trans (Keep.refl h0 []).1 (Nat.le_of_eq g1.symm)
  have K1 : Keep h0 h1 [] := (Keep.refl h0 []).ext E1
  have O1 := X00.ext E1
  have V1 : Arv Z h1 b1 k1 .byte (1 : Int32) [(.int (0 : Int32))] (.int (0 : Int32)) := (Arv.new A1 (by decide)).pad (pad_rep [] (.int (0 : Int32)) 1)
  show Go _ _ _ _ (T1.setTop (mkF m 3 #[lI p0] [(.ref b1)]))
  refine Go.st (fun _ => XS.dup X1.here hx rfl (hb hby od1_3) rfl rfl) ?_
  refine Go.st (fun _ => XS.iconst X1.here hx rfl (hb hby od1_4)) ?_
  refine Go.st (fun _ => XS.iloadN X1.here hx rfl (hb hby od1_5) rfl) ?_
  show Go _ _ _ _ (T1.setTop (mkF m 6 #[lI p0] [(.int p0), (.int (0 : Int32)), (.ref b1), (.ref b1)]))
  refine Go.st (fun _ => XS.i2b X1.here hx rfl (hb hby od1_6) rfl) ?_
  show Go _ _ _ _ (T1.setTop (mkF m 7 #[lI p0] [(.int (p0.toInt8.toInt32)), (.int (0 : Int32)), (.ref b1), (.ref b1)]))
  obtain ⟨T2, h2, X2, e2, W2, V2, st2⟩ := own_stB X1 hx hZ e1 V1 (j := (0 : Int32)) (i := 0) (by decide) (by decide) (Nat.le_of_ble_eq_true rfl) (g := (mkF m 7 #[.val (.int p0)] [(.int (p0.toInt8.toInt32)), (.int (0 : Int32)), (.ref b1), (.ref b1)])) rfl rfl (hb hby od1_7)
  refine Go.st st2 ?_
  rw [show nar .byte (p0.toInt8.toInt32) = (p0.toInt8.toInt32) from own_nar_i2b _] at V2
  have K2 : Keep h0 h2 [] := K1.wr W2 (Or.inr sz_b1)
  have O2 := O1.wr W2 g_b1
  have N2 := Fr.snoc X2 N0 g_b1
  have V2' : Arv Z h2 b1 k1 .byte (1 : Int32) [(.int (p0.toInt8.toInt32))] (.int (0 : Int32)) := V2
  show Go _ _ _ _ (T2.setTop (mkF m 8 #[lI p0] [(.ref b1)]))
  obtain ⟨fs, hr, hrun, hended, hW, hsame⟩ := X2.leave (v := some (.ref b1)) (fun h => by rw [Bd.returns] at h; cases h)
  refine ⟨_, ?_, hPend _ _ hrun hended ⟨_, _, rfl, ?_, ⟨_, rfl⟩, hW, hsame.mono (by decide) (by decide)⟩⟩
  · exact retOut X2 hx (t := (.array .byte)) Bd.returns rfl (Or.inr (Or.inr (Or.inr (Or.inr ⟨rfl, rfl, rfl⟩)))) (hb hby od1_8) hr
  · show Q_rm_toB Z _ _ h0 n0 _ T2.heap _
    rw [e2]
    exact ⟨b1, k1, rfl, N2, K2, sz_b1, V2'⟩
theorem own_ef_rm_sBB (m : MethodId) (x0 : Addr) (x1 : Addr) (x2 : Int32) : entryFrame m #[(.ref x0), (.ref x1), (.int x2)] 3 = mkF m 0 #[.val (.ref x0), .val (.ref x1), .val (.int x2)] [] := by first | (simp [entryFrame, mkF, argsToLocals, Value.category]; done) | rfl
theorem own_pn1 : plainName "java/lang/String" = true := by first | (simp [plainName, overriddenIn]; done) | decide +kernel
theorem od2_0 : decode jdk_42_method_151_code 0 = .ok (.aload_n 0, 1) := by decide +kernel
theorem od2_1 : decode jdk_42_method_151_code 1 = .ok (.invokespecial 1, 3) := by decide +kernel
theorem od2_4 : decode jdk_42_method_151_code 4 = .ok (.aload_n 0, 1) := by decide +kernel
theorem od2_5 : decode jdk_42_method_151_code 5 = .ok (.aload_n 1, 1) := by decide +kernel
theorem od2_6 : decode jdk_42_method_151_code 6 = .ok (.putfield 9, 3) := by decide +kernel
theorem od2_9 : decode jdk_42_method_151_code 9 = .ok (.aload_n 0, 1) := by decide +kernel
theorem od2_10 : decode jdk_42_method_151_code 10 = .ok (.iload_n 2, 1) := by decide +kernel
theorem od2_11 : decode jdk_42_method_151_code 11 = .ok (.putfield 15, 3) := by decide +kernel
theorem od2_14 : decode jdk_42_method_151_code 14 = .ok (.return_, 1) := by decide +kernel
def Q_rm_sBB (Z : State) (g_CS : Int32) (p0 : Addr) (p1 : Addr) (p2 : Int32) (h0 : Heap) (n0 : Nat) (v : Option Value) (h : Heap) (L : List Loc) : Prop := v = none ∧ Fr n0 L ∧ Keep h0 h [p0] ∧ Exa Z h p0 "java/lang/String" ∧ Fld Z h p0 "java/lang/String" "value" "[B" (.ref p1) ∧ Fld Z h p0 "java/lang/String" "coder" "B" (.int p2)
set_option maxRecDepth 65536 in
set_option maxHeartbeats 40000000 in
theorem rm_sBB (l : Launch) (Z : State) (a0 : Array Value) (hw : ∀ d ∈ tables_1, d.before a0 Z = true) (ws : List Jvm.Cond) (g_CS : Int32) (S_CS : Sta Z Z.heap "java/lang/String" "COMPACT_STRINGS" "Z" (.int g_CS)) (nz_CS : ¬ (g_CS = (0 : Int32))) (p0 : Addr) (p1 : Addr) (p2 : Int32) (h0 : Heap) (n0 : Nat) (X00 : Old Z n0 h0) (hp0 : Exa Z h0 p0 "java/lang/String") (hp1 : Fld Z h0 p0 "java/lang/String" "value" "[B" .null) (hp2 : Fld Z h0 p0 "java/lang/String" "coder" "B" (.int (0 : Int32))) (hp3 : n0 ≤ p0) (hn2 : narrow .byte (.int p2) = .int p2) (hf2 : fits .byte (.int p2) = true) :
    MetFree l (⟨"java/lang/String", "<init>", "([BB)V"⟩ : MethodName) (head1 (Jvm.Cond.code (⟨"java/lang/String", "<init>", "([BB)V"⟩ : MethodName) jdk_42_method_151_code 3 none :: ws) ({ frames := 1, cells := 0, slots := 0, locals := 12 } : Room)) (fun a U => a = #[(.ref p0), (.ref p1), (.int p2)] ∧ Z.Warmed39 U.vm ∧ U.heap = h0) (fun _ _ _ _ _ => True) (fun _ U o U' => ∃ v L, o = .returned v ∧ Q_rm_sBB Z g_CS p0 p1 p2 h0 n0 v U'.heap L ∧ FrameEnd U o U' L ({ frames := 1, cells := 0, slots := 0, locals := 12 } : Room).cells ({ frames := 1, cells := 0, slots := 0, locals := 12 } : Room).slots) := by
  refine MetFree.of_bodySF (plainFor_of_name own_pn1) hisR ?_
  intro p e s m args below meth c s₁ Bd hml0 hP hK
  obtain ⟨rfl, hZ, hh⟩ := hP
  have hx := Bd.exec
  have hby := Bd.bytes
  have hml : c.maxLocals = 3 := hml0
  have hown : s.vm.findClass "java/lang/String" = some m.cls := findClass_of_methodNamed Bd.named
  have hnm := (name_of_methodNamed Bd.named Bd.method).1
  have X0 : Stand p l e ({ frames := 1, cells := 0, slots := 0, locals := 12 } : Room) s m #[(.ref p0), (.ref p1), (.int p2)] below meth c s₁ [] 0 0 := Stand.of_body Bd
  have e0 : s₁.heap = h0 := by rw [← hh, Bd.state]; rfl
  have N0 := Fr.nil n0
  refine Go.start fun P hPend => ?_
  refine Go.st (fun _ k => castTop (own_ef_rm_sBB m p0 p1 p2) k) ?_
  show Go _ _ _ _ (s₁.setTop (mkF m 0 #[lR p0, lR p1, lI p2] []))
  refine Go.st (fun _ => XS.aloadN X0.here hx rfl (hb hby od2_0) rfl rfl) ?_
  show Go _ _ _ _ (s₁.setTop (mkF m 1 #[lR p0, lR p1, lI p2] [(.ref p0)]))
  obtain ⟨T1, X1, e1, st1⟩ := initO X0 hx hZ hown (ow hw 29 rfl) (ow hw 30 rfl) (ow hw 31 rfl) e0 (g := (mkF m 1 #[.val (.ref p0), .val (.ref p1), .val (.int p2)] [(.ref p0)])) rfl (by rw [hml]; rfl) rfl (hb hby od2_1) (by decide) (W := 0) (by show 2 * 0 + _ ≤ _; exact Nat.le_of_eq rfl) (by decide)
  refine Go.st st1 ?_
  show Go _ _ _ _ (T1.setTop (mkF m 4 #[lR p0, lR p1, lI p2] []))
  refine Go.st (fun _ => XS.aloadN X1.here hx rfl (hb hby od2_4) rfl rfl) ?_
  refine Go.st (fun _ => XS.aloadN X1.here hx rfl (hb hby od2_5) rfl rfl) ?_
  show Go _ _ _ _ (T1.setTop (mkF m 6 #[lR p0, lR p1, lI p2] [(.ref p1), (.ref p0)]))
  obtain ⟨T2, h2, X2, e2, W2, st2⟩ := putF X1 hx hZ hown (host := "") (Or.inl (ow hw 32 rfl)) Via.refl e1 hp1 hp0 (Or.inr ⟨(ow hw 33 rfl), rfl, hnm⟩) (ow hw 20 rfl) (ty := (.array .byte)) (by decide) rfl rfl (g := (mkF m 6 #[.val (.ref p0), .val (.ref p1), .val (.int p2)] [(.ref p1), (.ref p0)])) rfl rfl (hb hby od2_6)
  refine Go.st st2 ?_
  have K2 : Keep h0 h2 [p0] := (Keep.refl h0 [p0]).wr W2 (Or.inl (List.mem_of_getElem? (i := 0) rfl))
  have O2 := X00.wr W2 hp3
  have N2 := Fr.snoc X2 N0 hp3
  have F2 := hp1.same W2
  show Go _ _ _ _ (T2.setTop (mkF m 9 #[lR p0, lR p1, lI p2] []))
  refine Go.st (fun _ => XS.aloadN X2.here hx rfl (hb hby od2_9) rfl rfl) ?_
  refine Go.st (fun _ => XS.iloadN X2.here hx rfl (hb hby od2_10) rfl) ?_
  show Go _ _ _ _ (T2.setTop (mkF m 11 #[lR p0, lR p1, lI p2] [(.int p2), (.ref p0)]))
  have c3 := (hp2.other W2 (Or.inr (slot_ne (Or.inr (ow hw 35 rfl)) (Or.inr (ow hw 33 rfl)) (by decide) (t := .byte) (t' := (.array .byte)) (by decide) (by decide))))
  have c4 := (hp0.wr W2)
  obtain ⟨T5, h5, X5, e5, W5, st5⟩ := putF X2 hx hZ hown (host := "") (Or.inl (ow hw 34 rfl)) Via.refl e2 c3 c4 (Or.inr ⟨(ow hw 35 rfl), rfl, hnm⟩) (ow hw 20 rfl) (ty := .byte) (by decide) hn2 hf2 (g := (mkF m 11 #[.val (.ref p0), .val (.ref p1), .val (.int p2)] [(.int p2), (.ref p0)])) rfl rfl (hb hby od2_11)
  refine Go.st st5 ?_
  have K5 : Keep h0 h5 [p0] := K2.wr W5 (Or.inl (List.mem_of_getElem? (i := 0) rfl))
  have O5 := O2.wr W5 hp3
  have N5 := Fr.snoc X5 N2 hp3
  have F5 := c3.same W5
  show Go _ _ _ _ (T5.setTop (mkF m 14 #[lR p0, lR p1, lI p2] []))
  obtain ⟨fs, hr, hrun, hended, hW, hsame⟩ := X5.leave (v := none) (fun _ => rfl)
  refine ⟨_, ?_, hPend _ _ hrun hended ⟨_, _, rfl, ?_, ⟨_, rfl⟩, hW, hsame.mono (by decide) (by decide)⟩⟩
  · exact X5.returnOut hx Bd.returns (hb hby od2_14) hr
  · show Q_rm_sBB Z _ _ _ _ h0 n0 _ T5.heap _
    rw [e5]
    have c6 := (c4.wr W5)
    have c7 := (F2.other W5 (Or.inr (slot_ne (Or.inr (ow hw 33 rfl)) (Or.inr (ow hw 35 rfl)) (by decide) (t := (.array .byte)) (t' := .byte) (by decide) (by decide))))
    exact ⟨rfl, N5, K5, c6, c7, F5⟩
theorem own_ef_rm_valOf (m : MethodId) (x0 : Int32) : entryFrame m #[(.int x0)] 1 = mkF m 0 #[.val (.int x0)] [] := by first | (simp [entryFrame, mkF, argsToLocals, Value.category]; done) | rfl
theorem od3_0 : decode jdk_42_method_139_code 0 = .ok (.getstatic 38, 3) := by decide +kernel
theorem od3_3 : decode jdk_42_method_139_code 3 = .ok (.ifCond .eq 23, 3) := by decide +kernel
theorem od3_6 : decode jdk_42_method_139_code 6 = .ok (.iload_n 0, 1) := by decide +kernel
theorem od3_7 : decode jdk_42_method_139_code 7 = .ok (.invokestatic 1015, 3) := by decide +kernel
theorem own_pd0 : parseMethodDescriptor "(C)Z" = some ⟨[.char], some .boolean⟩ := by decide +kernel
theorem od3_10 : decode jdk_42_method_139_code 10 = .ok (.ifCond .eq 16, 3) := by decide +kernel
theorem od3_13 : decode jdk_42_method_139_code 13 = .ok (.new 10, 3) := by decide +kernel
theorem od3_16 : decode jdk_42_method_139_code 16 = .ok (.dup, 1) := by decide +kernel
theorem od3_17 : decode jdk_42_method_139_code 17 = .ok (.iload_n 0, 1) := by decide +kernel
theorem od3_18 : decode jdk_42_method_139_code 18 = .ok (.invokestatic 1018, 3) := by decide +kernel
theorem own_pd1 : parseMethodDescriptor "(C)[B" = some ⟨[.char], some (.array .byte)⟩ := by decide +kernel
theorem od3_21 : decode jdk_42_method_139_code 21 = .ok (.iconst 0, 1) := by decide +kernel
theorem od3_22 : decode jdk_42_method_139_code 22 = .ok (.invokespecial 209, 3) := by decide +kernel
theorem own_pd2 : parseMethodDescriptor "([BB)V" = some ⟨[(.array .byte), .byte], none⟩ := by decide +kernel
theorem od3_25 : decode jdk_42_method_139_code 25 = .ok (.areturn, 1) := by decide +kernel
def Q_rm_valOf (Z : State) (g_CS : Int32) (p0 : Int32) (h0 : Heap) (n0 : Nat) (v : Option Value) (h : Heap) (L : List Loc) : Prop := ∃ (ob : Addr) (vb : Addr) (kb : ClassId), v = some (.ref ob) ∧ Fr n0 L ∧ Keep h0 h [] ∧ h0.size ≤ ob ∧ h0.size ≤ vb ∧ Exa Z h ob "java/lang/String" ∧ Fld Z h ob "java/lang/String" "coder" "B" (.int (0 : Int32)) ∧ Fld Z h ob "java/lang/String" "value" "[B" (.ref vb) ∧ Arv Z h vb kb .byte (1 : Int32) [(.int p0.toInt8.toInt32)] (.int (0 : Int32))
set_option maxRecDepth 65536 in
set_option maxHeartbeats 40000000 in
theorem rm_valOf (l : Launch) (Z : State) (a0 : Array Value) (hw : ∀ d ∈ tables_1, d.before a0 Z = true) (ws : List Jvm.Cond) (g_CS : Int32) (S_CS : Sta Z Z.heap "java/lang/String" "COMPACT_STRINGS" "Z" (.int g_CS)) (nz_CS : ¬ (g_CS = (0 : Int32))) (p0 : Int32) (h0 : Heap) (n0 : Nat) (X00 : Old Z n0 h0) (hsm : ¬ p0 < 0 ∧ ¬ (255 : Int32) < p0) :
    MetFree l (⟨"java/lang/String", "valueOf", "(C)Ljava/lang/String;"⟩ : MethodName) (head1 (Jvm.Cond.code (⟨"java/lang/String", "valueOf", "(C)Ljava/lang/String;"⟩ : MethodName) jdk_42_method_139_code 1 (some (.object "java/lang/String")) :: ws) ({ frames := 2, cells := 2, slots := 5, locals := 27 } : Room)) (fun a U => a = #[(.int p0)] ∧ Z.Warmed39 U.vm ∧ U.heap = h0) (fun _ _ _ _ _ => True) (fun _ U o U' => ∃ v L, o = .returned v ∧ Q_rm_valOf Z g_CS p0 h0 n0 v U'.heap L ∧ FrameEnd U o U' L ({ frames := 2, cells := 2, slots := 5, locals := 27 } : Room).cells ({ frames := 2, cells := 2, slots := 5, locals := 27 } : Room).slots) := by
  refine MetFree.of_bodySF (plainFor_of_name own_pn1) hisR ?_
  intro p e s m args below meth c s₁ Bd hml0 hP hK
  obtain ⟨rfl, hZ, hh⟩ := hP
  have hx := Bd.exec
  have hby := Bd.bytes
  have hml : c.maxLocals = 1 := hml0
  have hown : s.vm.findClass "java/lang/String" = some m.cls := findClass_of_methodNamed Bd.named
  have hnm := (name_of_methodNamed Bd.named Bd.method).1
  have X0 : Stand p l e ({ frames := 2, cells := 2, slots := 5, locals := 27 } : Room) s m #[(.int p0)] below meth c s₁ [] 0 0 := Stand.of_body Bd
  have e0 : s₁.heap = h0 := by rw [← hh, Bd.state]; rfl
  have N0 := Fr.nil n0
  refine Go.start fun P hPend => ?_
  refine Go.st (fun _ k => castTop (own_ef_rm_valOf m p0) k) ?_
  show Go _ _ _ _ (s₁.setTop (mkF m 0 #[lI p0] []))
  obtain ⟨T1, X1, e1, st1⟩ := getS2 X0 hx hZ hown (host := "") (Or.inl (ow hw 14 rfl)) Via.refl e0 (S_CS.ext X00.2) (g := (mkF m 0 #[.val (.int p0)] [])) rfl (hb hby od3_0)
  refine Go.st st1 ?_
  show Go _ _ _ _ (T1.setTop (mkF m 3 #[lI p0] [(.int g_CS)]))
  have hb2 : ¬ (g_CS = (0 : Int32)) := nz_CS
  refine Go.st (fun _ => XS.ifNo X1.here hx rfl (hb hby od3_3) rfl ((if0 _ _).trans (feq hb2).1)) ?_
  show Go _ _ _ _ (T1.setTop (mkF m 6 #[lI p0] []))
  refine Go.st (fun _ => XS.iloadN X1.here hx rfl (hb hby od3_6) rfl) ?_
  show Go _ _ _ _ (T1.setTop (mkF m 7 #[lI p0] [(.int p0)]))
  obtain ⟨_, _, ⟨T3, L3, k3, n3⟩, -, X3, ⟨Lc3, hQ3, l3, y3, z3⟩, st3⟩ := Jvm.LawKit.callS X1 hx (y := (⟨"java/lang/StringLatin1", "canEncode", "(C)Z"⟩ : MethodName)) hown (mvT hZ (ow hw 15 rfl)) (mvT hZ (ow hw 16 rfl)) (mvT hZ (ow hw 17 rfl)) (mvT hZ (ow hw 18 rfl)) (by decide) (backOf (W := 0) (rm_canEnc l Z a0 hw [] g_CS S_CS nz_CS p0 h0 n0 X00 hsm) hZ (ow hw 18 rfl) (ow hw 17 rfl) (by decide) (by decide)) (g := (mkF m 7 #[.val (.int p0)] [(.int p0)])) rfl (by rw [hml]; rfl) (argsL := [(.int p0)]) (rest := []) (lenOf own_pd0 rfl) rfl (by show 2 * 0 + _ ≤ _; exact Nat.le_of_eq rfl) (hb hby od3_7) (fun _ _ => ⟨rfl, e1, (by decide : 0 + 0 ≤ _), (by decide : 0 + 0 ≤ _)⟩)
  dsimp only [Pt.U, Pt.locs, Pt.cells, Pt.slots] at X3 l3 y3 z3 st3 hQ3
  subst y3 z3
  refine Go.st st3 ?_
  obtain ⟨rfl, N3q, e3⟩ := hQ3
  have N3 : Fr n0 L3 := by rw [l3]; exact Fr.app N0 N3q
  show Go _ _ _ _ (T3.setTop (mkF m 10 #[lI p0] [(.int (1 : Int32))]))
  refine Go.st (fun _ => XS.ifNo X3.here hx rfl (hb hby od3_10) rfl ((if0 _ _).trans (feq (by decide)).1)) ?_
  show Go _ _ _ _ (T3.setTop (mkF m 13 #[lI p0] []))
  obtain ⟨T4, h4, X4, e4, E4, A4, D4, -, st4⟩ := newO X3 hx hZ hown (ow hw 19 rfl) (ow hw 20 rfl) (ow hw 12 rfl) e3 (g := (mkF m 13 #[.val (.int p0)] [])) rfl (hb hby od3_13) (by decide) (by decide)
  obtain ⟨b4, g4⟩ : ∃ z, z = h0.size := ⟨_, rfl⟩
  rw [← g4] at A4 D4 st4
  refine Go.st st4 ?_
  have g_b4 : n0 ≤ b4 := Nat.le_trans (own_oldsz X00) (Nat.le_of_eq g4.symm)
  have sz_b4 : h0.size ≤ b4 := Nat.le_trans (Keep.refl h0 []).1 (Nat.le_of_eq g4.symm)
  have K4 : Keep h0 h4 [] := (Keep.refl h0 []).ext E4
  have O4 := X00.ext E4
  have F5 : Fld Z h4 b4 "java/lang/String" "value" "[B" .null := D4 (Or.inr (ow hw 33 rfl)) (ty := (.array .byte)) (by decide)
  have F6 : Fld Z h4 b4 "java/lang/String" "coder" "B" (.int (0 : Int32)) := D4 (Or.inr (ow hw 35 rfl)) (ty := .byte) (by decide)
  show Go _ _ _ _ (T4.setTop (mkF m 16 #[lI p0] [(.ref b4)]))
  refine Go.st (fun _ => XS.dup X4.here hx rfl (hb hby od3_16) rfl rfl) ?_
  refine Go.st (fun _ => XS.iloadN X4.here hx rfl (hb hby od3_17) rfl) ?_
  show Go _ _ _ _ (T4.setTop (mkF m 18 #[lI p0] [(.int p0), (.ref b4), (.ref b4)]))
  obtain ⟨_, _, ⟨T7, L7, k7, n7⟩, -, X7, ⟨Lc7, hQ7, l7, y7, z7⟩, st7⟩ := Jvm.LawKit.callS X4 hx (y := (⟨"java/lang/StringLatin1", "toBytes", "(C)[B"⟩ : MethodName)) hown (mvT hZ (ow hw 21 rfl)) (mvT hZ (ow hw 22 rfl)) (mvT hZ (ow hw 17 rfl)) (mvT hZ (ow hw 23 rfl)) (by decide) (backOf (W := 2) (rm_toB l Z a0 hw [] g_CS S_CS nz_CS p0 h4 n0 O4 ) hZ (ow hw 23 rfl) (ow hw 17 rfl) (by decide) (by decide)) (g := (mkF m 18 #[.val (.int p0)] [(.int p0), (.ref b4), (.ref b4)])) rfl (by rw [hml]; rfl) (argsL := [(.int p0)]) (rest := [(.ref b4), (.ref b4)]) (lenOf own_pd1 rfl) rfl (by show 2 * 0 + _ ≤ _; exact Nat.le_of_eq rfl) (hb hby od3_18) (fun _ _ => ⟨rfl, e4, (by decide : 1 + 1 ≤ _), (by decide : 4 + 1 ≤ _)⟩)
  dsimp only [Pt.U, Pt.locs, Pt.cells, Pt.slots] at X7 l7 y7 z7 st7 hQ7
  subst y7 z7
  refine Go.st st7 ?_
  obtain ⟨ob_8, kb_9, rfl, N7q, K7q, q7_0, q7_1⟩ := hQ7
  have N7 : Fr n0 L7 := by rw [l7]; exact Fr.app N3 N7q
  have O7 := O4.keep K7q all0
  have K7 : Keep h0 T7.heap [] := K4.trans K7q all0
  have sz_ob_8 : h0.size ≤ ob_8 := Nat.le_trans K4.1 q7_0
  have g_ob_8 : n0 ≤ ob_8 := Nat.le_trans (own_oldsz X00) sz_ob_8
  show Go _ _ _ _ (T7.setTop (mkF m 21 #[lI p0] [(.ref ob_8), (.ref b4), (.ref b4)]))
  refine Go.st (fun _ => XS.iconst X7.here hx rfl (hb hby od3_21)) ?_
  show Go _ _ _ _ (T7.setTop (mkF m 22 #[lI p0] [(.int (0 : Int32)), (.ref ob_8), (.ref b4), (.ref b4)]))
  have c11 := (A4.keep K7q)
  have c12 := (F5.keep K7q nin0)
  have c13 := (F6.keep K7q nin0)
  obtain ⟨_, _, ⟨T10, L10, k10, n10⟩, -, X10, ⟨Lc10, hQ10, l10, y10, z10⟩, st10⟩ := X7.specialBack hx (y := (⟨"java/lang/String", "<init>", "([BB)V"⟩ : MethodName)) rfl hown (mvT hZ (ow hw 25 rfl)) (mvT hZ (ow hw 26 rfl)) (mvT hZ (ow hw 28 rfl)) (by decide) (backOf (W := 1) (rm_sBB l Z a0 hw [] g_CS S_CS nz_CS b4 ob_8 (0 : Int32) T7.heap n0 O7 c11 c12 c13 g_b4 rfl rfl) hZ (ow hw 28 rfl) (ow hw 12 rfl) (by decide) (by decide)) (g := (mkF m 22 #[.val (.int p0)] [(.int (0 : Int32)), (.ref ob_8), (.ref b4), (.ref b4)])) rfl (by rw [hml]; rfl) (Steps.refl _) (a := b4) (argsL := [(.ref ob_8), (.int (0 : Int32))]) (rest := [(.ref b4)]) (lenOf own_pd2 rfl) rfl (by show 2 * 0 + _ ≤ _; exact Nat.le_of_eq rfl) (hb hby od3_22) (fun _ _ => ⟨rfl, rfl, (by decide : 2 + 0 ≤ _), (by decide : 5 + 0 ≤ _)⟩)
  dsimp only [Pt.U, Pt.locs, Pt.cells, Pt.slots] at X10 l10 y10 z10 st10 hQ10
  subst y10 z10
  refine Go.tr st10 ?_
  obtain ⟨rfl, N10q, K10q, q10_0, q10_1, q10_2⟩ := hQ10
  have N10 : Fr n0 L10 := by rw [l10]; exact Fr.app N7 N10q
  have O10 := O7.keep K10q (allS g_b4 all0)
  have K10 : Keep h0 T10.heap [] := K7.trans K10q (allS (Or.inr sz_b4) all0)
  show Go _ _ _ _ (T10.setTop (mkF m 25 #[lI p0] [(.ref b4)]))
  obtain ⟨fs, hr, hrun, hended, hW, hsame⟩ := X10.leave (v := some (.ref b4)) (fun h => by rw [Bd.returns] at h; cases h)
  refine ⟨_, ?_, hPend _ _ hrun hended ⟨_, _, rfl, ?_, ⟨_, rfl⟩, hW, hsame.mono (by decide) (by decide)⟩⟩
  · exact retOut X10 hx (t := (.object "java/lang/String")) Bd.returns rfl (Or.inr (Or.inr (Or.inr (Or.inr ⟨rfl, rfl, rfl⟩)))) (hb hby od3_25) hr
  · show Q_rm_valOf Z _ _ h0 n0 _ T10.heap _
    have c14 := (q7_1.keep K10q (ninS (Ne.symm (Nat.ne_of_lt (Nat.lt_of_lt_of_le A4.lt q7_0))) nin0))
    exact ⟨b4, ob_8, kb_9, rfl, N10, K10, sz_b4, sz_ob_8, q10_0, q10_2, q10_1, c14⟩
theorem own_ef_rm_rnn (m : MethodId) (x0 : Addr) (x1 : Addr) : entryFrame m #[(.ref x0), (.ref x1)] 2 = mkF m 0 #[.val (.ref x0), .val (.ref x1)] [] := by first | (simp [entryFrame, mkF, argsToLocals, Value.category]; done) | rfl
theorem own_pn2 : plainName "java/util/Objects" = true := by first | (simp [plainName, overriddenIn]; done) | decide +kernel
theorem od4_0 : decode jdk_31_method_11_code 0 = .ok (.aload_n 0, 1) := by decide +kernel
theorem od4_1 : decode jdk_31_method_11_code 1 = .ok (.ifnonnull 12, 3) := by decide +kernel
theorem od4_13 : decode jdk_31_method_11_code 13 = .ok (.aload_n 0, 1) := by decide +kernel
theorem od4_14 : decode jdk_31_method_11_code 14 = .ok (.areturn, 1) := by decide +kernel
def Q_rm_rnn (Z : State) (p0 : Addr) (p1 : Addr) (h0 : Heap) (n0 : Nat) (v : Option Value) (h : Heap) (L : List Loc) : Prop := v = some (.ref p0) ∧ Fr n0 L ∧ h = h0
set_option maxRecDepth 65536 in
set_option maxHeartbeats 40000000 in
theorem rm_rnn (l : Launch) (Z : State) (a0 : Array Value) (hw : ∀ d ∈ tables_1, d.before a0 Z = true) (ws : List Jvm.Cond) (p0 : Addr) (p1 : Addr) (h0 : Heap) (n0 : Nat) (X00 : Old Z n0 h0)  :
    MetFree l (⟨"java/util/Objects", "requireNonNull", "(Ljava/lang/Object;Ljava/lang/String;)Ljava/lang/Object;"⟩ : MethodName) (head1 (Jvm.Cond.code (⟨"java/util/Objects", "requireNonNull", "(Ljava/lang/Object;Ljava/lang/String;)Ljava/lang/Object;"⟩ : MethodName) jdk_31_method_11_code 2 (some (.object "java/lang/Object")) :: ws) ({ frames := 0, cells := 0, slots := 0, locals := 0 } : Room)) (fun a U => a = #[(.ref p0), (.ref p1)] ∧ Z.Warmed39 U.vm ∧ U.heap = h0) (fun _ _ _ _ _ => True) (fun _ U o U' => ∃ v L, o = .returned v ∧ Q_rm_rnn Z p0 p1 h0 n0 v U'.heap L ∧ FrameEnd U o U' L ({ frames := 0, cells := 0, slots := 0, locals := 0 } : Room).cells ({ frames := 0, cells := 0, slots := 0, locals := 0 } : Room).slots) := by
  refine MetFree.of_bodySF (plainFor_of_name own_pn2) hisR ?_
  intro p e s m args below meth c s₁ Bd hml0 hP hK
  obtain ⟨rfl, hZ, hh⟩ := hP
  have hx := Bd.exec
  have hby := Bd.bytes
  have hml : c.maxLocals = 2 := hml0
  have hown : s.vm.findClass "java/util/Objects" = some m.cls := findClass_of_methodNamed Bd.named
  have hnm := (name_of_methodNamed Bd.named Bd.method).1
  have X0 : Stand p l e ({ frames := 0, cells := 0, slots := 0, locals := 0 } : Room) s m #[(.ref p0), (.ref p1)] below meth c s₁ [] 0 0 := Stand.of_body Bd
  have e0 : s₁.heap = h0 := by rw [← hh, Bd.state]; rfl
  have N0 := Fr.nil n0
  refine Go.start fun P hPend => ?_
  refine Go.st (fun _ k => castTop (own_ef_rm_rnn m p0 p1) k) ?_
  show Go _ _ _ _ (s₁.setTop (mkF m 0 #[lR p0, lR p1] []))
  refine Go.st (fun _ => XS.aloadN X0.here hx rfl (hb hby od4_0) rfl rfl) ?_
  show Go _ _ _ _ (s₁.setTop (mkF m 1 #[lR p0, lR p1] [(.ref p0)]))
  refine Go.st (fun _ => XS.ifnonnullYes X0.here hx rfl (pc0 := 1) (pc' := 13) rfl (hb hby od4_1) rfl (by decide) (by decide)) ?_
  show Go _ _ _ _ (s₁.setTop (mkF m 13 #[lR p0, lR p1] []))
  refine Go.st (fun _ => XS.aloadN X0.here hx rfl (hb hby od4_13) rfl rfl) ?_
  show Go _ _ _ _ (s₁.setTop (mkF m 14 #[lR p0, lR p1] [(.ref p0)]))
  obtain ⟨fs, hr, hrun, hended, hW, hsame⟩ := X0.leave (v := some (.ref p0)) (fun h => by rw [Bd.returns] at h; cases h)
  refine ⟨_, ?_, hPend _ _ hrun hended ⟨_, _, rfl, ?_, ⟨_, rfl⟩, hW, hsame.mono (by decide) (by decide)⟩⟩
  · exact retOut X0 hx (t := (.object "java/lang/Object")) Bd.returns rfl (Or.inr (Or.inr (Or.inr (Or.inr ⟨rfl, rfl, rfl⟩)))) (hb hby od4_14) hr
  · show Q_rm_rnn Z _ _ h0 n0 _ s₁.heap _
    rw [e0]
    exact ⟨rfl, N0, rfl⟩
theorem own_ef_rm_digit (m : MethodId) (x0 : Int64) (x1 : Int32) : entryFrame m #[(.long x0), (.int x1)] 3 = mkF m 0 #[.val (.long x0), .second, .val (.int x1)] [] := by first | (simp [entryFrame, mkF, argsToLocals, Value.category]; done) | rfl
theorem own_pn3 : plainName "com/example/vacuum/vacuum/settings/DurationsParsePinLaw" = true := by first | (simp [plainName, overriddenIn]; done) | decide +kernel
theorem od5_0 : decode method_2_code 0 = .ok (.lload_n 0, 1) := by decide +kernel
theorem od5_1 : decode method_2_code 1 = .ok (.iconst 4, 1) := by decide +kernel
theorem od5_2 : decode method_2_code 2 = .ok (.iload_n 2, 1) := by decide +kernel
theorem od5_3 : decode method_2_code 3 = .ok (.imul, 1) := by decide +kernel
theorem od5_4 : decode method_2_code 4 = .ok (.lushr, 1) := by decide +kernel
theorem od5_5 : decode method_2_code 5 = .ok (.ldc2_w 7, 3) := by decide +kernel
theorem od5_8 : decode method_2_code 8 = .ok (.land, 1) := by decide +kernel
theorem od5_9 : decode method_2_code 9 = .ok (.ldc2_w 9, 3) := by decide +kernel
theorem od5_12 : decode method_2_code 12 = .ok (.lrem, 1) := by decide +kernel
theorem od5_13 : decode method_2_code 13 = .ok (.l2i, 1) := by decide +kernel
theorem od5_14 : decode method_2_code 14 = .ok (.ireturn, 1) := by decide +kernel
def Q_rm_digit (Z : State) (p0 : Int64) (p1 : Int32) (h0 : Heap) (n0 : Nat) (v : Option Value) (h : Heap) (L : List Loc) : Prop := ∃ (rd : Int32), v = some (.int rd) ∧ Fr n0 L ∧ h = h0 ∧ (¬ rd < 0 ∧ ¬ (9 : Int32) < rd)
set_option maxRecDepth 65536 in
set_option maxHeartbeats 40000000 in
theorem rm_digit (l : Launch) (Z : State) (a0 : Array Value) (hw : ∀ d ∈ tables_1, d.before a0 Z = true) (ws : List Jvm.Cond) (p0 : Int64) (p1 : Int32) (h0 : Heap) (n0 : Nat) (X00 : Old Z n0 h0)  :
    MetFree l (⟨"com/example/vacuum/vacuum/settings/DurationsParsePinLaw", "digit", "(JI)I"⟩ : MethodName) (head1 (Jvm.Cond.code (⟨"com/example/vacuum/vacuum/settings/DurationsParsePinLaw", "digit", "(JI)I"⟩ : MethodName) method_2_code 3 (some .int) :: ws) ({ frames := 0, cells := 0, slots := 0, locals := 0 } : Room)) (fun a U => a = #[(.long p0), (.int p1)] ∧ Z.Warmed39 U.vm ∧ U.heap = h0) (fun _ _ _ _ _ => True) (fun _ U o U' => ∃ v L, o = .returned v ∧ Q_rm_digit Z p0 p1 h0 n0 v U'.heap L ∧ FrameEnd U o U' L ({ frames := 0, cells := 0, slots := 0, locals := 0 } : Room).cells ({ frames := 0, cells := 0, slots := 0, locals := 0 } : Room).slots) := by
  refine MetFree.of_bodySF (plainFor_of_name own_pn3) hisR ?_
  intro p e s m args below meth c s₁ Bd hml0 hP hK
  obtain ⟨rfl, hZ, hh⟩ := hP
  have hx := Bd.exec
  have hby := Bd.bytes
  have hml : c.maxLocals = 3 := hml0
  have hown : s.vm.findClass "com/example/vacuum/vacuum/settings/DurationsParsePinLaw" = some m.cls := findClass_of_methodNamed Bd.named
  have hnm := (name_of_methodNamed Bd.named Bd.method).1
  have X0 : Stand p l e ({ frames := 0, cells := 0, slots := 0, locals := 0 } : Room) s m #[(.long p0), (.int p1)] below meth c s₁ [] 0 0 := Stand.of_body Bd
  have e0 : s₁.heap = h0 := by rw [← hh, Bd.state]; rfl
  have N0 := Fr.nil n0
  refine Go.start fun P hPend => ?_
  refine Go.st (fun _ k => castTop (own_ef_rm_digit m p0 p1) k) ?_
  show Go _ _ _ _ (s₁.setTop (mkF m 0 #[lJ p0, lS, lI p1] []))
  refine Go.st (fun _ => XS.lloadN X0.here hx rfl (hb hby od5_0) rfl) ?_
  refine Go.st (fun _ => XS.iconst X0.here hx rfl (hb hby od5_1)) ?_
  refine Go.st (fun _ => XS.iloadN X0.here hx rfl (hb hby od5_2) rfl) ?_
  show Go _ _ _ _ (s₁.setTop (mkF m 3 #[lJ p0, lS, lI p1] [(.int p1), (.int (4 : Int32)), (.long p0)]))
  refine Go.st (fun _ => XS.imul X0.here hx rfl (hb hby od5_3) rfl) ?_
  show Go _ _ _ _ (s₁.setTop (mkF m 4 #[lJ p0, lS, lI p1] [(.int ((4 : Int32) * p1)), (.long p0)]))
  refine Go.st (fun _ => XS.lushr X0.here hx rfl (hb hby od5_4) rfl) ?_
  show Go _ _ _ _ (s₁.setTop (mkF m 5 #[lJ p0, lS, lI p1] [(.long ((p0.toUInt64 >>> (((4 : Int32) * p1) &&& 0x3f).toInt64.toUInt64).toInt64))]))
  refine Go.st (fun _ => X0.ldc2Long hx hown (mvT hZ (ow hw 7 rfl)) (g := (mkF m 5 #[.val (.long p0), .second, .val (.int p1)] [(.long ((p0.toUInt64 >>> (((4 : Int32) * p1) &&& 0x3f).toInt64.toUInt64).toInt64))])) rfl (hb hby od5_5) _) ?_
  show Go _ _ _ _ (s₁.setTop (mkF m 8 #[lJ p0, lS, lI p1] [(.long (15 : Int64)), (.long ((p0.toUInt64 >>> (((4 : Int32) * p1) &&& 0x3f).toInt64.toUInt64).toInt64))]))
  refine Go.st (fun _ => XS.land X0.here hx rfl (hb hby od5_8) rfl) ?_
  show Go _ _ _ _ (s₁.setTop (mkF m 9 #[lJ p0, lS, lI p1] [(.long (((p0.toUInt64 >>> (((4 : Int32) * p1) &&& 0x3f).toInt64.toUInt64).toInt64) &&& (15 : Int64)))]))
  refine Go.st (fun _ => X0.ldc2Long hx hown (mvT hZ (ow hw 8 rfl)) (g := (mkF m 9 #[.val (.long p0), .second, .val (.int p1)] [(.long (((p0.toUInt64 >>> (((4 : Int32) * p1) &&& 0x3f).toInt64.toUInt64).toInt64) &&& (15 : Int64)))])) rfl (hb hby od5_9) _) ?_
  show Go _ _ _ _ (s₁.setTop (mkF m 12 #[lJ p0, lS, lI p1] [(.long (10 : Int64)), (.long (((p0.toUInt64 >>> (((4 : Int32) * p1) &&& 0x3f).toInt64.toUInt64).toInt64) &&& (15 : Int64)))]))
  refine Go.st (fun _ => XS.lrem X0.here hx rfl (hb hby od5_12) rfl (by decide)) ?_
  show Go _ _ _ _ (s₁.setTop (mkF m 13 #[lJ p0, lS, lI p1] [(.long ((((p0.toUInt64 >>> (((4 : Int32) * p1) &&& 0x3f).toInt64.toUInt64).toInt64) &&& (15 : Int64)) - ((((p0.toUInt64 >>> (((4 : Int32) * p1) &&& 0x3f).toInt64.toUInt64).toInt64) &&& (15 : Int64)) / (10 : Int64)) * (10 : Int64)))]))
  refine Go.st (fun _ => XS.l2i X0.here hx rfl (hb hby od5_13) rfl) ?_
  show Go _ _ _ _ (s₁.setTop (mkF m 14 #[lJ p0, lS, lI p1] [(.int (((((p0.toUInt64 >>> (((4 : Int32) * p1) &&& 0x3f).toInt64.toUInt64).toInt64) &&& (15 : Int64)) - ((((p0.toUInt64 >>> (((4 : Int32) * p1) &&& 0x3f).toInt64.toUInt64).toInt64) &&& (15 : Int64)) / (10 : Int64)) * (10 : Int64)).toInt32))]))
  obtain ⟨fs, hr, hrun, hended, hW, hsame⟩ := X0.leave (v := some (.int (((((p0.toUInt64 >>> (((4 : Int32) * p1) &&& 0x3f).toInt64.toUInt64).toInt64) &&& (15 : Int64)) - ((((p0.toUInt64 >>> (((4 : Int32) * p1) &&& 0x3f).toInt64.toUInt64).toInt64) &&& (15 : Int64)) / (10 : Int64)) * (10 : Int64)).toInt32))) (fun h => by rw [Bd.returns] at h; cases h)
  refine ⟨_, ?_, hPend _ _ hrun hended ⟨_, _, rfl, ?_, ⟨_, rfl⟩, hW, hsame.mono (by decide) (by decide)⟩⟩
  · exact retOut X0 hx (t := .int) Bd.returns rfl (Or.inl ⟨rfl, Or.inl rfl, _, rfl⟩) (hb hby od5_14) hr
  · show Q_rm_digit Z _ _ h0 n0 _ s₁.heap _
    rw [e0]
    exact ⟨(((((p0.toUInt64 >>> (((4 : Int32) * p1) &&& 0x3f).toInt64.toUInt64).toInt64) &&& (15 : Int64)) - ((((p0.toUInt64 >>> (((4 : Int32) * p1) &&& 0x3f).toInt64.toUInt64).toInt64) &&& (15 : Int64)) / (10 : Int64)) * (10 : Int64)).toInt32), rfl, N0, rfl, (own_digit _)⟩
theorem own_ef_rm_gsec (m : MethodId) (x0 : Addr) : entryFrame m #[(.ref x0)] 1 = mkF m 0 #[.val (.ref x0)] [] := by first | (simp [entryFrame, mkF, argsToLocals, Value.category]; done) | rfl
theorem own_pn4 : plainName "java/time/Duration" = true := by first | (simp [plainName, overriddenIn]; done) | decide +kernel
theorem od6_0 : decode jdk_2316_method_23_code 0 = .ok (.aload_n 0, 1) := by decide +kernel
theorem od6_1 : decode jdk_2316_method_23_code 1 = .ok (.getfield 221, 3) := by decide +kernel
theorem od6_4 : decode jdk_2316_method_23_code 4 = .ok (.lreturn, 1) := by decide +kernel
def Q_rm_gsec (Z : State) (p0 : Addr) (sv : Int64) (h0 : Heap) (n0 : Nat) (v : Option Value) (h : Heap) (L : List Loc) : Prop := v = some (.long sv) ∧ Fr n0 L ∧ h = h0
set_option maxRecDepth 65536 in
set_option maxHeartbeats 40000000 in
theorem rm_gsec (l : Launch) (Z : State) (a0 : Array Value) (hw : ∀ d ∈ tables_1, d.before a0 Z = true) (ws : List Jvm.Cond) (p0 : Addr) (sv : Int64) (h0 : Heap) (n0 : Nat) (X00 : Old Z n0 h0) (hp0 : Fld Z h0 p0 "java/time/Duration" "seconds" "J" (.long sv)) :
    MetFree l (⟨"java/time/Duration", "getSeconds", "()J"⟩ : MethodName) (head1 (Jvm.Cond.code (⟨"java/time/Duration", "getSeconds", "()J"⟩ : MethodName) jdk_2316_method_23_code 1 (some .long) :: ws) ({ frames := 0, cells := 0, slots := 0, locals := 0 } : Room)) (fun a U => a = #[(.ref p0)] ∧ Z.Warmed39 U.vm ∧ U.heap = h0) (fun _ _ _ _ _ => True) (fun _ U o U' => ∃ v L, o = .returned v ∧ Q_rm_gsec Z p0 sv h0 n0 v U'.heap L ∧ FrameEnd U o U' L ({ frames := 0, cells := 0, slots := 0, locals := 0 } : Room).cells ({ frames := 0, cells := 0, slots := 0, locals := 0 } : Room).slots) := by
  refine MetFree.of_bodySF (plainFor_of_name own_pn4) hisR ?_
  intro p e s m args below meth c s₁ Bd hml0 hP hK
  obtain ⟨rfl, hZ, hh⟩ := hP
  have hx := Bd.exec
  have hby := Bd.bytes
  have hml : c.maxLocals = 1 := hml0
  have hown : s.vm.findClass "java/time/Duration" = some m.cls := findClass_of_methodNamed Bd.named
  have hnm := (name_of_methodNamed Bd.named Bd.method).1
  have X0 : Stand p l e ({ frames := 0, cells := 0, slots := 0, locals := 0 } : Room) s m #[(.ref p0)] below meth c s₁ [] 0 0 := Stand.of_body Bd
  have e0 : s₁.heap = h0 := by rw [← hh, Bd.state]; rfl
  have N0 := Fr.nil n0
  refine Go.start fun P hPend => ?_
  refine Go.st (fun _ k => castTop (own_ef_rm_gsec m p0) k) ?_
  show Go _ _ _ _ (s₁.setTop (mkF m 0 #[lR p0] []))
  refine Go.st (fun _ => XS.aloadN X0.here hx rfl (hb hby od6_0) rfl rfl) ?_
  show Go _ _ _ _ (s₁.setTop (mkF m 1 #[lR p0] [(.ref p0)]))
  obtain ⟨T1, X1, e1, st1⟩ := getF X0 hx hZ hown (host := "") (Or.inl (ow hw 108 rfl)) Via.refl e0 hp0 (g := (mkF m 1 #[.val (.ref p0)] [(.ref p0)])) rfl rfl (hb hby od6_1)
  refine Go.st st1 ?_
  show Go _ _ _ _ (T1.setTop (mkF m 4 #[lR p0] [(.long sv)]))
  obtain ⟨fs, hr, hrun, hended, hW, hsame⟩ := X1.leave (v := some (.long sv)) (fun h => by rw [Bd.returns] at h; cases h)
  refine ⟨_, ?_, hPend _ _ hrun hended ⟨_, _, rfl, ?_, ⟨_, rfl⟩, hW, hsame.mono (by decide) (by decide)⟩⟩
  · exact retOut X1 hx (t := .long) Bd.returns rfl (Or.inr (Or.inl ⟨rfl, rfl, _, rfl⟩)) (hb hby od6_4) hr
  · show Q_rm_gsec Z _ _ h0 n0 _ T1.heap _
    rw [e1]
    exact ⟨rfl, N0, rfl⟩
theorem own_ef_rm_gnan (m : MethodId) (x0 : Addr) : entryFrame m #[(.ref x0)] 1 = mkF m 0 #[.val (.ref x0)] [] := by first | (simp [entryFrame, mkF, argsToLocals, Value.category]; done) | rfl
theorem od7_0 : decode jdk_2316_method_24_code 0 = .ok (.aload_n 0, 1) := by decide +kernel
theorem od7_1 : decode jdk_2316_method_24_code 1 = .ok (.getfield 224, 3) := by decide +kernel
theorem od7_4 : decode jdk_2316_method_24_code 4 = .ok (.ireturn, 1) := by decide +kernel
def Q_rm_gnan (Z : State) (p0 : Addr) (nv : Int32) (h0 : Heap) (n0 : Nat) (v : Option Value) (h : Heap) (L : List Loc) : Prop := v = some (.int nv) ∧ Fr n0 L ∧ h = h0
set_option maxRecDepth 65536 in
set_option maxHeartbeats 40000000 in
theorem rm_gnan (l : Launch) (Z : State) (a0 : Array Value) (hw : ∀ d ∈ tables_1, d.before a0 Z = true) (ws : List Jvm.Cond) (p0 : Addr) (nv : Int32) (h0 : Heap) (n0 : Nat) (X00 : Old Z n0 h0) (hp0 : Fld Z h0 p0 "java/time/Duration" "nanos" "I" (.int nv)) :
    MetFree l (⟨"java/time/Duration", "getNano", "()I"⟩ : MethodName) (head1 (Jvm.Cond.code (⟨"java/time/Duration", "getNano", "()I"⟩ : MethodName) jdk_2316_method_24_code 1 (some .int) :: ws) ({ frames := 0, cells := 0, slots := 0, locals := 0 } : Room)) (fun a U => a = #[(.ref p0)] ∧ Z.Warmed39 U.vm ∧ U.heap = h0) (fun _ _ _ _ _ => True) (fun _ U o U' => ∃ v L, o = .returned v ∧ Q_rm_gnan Z p0 nv h0 n0 v U'.heap L ∧ FrameEnd U o U' L ({ frames := 0, cells := 0, slots := 0, locals := 0 } : Room).cells ({ frames := 0, cells := 0, slots := 0, locals := 0 } : Room).slots) := by
  refine MetFree.of_bodySF (plainFor_of_name own_pn4) hisR ?_
  intro p e s m args below meth c s₁ Bd hml0 hP hK
  obtain ⟨rfl, hZ, hh⟩ := hP
  have hx := Bd.exec
  have hby := Bd.bytes
  have hml : c.maxLocals = 1 := hml0
  have hown : s.vm.findClass "java/time/Duration" = some m.cls := findClass_of_methodNamed Bd.named
  have hnm := (name_of_methodNamed Bd.named Bd.method).1
  have X0 : Stand p l e ({ frames := 0, cells := 0, slots := 0, locals := 0 } : Room) s m #[(.ref p0)] below meth c s₁ [] 0 0 := Stand.of_body Bd
  have e0 : s₁.heap = h0 := by rw [← hh, Bd.state]; rfl
  have N0 := Fr.nil n0
  refine Go.start fun P hPend => ?_
  refine Go.st (fun _ k => castTop (own_ef_rm_gnan m p0) k) ?_
  show Go _ _ _ _ (s₁.setTop (mkF m 0 #[lR p0] []))
  refine Go.st (fun _ => XS.aloadN X0.here hx rfl (hb hby od7_0) rfl rfl) ?_
  show Go _ _ _ _ (s₁.setTop (mkF m 1 #[lR p0] [(.ref p0)]))
  obtain ⟨T1, X1, e1, st1⟩ := getF X0 hx hZ hown (host := "") (Or.inl (ow hw 124 rfl)) Via.refl e0 hp0 (g := (mkF m 1 #[.val (.ref p0)] [(.ref p0)])) rfl rfl (hb hby od7_1)
  refine Go.st st1 ?_
  show Go _ _ _ _ (T1.setTop (mkF m 4 #[lR p0] [(.int nv)]))
  obtain ⟨fs, hr, hrun, hended, hW, hsame⟩ := X1.leave (v := some (.int nv)) (fun h => by rw [Bd.returns] at h; cases h)
  refine ⟨_, ?_, hPend _ _ hrun hended ⟨_, _, rfl, ?_, ⟨_, rfl⟩, hW, hsame.mono (by decide) (by decide)⟩⟩
  · exact retOut X1 hx (t := .int) Bd.returns rfl (Or.inl ⟨rfl, Or.inl rfl, _, rfl⟩) (hb hby od7_4) hr
  · show Q_rm_gnan Z _ _ h0 n0 _ T1.heap _
    rw [e1]
    exact ⟨rfl, N0, rfl⟩
theorem own_ef_rm_dinit (m : MethodId) (x0 : Addr) (x1 : Int64) (x2 : Int32) : entryFrame m #[(.ref x0), (.long x1), (.int x2)] 4 = mkF m 0 #[.val (.ref x0), .val (.long x1), .second, .val (.int x2)] [] := by first | (simp [entryFrame, mkF, argsToLocals, Value.category]; done) | rfl
theorem od8_0 : decode jdk_2316_method_17_code 0 = .ok (.aload_n 0, 1) := by decide +kernel
theorem od8_1 : decode jdk_2316_method_17_code 1 = .ok (.invokespecial 218, 3) := by decide +kernel
theorem od8_4 : decode jdk_2316_method_17_code 4 = .ok (.aload_n 0, 1) := by decide +kernel
theorem od8_5 : decode jdk_2316_method_17_code 5 = .ok (.lload_n 1, 1) := by decide +kernel
theorem od8_6 : decode jdk_2316_method_17_code 6 = .ok (.putfield 221, 3) := by decide +kernel
theorem od8_9 : decode jdk_2316_method_17_code 9 = .ok (.aload_n 0, 1) := by decide +kernel
theorem od8_10 : decode jdk_2316_method_17_code 10 = .ok (.iload_n 3, 1) := by decide +kernel
theorem od8_11 : decode jdk_2316_method_17_code 11 = .ok (.putfield 224, 3) := by decide +kernel
theorem od8_14 : decode jdk_2316_method_17_code 14 = .ok (.return_, 1) := by decide +kernel
def Q_rm_dinit (Z : State) (p0 : Addr) (p1 : Int64) (p2 : Int32) (h0 : Heap) (n0 : Nat) (v : Option Value) (h : Heap) (L : List Loc) : Prop := v = none ∧ Fr n0 L ∧ Keep h0 h [p0] ∧ Exa Z h p0 "java/time/Duration" ∧ Fld Z h p0 "java/time/Duration" "seconds" "J" (.long p1) ∧ Fld Z h p0 "java/time/Duration" "nanos" "I" (.int p2)
set_option maxRecDepth 65536 in
set_option maxHeartbeats 40000000 in
theorem rm_dinit (l : Launch) (Z : State) (a0 : Array Value) (hw : ∀ d ∈ tables_1, d.before a0 Z = true) (ws : List Jvm.Cond) (p0 : Addr) (p1 : Int64) (p2 : Int32) (h0 : Heap) (n0 : Nat) (X00 : Old Z n0 h0) (hp0 : Exa Z h0 p0 "java/time/Duration") (hp1 : Fld Z h0 p0 "java/time/Duration" "seconds" "J" (.long (0 : Int64))) (hp2 : Fld Z h0 p0 "java/time/Duration" "nanos" "I" (.int (0 : Int32))) (hp3 : n0 ≤ p0) :
    MetFree l (⟨"java/time/Duration", "<init>", "(JI)V"⟩ : MethodName) (head1 (Jvm.Cond.code (⟨"java/time/Duration", "<init>", "(JI)V"⟩ : MethodName) jdk_2316_method_17_code 4 none :: ws) ({ frames := 1, cells := 0, slots := 0, locals := 12 } : Room)) (fun a U => a = #[(.ref p0), (.long p1), (.int p2)] ∧ Z.Warmed39 U.vm ∧ U.heap = h0) (fun _ _ _ _ _ => True) (fun _ U o U' => ∃ v L, o = .returned v ∧ Q_rm_dinit Z p0 p1 p2 h0 n0 v U'.heap L ∧ FrameEnd U o U' L ({ frames := 1, cells := 0, slots := 0, locals := 12 } : Room).cells ({ frames := 1, cells := 0, slots := 0, locals := 12 } : Room).slots) := by
  refine MetFree.of_bodySF (plainFor_of_name own_pn4) hisR ?_
  intro p e s m args below meth c s₁ Bd hml0 hP hK
  obtain ⟨rfl, hZ, hh⟩ := hP
  have hx := Bd.exec
  have hby := Bd.bytes
  have hml : c.maxLocals = 4 := hml0
  have hown : s.vm.findClass "java/time/Duration" = some m.cls := findClass_of_methodNamed Bd.named
  have hnm := (name_of_methodNamed Bd.named Bd.method).1
  have X0 : Stand p l e ({ frames := 1, cells := 0, slots := 0, locals := 12 } : Room) s m #[(.ref p0), (.long p1), (.int p2)] below meth c s₁ [] 0 0 := Stand.of_body Bd
  have e0 : s₁.heap = h0 := by rw [← hh, Bd.state]; rfl
  have N0 := Fr.nil n0
  refine Go.start fun P hPend => ?_
  refine Go.st (fun _ k => castTop (own_ef_rm_dinit m p0 p1 p2) k) ?_
  show Go _ _ _ _ (s₁.setTop (mkF m 0 #[lR p0, lJ p1, lS, lI p2] []))
  refine Go.st (fun _ => XS.aloadN X0.here hx rfl (hb hby od8_0) rfl rfl) ?_
  show Go _ _ _ _ (s₁.setTop (mkF m 1 #[lR p0, lJ p1, lS, lI p2] [(.ref p0)]))
  obtain ⟨T1, X1, e1, st1⟩ := initO X0 hx hZ hown (ow hw 123 rfl) (ow hw 30 rfl) (ow hw 31 rfl) e0 (g := (mkF m 1 #[.val (.ref p0), .val (.long p1), .second, .val (.int p2)] [(.ref p0)])) rfl (by rw [hml]; rfl) rfl (hb hby od8_1) (by decide) (W := 0) (by show 2 * 0 + _ ≤ _; exact Nat.le_of_eq rfl) (by decide)
  refine Go.st st1 ?_
  show Go _ _ _ _ (T1.setTop (mkF m 4 #[lR p0, lJ p1, lS, lI p2] []))
  refine Go.st (fun _ => XS.aloadN X1.here hx rfl (hb hby od8_4) rfl rfl) ?_
  refine Go.st (fun _ => XS.lloadN X1.here hx rfl (hb hby od8_5) rfl) ?_
  show Go _ _ _ _ (T1.setTop (mkF m 6 #[lR p0, lJ p1, lS, lI p2] [(.long p1), (.ref p0)]))
  obtain ⟨T2, h2, X2, e2, W2, st2⟩ := putF X1 hx hZ hown (host := "") (Or.inl (ow hw 108 rfl)) Via.refl e1 hp1 hp0 (Or.inr ⟨(ow hw 109 rfl), rfl, hnm⟩) (ow hw 118 rfl) (ty := .long) (by decide) rfl rfl (g := (mkF m 6 #[.val (.ref p0), .val (.long p1), .second, .val (.int p2)] [(.long p1), (.ref p0)])) rfl rfl (hb hby od8_6)
  refine Go.st st2 ?_
  have K2 : Keep h0 h2 [p0] := (Keep.refl h0 [p0]).wr W2 (Or.inl (List.mem_of_getElem? (i := 0) rfl))
  have O2 := X00.wr W2 hp3
  have N2 := Fr.snoc X2 N0 hp3
  have F2 := hp1.same W2
  show Go _ _ _ _ (T2.setTop (mkF m 9 #[lR p0, lJ p1, lS, lI p2] []))
  refine Go.st (fun _ => XS.aloadN X2.here hx rfl (hb hby od8_9) rfl rfl) ?_
  refine Go.st (fun _ => XS.iloadN X2.here hx rfl (hb hby od8_10) rfl) ?_
  show Go _ _ _ _ (T2.setTop (mkF m 11 #[lR p0, lJ p1, lS, lI p2] [(.int p2), (.ref p0)]))
  have c3 := (hp2.other W2 (Or.inr (slot_ne (Or.inr (ow hw 125 rfl)) (Or.inr (ow hw 109 rfl)) (by decide) (t := .int) (t' := .long) (by decide) (by decide))))
  have c4 := (hp0.wr W2)
  obtain ⟨T5, h5, X5, e5, W5, st5⟩ := putF X2 hx hZ hown (host := "") (Or.inl (ow hw 124 rfl)) Via.refl e2 c3 c4 (Or.inr ⟨(ow hw 125 rfl), rfl, hnm⟩) (ow hw 118 rfl) (ty := .int) (by decide) rfl rfl (g := (mkF m 11 #[.val (.ref p0), .val (.long p1), .second, .val (.int p2)] [(.int p2), (.ref p0)])) rfl rfl (hb hby od8_11)
  refine Go.st st5 ?_
  have K5 : Keep h0 h5 [p0] := K2.wr W5 (Or.inl (List.mem_of_getElem? (i := 0) rfl))
  have O5 := O2.wr W5 hp3
  have N5 := Fr.snoc X5 N2 hp3
  have F5 := c3.same W5
  show Go _ _ _ _ (T5.setTop (mkF m 14 #[lR p0, lJ p1, lS, lI p2] []))
  obtain ⟨fs, hr, hrun, hended, hW, hsame⟩ := X5.leave (v := none) (fun _ => rfl)
  refine ⟨_, ?_, hPend _ _ hrun hended ⟨_, _, rfl, ?_, ⟨_, rfl⟩, hW, hsame.mono (by decide) (by decide)⟩⟩
  · exact X5.returnOut hx Bd.returns (hb hby od8_14) hr
  · show Q_rm_dinit Z _ _ _ h0 n0 _ T5.heap _
    rw [e5]
    have c6 := (c4.wr W5)
    have c7 := (F2.other W5 (Or.inr (slot_ne (Or.inr (ow hw 109 rfl)) (Or.inr (ow hw 125 rfl)) (by decide) (t := .long) (t' := .int) (by decide) (by decide))))
    exact ⟨rfl, N5, K5, c6, c7, F5⟩
theorem own_ef_rm_dcre (m : MethodId) (x0 : Int64) (x1 : Int32) : entryFrame m #[(.long x0), (.int x1)] 3 = mkF m 0 #[.val (.long x0), .second, .val (.int x1)] [] := by first | (simp [entryFrame, mkF, argsToLocals, Value.category]; done) | rfl
theorem od9_0 : decode jdk_2316_method_16_code 0 = .ok (.lload_n 0, 1) := by decide +kernel
theorem od9_1 : decode jdk_2316_method_16_code 1 = .ok (.iload_n 2, 1) := by decide +kernel
theorem od9_2 : decode jdk_2316_method_16_code 2 = .ok (.i2l, 1) := by decide +kernel
theorem od9_3 : decode jdk_2316_method_16_code 3 = .ok (.lor, 1) := by decide +kernel
theorem od9_4 : decode jdk_2316_method_16_code 4 = .ok (.lconst 0, 1) := by decide +kernel
theorem od9_5 : decode jdk_2316_method_16_code 5 = .ok (.lcmp, 1) := by decide +kernel
theorem od9_6 : decode jdk_2316_method_16_code 6 = .ok (.ifCond .ne 7, 3) := by decide +kernel
theorem od9_9 : decode jdk_2316_method_16_code 9 = .ok (.getstatic 32, 3) := by decide +kernel
theorem od9_12 : decode jdk_2316_method_16_code 12 = .ok (.areturn, 1) := by decide +kernel
theorem od9_13 : decode jdk_2316_method_16_code 13 = .ok (.new 11, 3) := by decide +kernel
theorem od9_16 : decode jdk_2316_method_16_code 16 = .ok (.dup, 1) := by decide +kernel
theorem od9_17 : decode jdk_2316_method_16_code 17 = .ok (.lload_n 0, 1) := by decide +kernel
theorem od9_18 : decode jdk_2316_method_16_code 18 = .ok (.iload_n 2, 1) := by decide +kernel
theorem od9_19 : decode jdk_2316_method_16_code 19 = .ok (.invokespecial 215, 3) := by decide +kernel
theorem own_pd3 : parseMethodDescriptor "(JI)V" = some ⟨[.long, .int], none⟩ := by decide +kernel
theorem od9_22 : decode jdk_2316_method_16_code 22 = .ok (.areturn, 1) := by decide +kernel
def Q_rm_dcre (Z : State) (w_MX : Addr) (w_ZR : Addr) (g_CS : Int32) (g_SF : Value) (p0 : Int64) (h0 : Heap) (n0 : Nat) (v : Option Value) (h : Heap) (L : List Loc) : Prop := ∃ (ob : Addr), v = some (.ref ob) ∧ Fr n0 L ∧ Keep h0 h [] ∧ Exa Z h ob "java/time/Duration" ∧ Fld Z h ob "java/time/Duration" "seconds" "J" (.long p0) ∧ Fld Z h ob "java/time/Duration" "nanos" "I" (.int (0 : Int32))
set_option maxRecDepth 65536 in
set_option maxHeartbeats 40000000 in
theorem rm_dcre (l : Launch) (Z : State) (a0 : Array Value) (hw : ∀ d ∈ tables_1, d.before a0 Z = true) (ws : List Jvm.Cond) (w_MX : Addr) (S_MX : Sta Z Z.heap "com/example/vacuum/vacuum/settings/Durations" "MAX" "Ljava/time/Duration;" (.ref w_MX)) (X_MX : Exa Z Z.heap w_MX "java/time/Duration") (I_MX_seconds : Fld Z Z.heap w_MX "java/time/Duration" "seconds" "J" (.long (3155760000 : Int64))) (w_ZR : Addr) (S_ZR : Sta Z Z.heap "java/time/Duration" "ZERO" "Ljava/time/Duration;" (.ref w_ZR)) (X_ZR : Exa Z Z.heap w_ZR "java/time/Duration") (I_ZR_seconds : Fld Z Z.heap w_ZR "java/time/Duration" "seconds" "J" (.long (0 : Int64))) (I_ZR_nanos : Fld Z Z.heap w_ZR "java/time/Duration" "nanos" "I" (.int (0 : Int32))) (g_CS : Int32) (S_CS : Sta Z Z.heap "java/lang/String" "COMPACT_STRINGS" "Z" (.int g_CS)) (nz_CS : ¬ (g_CS = (0 : Int32))) (g_SF : Value) (S_SF : Sta Z Z.heap "jdk/internal/util/Preconditions" "SIOOBE_FORMATTER" "Ljava/util/function/BiFunction;" g_SF) (r_SF : g_SF.isRef = true) (p0 : Int64) (h0 : Heap) (n0 : Nat) (X00 : Old Z n0 h0)  :
    MetFree l (⟨"java/time/Duration", "create", "(JI)Ljava/time/Duration;"⟩ : MethodName) (head1 (Jvm.Cond.code (⟨"java/time/Duration", "create", "(JI)Ljava/time/Duration;"⟩ : MethodName) jdk_2316_method_16_code 3 (some (.object "java/time/Duration")) :: ws) ({ frames := 2, cells := 1, slots := 2, locals := 28 } : Room)) (fun a U => a = #[(.long p0), (.int (0 : Int32))] ∧ Z.Warmed39 U.vm ∧ U.heap = h0) (fun _ _ _ _ _ => True) (fun _ U o U' => ∃ v L, o = .returned v ∧ Q_rm_dcre Z w_MX w_ZR g_CS g_SF p0 h0 n0 v U'.heap L ∧ FrameEnd U o U' L ({ frames := 2, cells := 1, slots := 2, locals := 28 } : Room).cells ({ frames := 2, cells := 1, slots := 2, locals := 28 } : Room).slots) := by
  refine MetFree.of_bodySF (plainFor_of_name own_pn4) hisR ?_
  intro p e s m args below meth c s₁ Bd hml0 hP hK
  obtain ⟨rfl, hZ, hh⟩ := hP
  have hx := Bd.exec
  have hby := Bd.bytes
  have hml : c.maxLocals = 3 := hml0
  have hown : s.vm.findClass "java/time/Duration" = some m.cls := findClass_of_methodNamed Bd.named
  have hnm := (name_of_methodNamed Bd.named Bd.method).1
  have X0 : Stand p l e ({ frames := 2, cells := 1, slots := 2, locals := 28 } : Room) s m #[(.long p0), (.int (0 : Int32))] below meth c s₁ [] 0 0 := Stand.of_body Bd
  have e0 : s₁.heap = h0 := by rw [← hh, Bd.state]; rfl
  have N0 := Fr.nil n0
  refine Go.start fun P hPend => ?_
  refine Go.st (fun _ k => castTop (own_ef_rm_dcre m p0 ((0 : Int32))) k) ?_
  show Go _ _ _ _ (s₁.setTop (mkF m 0 #[lJ p0, lS, lI (0 : Int32)] []))
  refine Go.st (fun _ => XS.lloadN X0.here hx rfl (hb hby od9_0) rfl) ?_
  refine Go.st (fun _ => XS.iloadN X0.here hx rfl (hb hby od9_1) rfl) ?_
  show Go _ _ _ _ (s₁.setTop (mkF m 2 #[lJ p0, lS, lI (0 : Int32)] [(.int (0 : Int32)), (.long p0)]))
  refine Go.st (fun _ => XS.i2l X0.here hx rfl (hb hby od9_2) rfl) ?_
  show Go _ _ _ _ (s₁.setTop (mkF m 3 #[lJ p0, lS, lI (0 : Int32)] [(.long ((0 : Int32).toInt64)), (.long p0)]))
  refine Go.st (fun _ => XS.lor X0.here hx rfl (hb hby od9_3) rfl) ?_
  show Go _ _ _ _ (s₁.setTop (mkF m 4 #[lJ p0, lS, lI (0 : Int32)] [(.long (p0 ||| ((0 : Int32).toInt64)))]))
  rw [show (p0 ||| ((0 : Int32).toInt64)) = p0 from own_or0 p0]
  show Go _ _ _ _ (s₁.setTop (mkF m 4 #[lJ p0, lS, lI (0 : Int32)] [(.long p0)]))
  refine Go.st (fun _ => XS.lconst X0.here hx rfl (hb hby od9_4)) ?_
  show Go _ _ _ _ (s₁.setTop (mkF m 5 #[lJ p0, lS, lI (0 : Int32)] [(.long (0 : Int64)), (.long p0)]))
  refine Go.st (fun _ => XS.lcmp X0.here hx rfl (hb hby od9_5) rfl) ?_
  show Go _ _ _ _ (s₁.setTop (mkF m 6 #[lJ p0, lS, lI (0 : Int32)] [(.int (lcmpW p0 (0 : Int64)))]))
  by_cases hc1 : (lcmpW p0 (0 : Int64)) = (0 : Int32)
  · skip
    have hz0 : p0 = 0 := (lw_eq _ _).mp hc1
    refine Go.st (fun _ => XS.ifNo X0.here hx rfl (hb hby od9_6) rfl ((if0 _ _).trans (teq hc1).2)) ?_
    show Go _ _ _ _ (s₁.setTop (mkF m 9 #[lJ p0, lS, lI (0 : Int32)] []))
    obtain ⟨T2, X2, e2, st2⟩ := getS2 X0 hx hZ hown (host := "") (Or.inl (ow hw 137 rfl)) Via.refl e0 (S_ZR.ext X00.2) (g := (mkF m 9 #[.val (.long p0), .second, .val (.int (0 : Int32))] [])) rfl (hb hby od9_9)
    refine Go.st st2 ?_
    show Go _ _ _ _ (T2.setTop (mkF m 12 #[lJ p0, lS, lI (0 : Int32)] [(.ref w_ZR)]))
    obtain ⟨fs, hr, hrun, hended, hW, hsame⟩ := X2.leave (v := some (.ref w_ZR)) (fun h => by rw [Bd.returns] at h; cases h)
    refine ⟨_, ?_, hPend _ _ hrun hended ⟨_, _, rfl, ?_, ⟨_, rfl⟩, hW, hsame.mono (by decide) (by decide)⟩⟩
    · exact retOut X2 hx (t := (.object "java/time/Duration")) Bd.returns rfl (Or.inr (Or.inr (Or.inr (Or.inr ⟨rfl, rfl, rfl⟩)))) (hb hby od9_12) hr
    · show Q_rm_dcre Z _ _ _ _ _ h0 n0 _ T2.heap _
      rw [e2]
      exact ⟨w_ZR, rfl, N0, (Keep.refl h0 []), (X_ZR.ext X00.2), (by rw [hz0]; exact (I_ZR_seconds.ext X00.2)), (I_ZR_nanos.ext X00.2)⟩
  · skip
    refine Go.st (fun _ => XS.ifYes X0.here hx rfl (pc0 := 6) (pc' := 13) rfl (hb hby od9_6) rfl ((if0 _ _).trans (feq hc1).2) (by decide) (by decide)) ?_
    show Go _ _ _ _ (s₁.setTop (mkF m 13 #[lJ p0, lS, lI (0 : Int32)] []))
    obtain ⟨T3, h3, X3, e3, E3, A3, D3, -, st3⟩ := newO X0 hx hZ hown (ow hw 117 rfl) (ow hw 118 rfl) (ow hw 106 rfl) e0 (g := (mkF m 13 #[.val (.long p0), .second, .val (.int (0 : Int32))] [])) rfl (hb hby od9_13) (by decide) (by decide)
    obtain ⟨b3, g3⟩ : ∃ z, z = h0.size := ⟨_, rfl⟩
    rw [← g3] at A3 D3 st3
    refine Go.st st3 ?_
    have g_b3 : n0 ≤ b3 := Nat.le_trans (own_oldsz X00) (Nat.le_of_eq g3.symm)
    have sz_b3 : h0.size ≤ b3 := Nat.le_trans (Keep.refl h0 []).1 (Nat.le_of_eq g3.symm)
    have K3 : Keep h0 h3 [] := (Keep.refl h0 []).ext E3
    have O3 := X00.ext E3
    have F4 : Fld Z h3 b3 "java/time/Duration" "seconds" "J" (.long (0 : Int64)) := D3 (Or.inr (ow hw 109 rfl)) (ty := .long) (by decide)
    have F5 : Fld Z h3 b3 "java/time/Duration" "nanos" "I" (.int (0 : Int32)) := D3 (Or.inr (ow hw 125 rfl)) (ty := .int) (by decide)
    show Go _ _ _ _ (T3.setTop (mkF m 16 #[lJ p0, lS, lI (0 : Int32)] [(.ref b3)]))
    refine Go.st (fun _ => XS.dup X3.here hx rfl (hb hby od9_16) rfl rfl) ?_
    refine Go.st (fun _ => XS.lloadN X3.here hx rfl (hb hby od9_17) rfl) ?_
    refine Go.st (fun _ => XS.iloadN X3.here hx rfl (hb hby od9_18) rfl) ?_
    show Go _ _ _ _ (T3.setTop (mkF m 19 #[lJ p0, lS, lI (0 : Int32)] [(.int (0 : Int32)), (.long p0), (.ref b3), (.ref b3)]))
    obtain ⟨_, _, ⟨T6, L6, k6, n6⟩, -, X6, ⟨Lc6, hQ6, l6, y6, z6⟩, st6⟩ := X3.specialBack hx (y := (⟨"java/time/Duration", "<init>", "(JI)V"⟩ : MethodName)) rfl hown (mvT hZ (ow hw 119 rfl)) (mvT hZ (ow hw 120 rfl)) (mvT hZ (ow hw 122 rfl)) (by decide) (backOf (W := 1) (rm_dinit l Z a0 hw [] b3 p0 (0 : Int32) h3 n0 O3 A3 F4 F5 g_b3) hZ (ow hw 122 rfl) (ow hw 106 rfl) (by decide) (by decide)) (g := (mkF m 19 #[.val (.long p0), .second, .val (.int (0 : Int32))] [(.int (0 : Int32)), (.long p0), (.ref b3), (.ref b3)])) rfl (by rw [hml]; rfl) (Steps.refl _) (a := b3) (argsL := [(.long p0), (.int (0 : Int32))]) (rest := [(.ref b3)]) (lenOf own_pd3 rfl) rfl (by show 2 * 0 + _ ≤ _; exact Nat.le_of_eq rfl) (hb hby od9_19) (fun _ _ => ⟨rfl, e3, (by decide : 1 + 0 ≤ _), (by decide : 2 + 0 ≤ _)⟩)
    dsimp only [Pt.U, Pt.locs, Pt.cells, Pt.slots] at X6 l6 y6 z6 st6 hQ6
    subst y6 z6
    refine Go.tr st6 ?_
    obtain ⟨rfl, N6q, K6q, q6_0, q6_1, q6_2⟩ := hQ6
    have N6 : Fr n0 L6 := by rw [l6]; exact Fr.app N0 N6q
    have O6 := O3.keep K6q (allS g_b3 all0)
    have K6 : Keep h0 T6.heap [] := K3.trans K6q (allS (Or.inr sz_b3) all0)
    show Go _ _ _ _ (T6.setTop (mkF m 22 #[lJ p0, lS, lI (0 : Int32)] [(.ref b3)]))
    obtain ⟨fs, hr, hrun, hended, hW, hsame⟩ := X6.leave (v := some (.ref b3)) (fun h => by rw [Bd.returns] at h; cases h)
    refine ⟨_, ?_, hPend _ _ hrun hended ⟨_, _, rfl, ?_, ⟨_, rfl⟩, hW, hsame.mono (by decide) (by decide)⟩⟩
    · exact retOut X6 hx (t := (.object "java/time/Duration")) Bd.returns rfl (Or.inr (Or.inr (Or.inr (Or.inr ⟨rfl, rfl, rfl⟩)))) (hb hby od9_22) hr
    · show Q_rm_dcre Z _ _ _ _ _ h0 n0 _ T6.heap _
      exact ⟨b3, rfl, N6, K6, q6_0, q6_1, q6_2⟩
theorem own_ef_rm_dofs (m : MethodId) (x0 : Int64) : entryFrame m #[(.long x0)] 2 = mkF m 0 #[.val (.long x0), .second] [] := by first | (simp [entryFrame, mkF, argsToLocals, Value.category]; done) | rfl
theorem od10_0 : decode jdk_2316_method_4_code 0 = .ok (.lload_n 0, 1) := by decide +kernel
theorem od10_1 : decode jdk_2316_method_4_code 1 = .ok (.iconst 0, 1) := by decide +kernel
theorem od10_2 : decode jdk_2316_method_4_code 2 = .ok (.invokestatic 10, 3) := by decide +kernel
theorem own_pd4 : parseMethodDescriptor "(JI)Ljava/time/Duration;" = some ⟨[.long, .int], some (.object "java/time/Duration")⟩ := by decide +kernel
theorem od10_5 : decode jdk_2316_method_4_code 5 = .ok (.areturn, 1) := by decide +kernel
def Q_rm_dofs (Z : State) (w_MX : Addr) (w_ZR : Addr) (g_CS : Int32) (g_SF : Value) (p0 : Int64) (h0 : Heap) (n0 : Nat) (v : Option Value) (h : Heap) (L : List Loc) : Prop := ∃ (ob : Addr), v = some (.ref ob) ∧ Fr n0 L ∧ Keep h0 h [] ∧ Exa Z h ob "java/time/Duration" ∧ Fld Z h ob "java/time/Duration" "seconds" "J" (.long p0) ∧ Fld Z h ob "java/time/Duration" "nanos" "I" (.int (0 : Int32))
set_option maxRecDepth 65536 in
set_option maxHeartbeats 40000000 in
theorem rm_dofs (l : Launch) (Z : State) (a0 : Array Value) (hw : ∀ d ∈ tables_1, d.before a0 Z = true) (ws : List Jvm.Cond) (w_MX : Addr) (S_MX : Sta Z Z.heap "com/example/vacuum/vacuum/settings/Durations" "MAX" "Ljava/time/Duration;" (.ref w_MX)) (X_MX : Exa Z Z.heap w_MX "java/time/Duration") (I_MX_seconds : Fld Z Z.heap w_MX "java/time/Duration" "seconds" "J" (.long (3155760000 : Int64))) (w_ZR : Addr) (S_ZR : Sta Z Z.heap "java/time/Duration" "ZERO" "Ljava/time/Duration;" (.ref w_ZR)) (X_ZR : Exa Z Z.heap w_ZR "java/time/Duration") (I_ZR_seconds : Fld Z Z.heap w_ZR "java/time/Duration" "seconds" "J" (.long (0 : Int64))) (I_ZR_nanos : Fld Z Z.heap w_ZR "java/time/Duration" "nanos" "I" (.int (0 : Int32))) (g_CS : Int32) (S_CS : Sta Z Z.heap "java/lang/String" "COMPACT_STRINGS" "Z" (.int g_CS)) (nz_CS : ¬ (g_CS = (0 : Int32))) (g_SF : Value) (S_SF : Sta Z Z.heap "jdk/internal/util/Preconditions" "SIOOBE_FORMATTER" "Ljava/util/function/BiFunction;" g_SF) (r_SF : g_SF.isRef = true) (p0 : Int64) (h0 : Heap) (n0 : Nat) (X00 : Old Z n0 h0)  :
    MetFree l (⟨"java/time/Duration", "ofSeconds", "(J)Ljava/time/Duration;"⟩ : MethodName) (head1 (Jvm.Cond.code (⟨"java/time/Duration", "ofSeconds", "(J)Ljava/time/Duration;"⟩ : MethodName) jdk_2316_method_4_code 2 (some (.object "java/time/Duration")) :: ws) ({ frames := 3, cells := 1, slots := 2, locals := 42 } : Room)) (fun a U => a = #[(.long p0)] ∧ Z.Warmed39 U.vm ∧ U.heap = h0) (fun _ _ _ _ _ => True) (fun _ U o U' => ∃ v L, o = .returned v ∧ Q_rm_dofs Z w_MX w_ZR g_CS g_SF p0 h0 n0 v U'.heap L ∧ FrameEnd U o U' L ({ frames := 3, cells := 1, slots := 2, locals := 42 } : Room).cells ({ frames := 3, cells := 1, slots := 2, locals := 42 } : Room).slots) := by
  refine MetFree.of_bodySF (plainFor_of_name own_pn4) hisR ?_
  intro p e s m args below meth c s₁ Bd hml0 hP hK
  obtain ⟨rfl, hZ, hh⟩ := hP
  have hx := Bd.exec
  have hby := Bd.bytes
  have hml : c.maxLocals = 2 := hml0
  have hown : s.vm.findClass "java/time/Duration" = some m.cls := findClass_of_methodNamed Bd.named
  have hnm := (name_of_methodNamed Bd.named Bd.method).1
  have X0 : Stand p l e ({ frames := 3, cells := 1, slots := 2, locals := 42 } : Room) s m #[(.long p0)] below meth c s₁ [] 0 0 := Stand.of_body Bd
  have e0 : s₁.heap = h0 := by rw [← hh, Bd.state]; rfl
  have N0 := Fr.nil n0
  refine Go.start fun P hPend => ?_
  refine Go.st (fun _ k => castTop (own_ef_rm_dofs m p0) k) ?_
  show Go _ _ _ _ (s₁.setTop (mkF m 0 #[lJ p0, lS] []))
  refine Go.st (fun _ => XS.lloadN X0.here hx rfl (hb hby od10_0) rfl) ?_
  refine Go.st (fun _ => XS.iconst X0.here hx rfl (hb hby od10_1)) ?_
  show Go _ _ _ _ (s₁.setTop (mkF m 2 #[lJ p0, lS] [(.int (0 : Int32)), (.long p0)]))
  obtain ⟨_, _, ⟨T1, L1, k1, n1⟩, -, X1, ⟨Lc1, hQ1, l1, y1, z1⟩, st1⟩ := Jvm.LawKit.callS X0 hx (y := (⟨"java/time/Duration", "create", "(JI)Ljava/time/Duration;"⟩ : MethodName)) hown (mvT hZ (ow hw 114 rfl)) (mvT hZ (ow hw 115 rfl)) (mvT hZ (ow hw 106 rfl)) (mvT hZ (ow hw 116 rfl)) (by decide) (backOf (W := 0) (rm_dcre l Z a0 hw [] w_MX S_MX X_MX I_MX_seconds w_ZR S_ZR X_ZR I_ZR_seconds I_ZR_nanos g_CS S_CS nz_CS g_SF S_SF r_SF p0 h0 n0 X00 ) hZ (ow hw 116 rfl) (ow hw 106 rfl) (by decide) (by decide)) (g := (mkF m 2 #[.val (.long p0), .second] [(.int (0 : Int32)), (.long p0)])) rfl (by rw [hml]; rfl) (argsL := [(.long p0), (.int (0 : Int32))]) (rest := []) (lenOf own_pd4 rfl) rfl (by show 2 * 0 + _ ≤ _; exact Nat.le_of_eq rfl) (hb hby od10_2) (fun _ _ => ⟨rfl, e0, (by decide : 0 + 1 ≤ _), (by decide : 0 + 2 ≤ _)⟩)
  dsimp only [Pt.U, Pt.locs, Pt.cells, Pt.slots] at X1 l1 y1 z1 st1 hQ1
  subst y1 z1
  refine Go.st st1 ?_
  obtain ⟨ob_2, rfl, N1q, K1q, q1_0, q1_1, q1_2⟩ := hQ1
  have N1 : Fr n0 L1 := by rw [l1]; exact Fr.app N0 N1q
  have O1 := X00.keep K1q all0
  have K1 : Keep h0 T1.heap [] := (Keep.refl h0 []).trans K1q all0
  show Go _ _ _ _ (T1.setTop (mkF m 5 #[lJ p0, lS] [(.ref ob_2)]))
  obtain ⟨fs, hr, hrun, hended, hW, hsame⟩ := X1.leave (v := some (.ref ob_2)) (fun h => by rw [Bd.returns] at h; cases h)
  refine ⟨_, ?_, hPend _ _ hrun hended ⟨_, _, rfl, ?_, ⟨_, rfl⟩, hW, hsame.mono (by decide) (by decide)⟩⟩
  · exact retOut X1 hx (t := (.object "java/time/Duration")) Bd.returns rfl (Or.inr (Or.inr (Or.inr (Or.inr ⟨rfl, rfl, rfl⟩)))) (hb hby od10_5) hr
  · show Q_rm_dofs Z _ _ _ _ _ h0 n0 _ T1.heap _
    exact ⟨ob_2, rfl, N1, K1, q1_0, q1_1, q1_2⟩
theorem own_ef_rm_spu (m : MethodId) (x0 : Int32) : entryFrame m #[(.int x0)] 1 = mkF m 0 #[.val (.int x0)] [] := by first | (simp [entryFrame, mkF, argsToLocals, Value.category]; done) | rfl
theorem own_pn5 : plainName "com/example/vacuum/vacuum/settings/Durations" = true := by first | (simp [plainName, overriddenIn]; done) | decide +kernel
theorem od11_0 : decode prog_21_method_4_code 0 = .ok (.iload_n 0, 1) := by decide +kernel
theorem od11_1 : decode prog_21_method_4_code 1 = .ok (.lookupswitch 79 #[(100, 67), (104, 61), (109, 55), (115, 51), (119, 73)], 51) := by decide +kernel
theorem od11_52 : decode prog_21_method_4_code 52 = .ok (.lconst 1, 1) := by decide +kernel
theorem od11_53 : decode prog_21_method_4_code 53 = .ok (.goto 28, 3) := by decide +kernel
theorem od11_81 : decode prog_21_method_4_code 81 = .ok (.lreturn, 1) := by decide +kernel
theorem od11_56 : decode prog_21_method_4_code 56 = .ok (.ldc2_w 99, 3) := by decide +kernel
theorem od11_59 : decode prog_21_method_4_code 59 = .ok (.goto 22, 3) := by decide +kernel
theorem od11_62 : decode prog_21_method_4_code 62 = .ok (.ldc2_w 101, 3) := by decide +kernel
theorem od11_65 : decode prog_21_method_4_code 65 = .ok (.goto 16, 3) := by decide +kernel
theorem od11_68 : decode prog_21_method_4_code 68 = .ok (.ldc2_w 103, 3) := by decide +kernel
theorem od11_71 : decode prog_21_method_4_code 71 = .ok (.goto 10, 3) := by decide +kernel
theorem od11_74 : decode prog_21_method_4_code 74 = .ok (.ldc2_w 105, 3) := by decide +kernel
theorem od11_77 : decode prog_21_method_4_code 77 = .ok (.goto 4, 3) := by decide +kernel
def Q_rm_spu (Z : State) (p0 : Int32) (us : Nat) (h0 : Heap) (n0 : Nat) (v : Option Value) (h : Heap) (L : List Loc) : Prop := v = some (.long (Int64.ofNat us)) ∧ Fr n0 L ∧ h = h0
set_option maxRecDepth 65536 in
set_option maxHeartbeats 40000000 in
theorem rm_spu (l : Launch) (Z : State) (a0 : Array Value) (hw : ∀ d ∈ tables_1, d.before a0 Z = true) (ws : List Jvm.Cond) (p0 : Int32) (us : Nat) (h0 : Heap) (n0 : Nat) (X00 : Old Z n0 h0) (hU : own_U p0 us) :
    MetFree l (⟨"com/example/vacuum/vacuum/settings/Durations", "secondsPerUnit", "(C)J"⟩ : MethodName) (head1 (Jvm.Cond.code (⟨"com/example/vacuum/vacuum/settings/Durations", "secondsPerUnit", "(C)J"⟩ : MethodName) prog_21_method_4_code 1 (some .long) :: ws) ({ frames := 0, cells := 0, slots := 0, locals := 0 } : Room)) (fun a U => a = #[(.int p0)] ∧ Z.Warmed39 U.vm ∧ U.heap = h0) (fun _ _ _ _ _ => True) (fun _ U o U' => ∃ v L, o = .returned v ∧ Q_rm_spu Z p0 us h0 n0 v U'.heap L ∧ FrameEnd U o U' L ({ frames := 0, cells := 0, slots := 0, locals := 0 } : Room).cells ({ frames := 0, cells := 0, slots := 0, locals := 0 } : Room).slots) := by
  refine MetFree.of_bodySF (plainFor_of_name own_pn5) hisR ?_
  intro p e s m args below meth c s₁ Bd hml0 hP hK
  obtain ⟨rfl, hZ, hh⟩ := hP
  have hx := Bd.exec
  have hby := Bd.bytes
  have hml : c.maxLocals = 1 := hml0
  have hown : s.vm.findClass "com/example/vacuum/vacuum/settings/Durations" = some m.cls := findClass_of_methodNamed Bd.named
  have hnm := (name_of_methodNamed Bd.named Bd.method).1
  have X0 : Stand p l e ({ frames := 0, cells := 0, slots := 0, locals := 0 } : Room) s m #[(.int p0)] below meth c s₁ [] 0 0 := Stand.of_body Bd
  have e0 : s₁.heap = h0 := by rw [← hh, Bd.state]; rfl
  have N0 := Fr.nil n0
  refine Go.start fun P hPend => ?_
  refine Go.st (fun _ k => castTop (own_ef_rm_spu m p0) k) ?_
  show Go _ _ _ _ (s₁.setTop (mkF m 0 #[lI p0] []))
  rcases hU with ⟨rfl, rfl⟩ | ⟨rfl, rfl⟩ | ⟨rfl, rfl⟩ | ⟨rfl, rfl⟩ | ⟨rfl, rfl⟩
  · skip
    show Go _ _ _ _ (s₁.setTop (mkF m 0 #[lI (115 : Int32)] []))
    refine Go.st (fun _ => XS.iloadN X0.here hx rfl (hb hby od11_0) rfl) ?_
    show Go _ _ _ _ (s₁.setTop (mkF m 1 #[lI (115 : Int32)] [(.int (115 : Int32))]))
    refine Go.st (fun _ => X0.lookupswitchHit hx (g := (mkF m 1 #[.val (.int (115 : Int32))] [(.int (115 : Int32))])) rfl rfl (hb hby od11_1) (by decide) (a := 115) (off := 51) (by decide) (show (0 : Int) ≤ ((1 : Nat) : Int) + 51 by decide) _) ?_
    show Go _ _ _ _ (s₁.setTop (mkF m 52 #[lI (115 : Int32)] []))
    refine Go.st (fun _ => XS.lconst X0.here hx rfl (hb hby od11_52)) ?_
    show Go _ _ _ _ (s₁.setTop (mkF m 53 #[lI (115 : Int32)] [(.long (1 : Int64))]))
    refine Go.st (fun _ => XS.goto X0.here hx rfl (pc0 := 53) (pc' := 81) rfl (hb hby od11_53) (by decide) (by decide)) ?_
    show Go _ _ _ _ (s₁.setTop (mkF m 81 #[lI (115 : Int32)] [(.long (1 : Int64))]))
    obtain ⟨fs, hr, hrun, hended, hW, hsame⟩ := X0.leave (v := some (.long (1 : Int64))) (fun h => by rw [Bd.returns] at h; cases h)
    refine ⟨_, ?_, hPend _ _ hrun hended ⟨_, _, rfl, ?_, ⟨_, rfl⟩, hW, hsame.mono (by decide) (by decide)⟩⟩
    · exact retOut X0 hx (t := .long) Bd.returns rfl (Or.inr (Or.inl ⟨rfl, rfl, _, rfl⟩)) (hb hby od11_81) hr
    · show Q_rm_spu Z _ _ h0 n0 _ s₁.heap _
      rw [e0]
      exact ⟨rfl, N0, rfl⟩
  · skip
    show Go _ _ _ _ (s₁.setTop (mkF m 0 #[lI (109 : Int32)] []))
    refine Go.st (fun _ => XS.iloadN X0.here hx rfl (hb hby od11_0) rfl) ?_
    show Go _ _ _ _ (s₁.setTop (mkF m 1 #[lI (109 : Int32)] [(.int (109 : Int32))]))
    refine Go.st (fun _ => X0.lookupswitchHit hx (g := (mkF m 1 #[.val (.int (109 : Int32))] [(.int (109 : Int32))])) rfl rfl (hb hby od11_1) (by decide) (a := 109) (off := 55) (by decide) (show (0 : Int) ≤ ((1 : Nat) : Int) + 55 by decide) _) ?_
    show Go _ _ _ _ (s₁.setTop (mkF m 56 #[lI (109 : Int32)] []))
    refine Go.st (fun _ => X0.ldc2Long hx hown (mvT hZ (ow hw 99 rfl)) (g := (mkF m 56 #[.val (.int (109 : Int32))] [])) rfl (hb hby od11_56) _) ?_
    show Go _ _ _ _ (s₁.setTop (mkF m 59 #[lI (109 : Int32)] [(.long (60 : Int64))]))
    refine Go.st (fun _ => XS.goto X0.here hx rfl (pc0 := 59) (pc' := 81) rfl (hb hby od11_59) (by decide) (by decide)) ?_
    show Go _ _ _ _ (s₁.setTop (mkF m 81 #[lI (109 : Int32)] [(.long (60 : Int64))]))
    obtain ⟨fs, hr, hrun, hended, hW, hsame⟩ := X0.leave (v := some (.long (60 : Int64))) (fun h => by rw [Bd.returns] at h; cases h)
    refine ⟨_, ?_, hPend _ _ hrun hended ⟨_, _, rfl, ?_, ⟨_, rfl⟩, hW, hsame.mono (by decide) (by decide)⟩⟩
    · exact retOut X0 hx (t := .long) Bd.returns rfl (Or.inr (Or.inl ⟨rfl, rfl, _, rfl⟩)) (hb hby od11_81) hr
    · show Q_rm_spu Z _ _ h0 n0 _ s₁.heap _
      rw [e0]
      exact ⟨rfl, N0, rfl⟩
  · skip
    show Go _ _ _ _ (s₁.setTop (mkF m 0 #[lI (104 : Int32)] []))
    refine Go.st (fun _ => XS.iloadN X0.here hx rfl (hb hby od11_0) rfl) ?_
    show Go _ _ _ _ (s₁.setTop (mkF m 1 #[lI (104 : Int32)] [(.int (104 : Int32))]))
    refine Go.st (fun _ => X0.lookupswitchHit hx (g := (mkF m 1 #[.val (.int (104 : Int32))] [(.int (104 : Int32))])) rfl rfl (hb hby od11_1) (by decide) (a := 104) (off := 61) (by decide) (show (0 : Int) ≤ ((1 : Nat) : Int) + 61 by decide) _) ?_
    show Go _ _ _ _ (s₁.setTop (mkF m 62 #[lI (104 : Int32)] []))
    refine Go.st (fun _ => X0.ldc2Long hx hown (mvT hZ (ow hw 134 rfl)) (g := (mkF m 62 #[.val (.int (104 : Int32))] [])) rfl (hb hby od11_62) _) ?_
    show Go _ _ _ _ (s₁.setTop (mkF m 65 #[lI (104 : Int32)] [(.long (3600 : Int64))]))
    refine Go.st (fun _ => XS.goto X0.here hx rfl (pc0 := 65) (pc' := 81) rfl (hb hby od11_65) (by decide) (by decide)) ?_
    show Go _ _ _ _ (s₁.setTop (mkF m 81 #[lI (104 : Int32)] [(.long (3600 : Int64))]))
    obtain ⟨fs, hr, hrun, hended, hW, hsame⟩ := X0.leave (v := some (.long (3600 : Int64))) (fun h => by rw [Bd.returns] at h; cases h)
    refine ⟨_, ?_, hPend _ _ hrun hended ⟨_, _, rfl, ?_, ⟨_, rfl⟩, hW, hsame.mono (by decide) (by decide)⟩⟩
    · exact retOut X0 hx (t := .long) Bd.returns rfl (Or.inr (Or.inl ⟨rfl, rfl, _, rfl⟩)) (hb hby od11_81) hr
    · show Q_rm_spu Z _ _ h0 n0 _ s₁.heap _
      rw [e0]
      exact ⟨rfl, N0, rfl⟩
  · skip
    show Go _ _ _ _ (s₁.setTop (mkF m 0 #[lI (100 : Int32)] []))
    refine Go.st (fun _ => XS.iloadN X0.here hx rfl (hb hby od11_0) rfl) ?_
    show Go _ _ _ _ (s₁.setTop (mkF m 1 #[lI (100 : Int32)] [(.int (100 : Int32))]))
    refine Go.st (fun _ => X0.lookupswitchHit hx (g := (mkF m 1 #[.val (.int (100 : Int32))] [(.int (100 : Int32))])) rfl rfl (hb hby od11_1) (by decide) (a := 100) (off := 67) (by decide) (show (0 : Int) ≤ ((1 : Nat) : Int) + 67 by decide) _) ?_
    show Go _ _ _ _ (s₁.setTop (mkF m 68 #[lI (100 : Int32)] []))
    refine Go.st (fun _ => X0.ldc2Long hx hown (mvT hZ (ow hw 136 rfl)) (g := (mkF m 68 #[.val (.int (100 : Int32))] [])) rfl (hb hby od11_68) _) ?_
    show Go _ _ _ _ (s₁.setTop (mkF m 71 #[lI (100 : Int32)] [(.long (86400 : Int64))]))
    refine Go.st (fun _ => XS.goto X0.here hx rfl (pc0 := 71) (pc' := 81) rfl (hb hby od11_71) (by decide) (by decide)) ?_
    show Go _ _ _ _ (s₁.setTop (mkF m 81 #[lI (100 : Int32)] [(.long (86400 : Int64))]))
    obtain ⟨fs, hr, hrun, hended, hW, hsame⟩ := X0.leave (v := some (.long (86400 : Int64))) (fun h => by rw [Bd.returns] at h; cases h)
    refine ⟨_, ?_, hPend _ _ hrun hended ⟨_, _, rfl, ?_, ⟨_, rfl⟩, hW, hsame.mono (by decide) (by decide)⟩⟩
    · exact retOut X0 hx (t := .long) Bd.returns rfl (Or.inr (Or.inl ⟨rfl, rfl, _, rfl⟩)) (hb hby od11_81) hr
    · show Q_rm_spu Z _ _ h0 n0 _ s₁.heap _
      rw [e0]
      exact ⟨rfl, N0, rfl⟩
  · skip
    show Go _ _ _ _ (s₁.setTop (mkF m 0 #[lI (119 : Int32)] []))
    refine Go.st (fun _ => XS.iloadN X0.here hx rfl (hb hby od11_0) rfl) ?_
    show Go _ _ _ _ (s₁.setTop (mkF m 1 #[lI (119 : Int32)] [(.int (119 : Int32))]))
    refine Go.st (fun _ => X0.lookupswitchHit hx (g := (mkF m 1 #[.val (.int (119 : Int32))] [(.int (119 : Int32))])) rfl rfl (hb hby od11_1) (by decide) (a := 119) (off := 73) (by decide) (show (0 : Int) ≤ ((1 : Nat) : Int) + 73 by decide) _) ?_
    show Go _ _ _ _ (s₁.setTop (mkF m 74 #[lI (119 : Int32)] []))
    refine Go.st (fun _ => X0.ldc2Long hx hown (mvT hZ (ow hw 138 rfl)) (g := (mkF m 74 #[.val (.int (119 : Int32))] [])) rfl (hb hby od11_74) _) ?_
    show Go _ _ _ _ (s₁.setTop (mkF m 77 #[lI (119 : Int32)] [(.long (604800 : Int64))]))
    refine Go.st (fun _ => XS.goto X0.here hx rfl (pc0 := 77) (pc' := 81) rfl (hb hby od11_77) (by decide) (by decide)) ?_
    show Go _ _ _ _ (s₁.setTop (mkF m 81 #[lI (119 : Int32)] [(.long (604800 : Int64))]))
    obtain ⟨fs, hr, hrun, hended, hW, hsame⟩ := X0.leave (v := some (.long (604800 : Int64))) (fun h => by rw [Bd.returns] at h; cases h)
    refine ⟨_, ?_, hPend _ _ hrun hended ⟨_, _, rfl, ?_, ⟨_, rfl⟩, hW, hsame.mono (by decide) (by decide)⟩⟩
    · exact retOut X0 hx (t := .long) Bd.returns rfl (Or.inr (Or.inl ⟨rfl, rfl, _, rfl⟩)) (hb hby od11_81) hr
    · show Q_rm_spu Z _ _ h0 n0 _ s₁.heap _
      rw [e0]
      exact ⟨rfl, N0, rfl⟩
theorem own_ef_rm_parse (m : MethodId) (x0 : Addr) (x1 : Addr) : entryFrame m #[(.ref x0), (.ref x1)] 10 = mkF m 0 #[.val (.ref x0), .val (.ref x1), .unset, .unset, .unset, .unset, .unset, .unset, .unset, .unset] [] := by first | (simp [entryFrame, mkF, argsToLocals, Value.category]; done) | rfl
theorem od12_0 : decode prog_21_method_2_code 0 = .ok (.aload_n 0, 1) := by decide +kernel
theorem od12_1 : decode prog_21_method_2_code 1 = .ok (.ldc 7, 2) := by decide +kernel
theorem od12_3 : decode prog_21_method_2_code 3 = .ok (.invokestatic 9, 3) := by decide +kernel
theorem own_pd5 : parseMethodDescriptor "(Ljava/lang/Object;Ljava/lang/String;)Ljava/lang/Object;" = some ⟨[(.object "java/lang/Object"), (.object "java/lang/String")], some (.object "java/lang/Object")⟩ := by decide +kernel
theorem od12_6 : decode prog_21_method_2_code 6 = .ok (.pop, 1) := by decide +kernel
theorem od12_7 : decode prog_21_method_2_code 7 = .ok (.aload_n 1, 1) := by decide +kernel
theorem od12_8 : decode prog_21_method_2_code 8 = .ok (.ldc 15, 2) := by decide +kernel
theorem od12_10 : decode prog_21_method_2_code 10 = .ok (.invokestatic 9, 3) := by decide +kernel
theorem od12_13 : decode prog_21_method_2_code 13 = .ok (.pop, 1) := by decide +kernel
theorem od12_14 : decode prog_21_method_2_code 14 = .ok (.aload_n 1, 1) := by decide +kernel
theorem od12_15 : decode prog_21_method_2_code 15 = .ok (.invokevirtual 17, 3) := by decide +kernel
theorem own_pd6 : parseMethodDescriptor "()I" = some ⟨[], some .int⟩ := by decide +kernel
theorem od12_18 : decode prog_21_method_2_code 18 = .ok (.iconst 2, 1) := by decide +kernel
theorem od12_19 : decode prog_21_method_2_code 19 = .ok (.if_icmp .ge 9, 3) := by decide +kernel
theorem od12_28 : decode prog_21_method_2_code 28 = .ok (.aload_n 1, 1) := by decide +kernel
theorem od12_29 : decode prog_21_method_2_code 29 = .ok (.aload_n 1, 1) := by decide +kernel
theorem od12_30 : decode prog_21_method_2_code 30 = .ok (.invokevirtual 17, 3) := by decide +kernel
theorem od12_33 : decode prog_21_method_2_code 33 = .ok (.iconst 1, 1) := by decide +kernel
theorem od12_34 : decode prog_21_method_2_code 34 = .ok (.isub, 1) := by decide +kernel
theorem od12_35 : decode prog_21_method_2_code 35 = .ok (.invokevirtual 29, 3) := by decide +kernel
theorem own_pd7 : parseMethodDescriptor "(I)C" = some ⟨[.int], some .char⟩ := by decide +kernel
theorem od12_38 : decode prog_21_method_2_code 38 = .ok (.invokestatic 33, 3) := by decide +kernel
theorem own_pd8 : parseMethodDescriptor "(C)J" = some ⟨[.char], some .long⟩ := by decide +kernel
theorem od12_41 : decode prog_21_method_2_code 41 = .ok (.lstore_n 2, 1) := by decide +kernel
theorem od12_42 : decode prog_21_method_2_code 42 = .ok (.lload_n 2, 1) := by decide +kernel
theorem od12_43 : decode prog_21_method_2_code 43 = .ok (.lconst 0, 1) := by decide +kernel
theorem od12_44 : decode prog_21_method_2_code 44 = .ok (.lcmp, 1) := by decide +kernel
theorem od12_45 : decode prog_21_method_2_code 45 = .ok (.ifCond .ne 9, 3) := by decide +kernel
theorem od12_54 : decode prog_21_method_2_code 54 = .ok (.getstatic 37, 3) := by decide +kernel
theorem od12_57 : decode prog_21_method_2_code 57 = .ok (.invokevirtual 41, 3) := by decide +kernel
theorem own_pd9 : parseMethodDescriptor "()J" = some ⟨[], some .long⟩ := by decide +kernel
theorem od12_60 : decode prog_21_method_2_code 60 = .ok (.lload_n 2, 1) := by decide +kernel
theorem od12_61 : decode prog_21_method_2_code 61 = .ok (.ldiv, 1) := by decide +kernel
theorem od12_62 : decode prog_21_method_2_code 62 = .ok (.lstore 4, 2) := by decide +kernel
theorem od12_64 : decode prog_21_method_2_code 64 = .ok (.lconst 0, 1) := by decide +kernel
theorem od12_65 : decode prog_21_method_2_code 65 = .ok (.lstore 6, 2) := by decide +kernel
theorem od12_67 : decode prog_21_method_2_code 67 = .ok (.iconst 0, 1) := by decide +kernel
theorem od12_68 : decode prog_21_method_2_code 68 = .ok (.istore 8, 2) := by decide +kernel
theorem od12_70 : decode prog_21_method_2_code 70 = .ok (.iload 8, 2) := by decide +kernel
theorem od12_72 : decode prog_21_method_2_code 72 = .ok (.aload_n 1, 1) := by decide +kernel
theorem od12_73 : decode prog_21_method_2_code 73 = .ok (.invokevirtual 17, 3) := by decide +kernel
theorem od12_76 : decode prog_21_method_2_code 76 = .ok (.iconst 1, 1) := by decide +kernel
theorem od12_77 : decode prog_21_method_2_code 77 = .ok (.isub, 1) := by decide +kernel
theorem od12_78 : decode prog_21_method_2_code 78 = .ok (.if_icmp .ge 81, 3) := by decide +kernel
theorem od12_81 : decode prog_21_method_2_code 81 = .ok (.aload_n 1, 1) := by decide +kernel
theorem od12_82 : decode prog_21_method_2_code 82 = .ok (.iload 8, 2) := by decide +kernel
theorem od12_84 : decode prog_21_method_2_code 84 = .ok (.invokevirtual 29, 3) := by decide +kernel
theorem od12_87 : decode prog_21_method_2_code 87 = .ok (.istore 9, 2) := by decide +kernel
theorem od12_89 : decode prog_21_method_2_code 89 = .ok (.iload 9, 2) := by decide +kernel
theorem od12_91 : decode prog_21_method_2_code 91 = .ok (.bipush 48, 2) := by decide +kernel
theorem od12_93 : decode prog_21_method_2_code 93 = .ok (.if_icmp .lt 10, 3) := by decide +kernel
theorem od12_96 : decode prog_21_method_2_code 96 = .ok (.iload 9, 2) := by decide +kernel
theorem od12_98 : decode prog_21_method_2_code 98 = .ok (.bipush 57, 2) := by decide +kernel
theorem od12_100 : decode prog_21_method_2_code 100 = .ok (.if_icmp .le 9, 3) := by decide +kernel
theorem od12_109 : decode prog_21_method_2_code 109 = .ok (.lload 6, 2) := by decide +kernel
theorem od12_111 : decode prog_21_method_2_code 111 = .ok (.ldc2_w 47, 3) := by decide +kernel
theorem od12_114 : decode prog_21_method_2_code 114 = .ok (.lmul, 1) := by decide +kernel
theorem od12_115 : decode prog_21_method_2_code 115 = .ok (.iload 9, 2) := by decide +kernel
theorem od12_117 : decode prog_21_method_2_code 117 = .ok (.bipush 48, 2) := by decide +kernel
theorem od12_119 : decode prog_21_method_2_code 119 = .ok (.isub, 1) := by decide +kernel
theorem od12_120 : decode prog_21_method_2_code 120 = .ok (.i2l, 1) := by decide +kernel
theorem od12_121 : decode prog_21_method_2_code 121 = .ok (.ladd, 1) := by decide +kernel
theorem od12_122 : decode prog_21_method_2_code 122 = .ok (.lstore 6, 2) := by decide +kernel
theorem od12_124 : decode prog_21_method_2_code 124 = .ok (.lload 6, 2) := by decide +kernel
theorem od12_126 : decode prog_21_method_2_code 126 = .ok (.lload 4, 2) := by decide +kernel
theorem od12_128 : decode prog_21_method_2_code 128 = .ok (.lcmp, 1) := by decide +kernel
theorem od12_129 : decode prog_21_method_2_code 129 = .ok (.ifCond .le 24, 3) := by decide +kernel
theorem od12_153 : decode prog_21_method_2_code 153 = .ok (.iinc 8 1, 3) := by decide +kernel
theorem od12_156 : decode prog_21_method_2_code 156 = .ok (.goto (-86), 3) := by decide +kernel
theorem od12_159 : decode prog_21_method_2_code 159 = .ok (.lload 6, 2) := by decide +kernel
theorem od12_161 : decode prog_21_method_2_code 161 = .ok (.lload_n 2, 1) := by decide +kernel
theorem od12_162 : decode prog_21_method_2_code 162 = .ok (.lmul, 1) := by decide +kernel
theorem od12_163 : decode prog_21_method_2_code 163 = .ok (.invokestatic 61, 3) := by decide +kernel
theorem own_pd10 : parseMethodDescriptor "(J)Ljava/time/Duration;" = some ⟨[.long], some (.object "java/time/Duration")⟩ := by decide +kernel
theorem od12_166 : decode prog_21_method_2_code 166 = .ok (.areturn, 1) := by decide +kernel
def Q_rm_parse (Z : State) (w_MX : Addr) (w_ZR : Addr) (g_CS : Int32) (g_SF : Value) (p0 : Addr) (p1 : Addr) (ds : List Int32) (u : Int32) (us : Nat) (pv : Addr) (pk : ClassId) (h0 : Heap) (n0 : Nat) (v : Option Value) (h : Heap) (L : List Loc) : Prop := ∃ (ob : Addr), v = some (.ref ob) ∧ Fr n0 L ∧ Keep h0 h [] ∧ Exa Z h ob "java/time/Duration" ∧ Fld Z h ob "java/time/Duration" "seconds" "J" (.long (Int64.ofNat (own_val ds * us))) ∧ Fld Z h ob "java/time/Duration" "nanos" "I" (.int (0 : Int32))
set_option maxRecDepth 65536 in
set_option maxHeartbeats 40000000 in
theorem rm_parse (l : Launch) (Z : State) (a0 : Array Value) (hw : ∀ d ∈ tables_1, d.before a0 Z = true) (ws : List Jvm.Cond) (w_MX : Addr) (S_MX : Sta Z Z.heap "com/example/vacuum/vacuum/settings/Durations" "MAX" "Ljava/time/Duration;" (.ref w_MX)) (X_MX : Exa Z Z.heap w_MX "java/time/Duration") (I_MX_seconds : Fld Z Z.heap w_MX "java/time/Duration" "seconds" "J" (.long (3155760000 : Int64))) (w_ZR : Addr) (S_ZR : Sta Z Z.heap "java/time/Duration" "ZERO" "Ljava/time/Duration;" (.ref w_ZR)) (X_ZR : Exa Z Z.heap w_ZR "java/time/Duration") (I_ZR_seconds : Fld Z Z.heap w_ZR "java/time/Duration" "seconds" "J" (.long (0 : Int64))) (I_ZR_nanos : Fld Z Z.heap w_ZR "java/time/Duration" "nanos" "I" (.int (0 : Int32))) (g_CS : Int32) (S_CS : Sta Z Z.heap "java/lang/String" "COMPACT_STRINGS" "Z" (.int g_CS)) (nz_CS : ¬ (g_CS = (0 : Int32))) (g_SF : Value) (S_SF : Sta Z Z.heap "jdk/internal/util/Preconditions" "SIOOBE_FORMATTER" "Ljava/util/function/BiFunction;" g_SF) (r_SF : g_SF.isRef = true) (p0 : Addr) (p1 : Addr) (ds : List Int32) (u : Int32) (us : Nat) (pv : Addr) (pk : ClassId) (h0 : Heap) (n0 : Nat) (X00 : Old Z n0 h0) (hp0 : Exa Z h0 p1 "java/lang/String") (hp1 : Fld Z h0 p1 "java/lang/String" "coder" "B" (.int (0 : Int32))) (hp2 : Fld Z h0 p1 "java/lang/String" "value" "[B" (.ref pv)) (hp3 : Arv Z h0 pv pk .byte (Int32.ofNat (ds ++ [u]).length) (((ds ++ [u]).map StrChars.lo8).map Value.int) (.int (0 : Int32))) (hpc1 : ∀ c ∈ (ds ++ [u]), ¬ c < 0 ∧ ¬ (255 : Int32) < c) (hle1 : (ds ++ [u]).length ≤ 4000) (hU : own_U u us) (hd : own_D ds) (hl1 : 1 ≤ ds.length) (hl10 : ds.length ≤ 10) (hsec : own_val ds * us ≤ 3155760000) :
    MetFree l (⟨"com/example/vacuum/vacuum/settings/Durations", "parse", "(Ljava/lang/String;Ljava/lang/String;)Ljava/time/Duration;"⟩ : MethodName) (head1 (Jvm.Cond.code (⟨"com/example/vacuum/vacuum/settings/Durations", "parse", "(Ljava/lang/String;Ljava/lang/String;)Ljava/time/Duration;"⟩ : MethodName) prog_21_method_2_code 10 (some (.object "java/time/Duration")) :: ws) ({ frames := 4, cells := 5, slots := 42, locals := 55 } : Room)) (fun a U => a = #[(.ref p0), (.ref p1)] ∧ Z.Warmed39 U.vm ∧ U.heap = h0) (fun _ _ _ _ _ => True) (fun _ U o U' => ∃ v L, o = .returned v ∧ Q_rm_parse Z w_MX w_ZR g_CS g_SF p0 p1 ds u us pv pk h0 n0 v U'.heap L ∧ ReturnedEndW U o U' L ({ frames := 4, cells := 5, slots := 42, locals := 55 } : Room).cells ({ frames := 4, cells := 5, slots := 42, locals := 55 } : Room).slots) := by
  refine MetFree.of_bodySF (plainFor_of_name own_pn5) hisR ?_
  intro p e s m args below meth c s₁ Bd hml0 hP hK
  obtain ⟨rfl, hZ, hh⟩ := hP
  have hx := Bd.exec
  have hby := Bd.bytes
  have hml : c.maxLocals = 10 := hml0
  have hown : s.vm.findClass "com/example/vacuum/vacuum/settings/Durations" = some m.cls := findClass_of_methodNamed Bd.named
  have hnm := (name_of_methodNamed Bd.named Bd.method).1
  have X0 : Stand p l e ({ frames := 4, cells := 5, slots := 42, locals := 55 } : Room) (s.setVm s.vm) m #[(.ref p0), (.ref p1)] below meth c s₁ [] 0 0 := Stand.of_body Bd
  have e0 : s₁.heap = h0 := by rw [← hh, Bd.state]; rfl
  have N0 := Fr.nil n0
  have hS0 : s.Since s.vm 0 := own_since s
  have hk0 : 0 ≤ h0.size := Nat.zero_le _
  have hZ : Z.Warmed39 (s.setVm s.vm).vm := hZ
  have hown : (s.setVm s.vm).vm.findClass "com/example/vacuum/vacuum/settings/Durations" = some m.cls := hown
  refine Go.start fun P hPend => ?_
  refine Go.st (fun _ k => castTop (own_ef_rm_parse m p0 p1) k) ?_
  show Go _ _ _ _ (s₁.setTop (mkF m 0 #[lR p0, lR p1, lU, lU, lU, lU, lU, lU, lU, lU] []))
  refine Go.st (fun _ => XS.aloadN X0.here hx rfl (hb hby od12_0) rfl rfl) ?_
  show Go _ _ _ _ (s₁.setTop (mkF m 1 #[lR p0, lR p1, lU, lU, lU, lU, lU, lU, lU, lU] [(.ref p0)]))
  obtain ⟨a1, T1, h1, kk1, X1, e1, E1, hS1, hk1, hZ1, hown1, st1⟩ := ldcS X0 hx hZ hown (ow hw 57 rfl) (fun a ha => hw a (own_strAtoms a ha)) e0 hS0 hk0 (g := (mkF m 1 #[.val (.ref p0), .val (.ref p1), .unset, .unset, .unset, .unset, .unset, .unset, .unset, .unset] [(.ref p0)])) rfl (hb hby od12_1) (n := 16) (by decide +kernel) (by decide) (by decide) (by decide)
  refine Go.st st1 ?_
  have K1 : Keep h0 h1 [] := (Keep.refl h0 []).ext E1
  have O1 := X00.ext E1
  show Go _ _ _ _ (T1.setTop (mkF m 3 #[lR p0, lR p1, lU, lU, lU, lU, lU, lU, lU, lU] [(.ref a1), (.ref p0)]))
  obtain ⟨_, _, ⟨T2, L2, k2, n2⟩, -, X2, ⟨Lc2, hQ2, l2, y2, z2⟩, st2⟩ := Jvm.LawKit.callS X1 hx (y := (⟨"java/util/Objects", "requireNonNull", "(Ljava/lang/Object;Ljava/lang/String;)Ljava/lang/Object;"⟩ : MethodName)) hown1 (mvT hZ1 (ow hw 60 rfl)) (mvT hZ1 (ow hw 61 rfl)) (mvT hZ1 (ow hw 62 rfl)) (mvT hZ1 (ow hw 63 rfl)) (by decide) (backOf (W := 0) (rm_rnn l Z a0 hw [] p0 a1 h1 n0 O1 ) hZ1 (ow hw 63 rfl) (ow hw 62 rfl) (by decide) (by decide)) (g := (mkF m 3 #[.val (.ref p0), .val (.ref p1), .unset, .unset, .unset, .unset, .unset, .unset, .unset, .unset] [(.ref a1), (.ref p0)])) rfl (by rw [hml]; rfl) (argsL := [(.ref p0), (.ref a1)]) (rest := []) (lenOf own_pd5 rfl) rfl (by show 2 * 0 + _ ≤ _; exact Nat.le_of_eq rfl) (hb hby od12_3) (fun _ _ => ⟨rfl, e1, (by decide : 2 + 0 ≤ _), (by decide : 20 + 0 ≤ _)⟩)
  dsimp only [Pt.U, Pt.locs, Pt.cells, Pt.slots] at X2 l2 y2 z2 st2 hQ2
  subst y2 z2
  refine Go.st st2 ?_
  obtain ⟨rfl, N2q, e2⟩ := hQ2
  have N2 : Fr n0 L2 := by rw [l2]; exact Fr.app N0 N2q
  show Go _ _ _ _ (T2.setTop (mkF m 6 #[lR p0, lR p1, lU, lU, lU, lU, lU, lU, lU, lU] [(.ref p0)]))
  refine Go.st (fun _ => XS.pop X2.here hx rfl (hb hby od12_6) rfl rfl) ?_
  show Go _ _ _ _ (T2.setTop (mkF m 7 #[lR p0, lR p1, lU, lU, lU, lU, lU, lU, lU, lU] []))
  refine Go.st (fun _ => XS.aloadN X2.here hx rfl (hb hby od12_7) rfl rfl) ?_
  show Go _ _ _ _ (T2.setTop (mkF m 8 #[lR p0, lR p1, lU, lU, lU, lU, lU, lU, lU, lU] [(.ref p1)]))
  have c4 := (hp0.ext E1)
  have c5 := (hp3.ext E1)
  obtain ⟨a3, T3, h3, kk3, X3, e3, E3, hS3, hk3, hZ3, hown3, st3⟩ := ldcS X2 hx hZ1 hown1 (ow hw 64 rfl) (fun a ha => hw a (own_strAtoms a ha)) e2 hS1 hk1 (g := (mkF m 8 #[.val (.ref p0), .val (.ref p1), .unset, .unset, .unset, .unset, .unset, .unset, .unset, .unset] [(.ref p1)])) rfl (hb hby od12_8) (n := 16) (by decide +kernel) (by decide) (by decide) (by decide)
  refine Go.st st3 ?_
  have K3 : Keep h0 h3 [] := K1.ext E3
  have O3 := O1.ext E3
  show Go _ _ _ _ (T3.setTop (mkF m 10 #[lR p0, lR p1, lU, lU, lU, lU, lU, lU, lU, lU] [(.ref a3), (.ref p1)]))
  obtain ⟨_, _, ⟨T6, L6, k6, n6⟩, -, X6, ⟨Lc6, hQ6, l6, y6, z6⟩, st6⟩ := Jvm.LawKit.callS X3 hx (y := (⟨"java/util/Objects", "requireNonNull", "(Ljava/lang/Object;Ljava/lang/String;)Ljava/lang/Object;"⟩ : MethodName)) hown3 (mvT hZ3 (ow hw 60 rfl)) (mvT hZ3 (ow hw 61 rfl)) (mvT hZ3 (ow hw 62 rfl)) (mvT hZ3 (ow hw 63 rfl)) (by decide) (backOf (W := 0) (rm_rnn l Z a0 hw [] p1 a3 h3 n0 O3 ) hZ3 (ow hw 63 rfl) (ow hw 62 rfl) (by decide) (by decide)) (g := (mkF m 10 #[.val (.ref p0), .val (.ref p1), .unset, .unset, .unset, .unset, .unset, .unset, .unset, .unset] [(.ref a3), (.ref p1)])) rfl (by rw [hml]; rfl) (argsL := [(.ref p1), (.ref a3)]) (rest := []) (lenOf own_pd5 rfl) rfl (by show 2 * 0 + _ ≤ _; exact Nat.le_of_eq rfl) (hb hby od12_10) (fun _ _ => ⟨rfl, e3, (by decide : 4 + 0 ≤ _), (by decide : 40 + 0 ≤ _)⟩)
  dsimp only [Pt.U, Pt.locs, Pt.cells, Pt.slots] at X6 l6 y6 z6 st6 hQ6
  subst y6 z6
  refine Go.st st6 ?_
  obtain ⟨rfl, N6q, e6⟩ := hQ6
  have N6 : Fr n0 L6 := by rw [l6]; exact Fr.app N2 N6q
  show Go _ _ _ _ (T6.setTop (mkF m 13 #[lR p0, lR p1, lU, lU, lU, lU, lU, lU, lU, lU] [(.ref p1)]))
  refine Go.st (fun _ => XS.pop X6.here hx rfl (hb hby od12_13) rfl rfl) ?_
  show Go _ _ _ _ (T6.setTop (mkF m 14 #[lR p0, lR p1, lU, lU, lU, lU, lU, lU, lU, lU] []))
  refine Go.st (fun _ => XS.aloadN X6.here hx rfl (hb hby od12_14) rfl rfl) ?_
  show Go _ _ _ _ (T6.setTop (mkF m 15 #[lR p0, lR p1, lU, lU, lU, lU, lU, lU, lU, lU] [(.ref p1)]))
  have c8 := (c4.ext E3)
  have c9 := ((hp2.ext E1).ext E3)
  have c10 := ((hp1.ext E1).ext E3)
  have c11 := (c5.ext E3)
  have hcd7 : StrChars.Road.CodA (ds ++ [u]) 0 (Int32.ofNat (ds ++ [u]).length) (((ds ++ [u]).map StrChars.lo8).map Value.int) := StrChars.Road.codOf (n := (ds ++ [u]).length) rfl (fun c hc => (hpc1 c hc).2)
  obtain ⟨cq7, kq7, q7a, q7b, q7c⟩ := isOf hZ3 e6 c8
  obtain ⟨_, _, ⟨T7, L7, k7, n7⟩, -, X7, ⟨Lc7, hQ7, l7, y7, z7⟩, st7⟩ := X6.virtualBack hx (y := (⟨"java/lang/String", "length", "()I"⟩ : MethodName)) (z := (⟨"java/lang/String", "length", "()I"⟩ : MethodName)) hown3 (mvT hZ3 (ow hw 65 rfl)) (mvT hZ3 (ow hw 66 rfl)) (notFace_of_selects (args := #[]) (mvT hZ3 (ow hw 68 rfl))) (mvT hZ3 (ow hw 68 rfl)) (mvT hZ3 (ow hw 67 rfl)) (by decide) (StrChars.Road.lenW (W := 0) hZ3 (fun d hd => hw d (own_wLen d hd)) (kI := 4) (ow hw 20 rfl) c8 c9 c10 c11 hcd7 (own_up _ hpc1) (S_CS.ext O3.2) nz_CS hle1 (by decide) (by decide)) q7a q7c (g := (mkF m 15 #[.val (.ref p0), .val (.ref p1), .unset, .unset, .unset, .unset, .unset, .unset, .unset, .unset] [(.ref p1)])) rfl (by rw [hml]; rfl) (Steps.refl _) (argsL := []) (rest := []) (lenOf own_pd6 rfl) rfl (by show 2 * 0 + _ ≤ _; exact Nat.le_of_eq rfl) (hb hby od12_15) (fun _ _ => ⟨rfl, e6, (by decide : 4 + 0 ≤ _), (by decide : 40 + 0 ≤ _)⟩)
  dsimp only [Pt.U, Pt.locs, Pt.cells, Pt.slots] at X7 l7 y7 z7 st7 hQ7
  subst y7 z7
  refine Go.tr st7 ?_
  obtain ⟨rfl, rfl, e7⟩ := hQ7
  have N7 : Fr n0 L7 := by rw [l7]; exact Fr.app N6 (Fr.nil n0)
  show Go _ _ _ _ (T7.setTop (mkF m 18 #[lR p0, lR p1, lU, lU, lU, lU, lU, lU, lU, lU] [(.int (Int32.ofNat (ds ++ [u]).length))]))
  refine Go.st (fun _ => XS.iconst X7.here hx rfl (hb hby od12_18)) ?_
  show Go _ _ _ _ (T7.setTop (mkF m 19 #[lR p0, lR p1, lU, lU, lU, lU, lU, lU, lU, lU] [(.int (2 : Int32)), (.int (Int32.ofNat (ds ++ [u]).length))]))
  have hb12 : ¬ ((Int32.ofNat (ds ++ [u]).length) < (2 : Int32)) := own_nltN (n := 2) (by rw [List.length_append]; show 2 ≤ ds.length + 1; omega) (by rw [List.length_append]; show ds.length + 1 ≤ 4000; omega)
  refine Go.st (fun _ => XS.icmpYes X7.here hx rfl (pc0 := 19) (pc' := 28) rfl (hb hby od12_19) rfl (flt hb12).2.1 (by decide) (by decide)) ?_
  show Go _ _ _ _ (T7.setTop (mkF m 28 #[lR p0, lR p1, lU, lU, lU, lU, lU, lU, lU, lU] []))
  refine Go.st (fun _ => XS.aloadN X7.here hx rfl (hb hby od12_28) rfl rfl) ?_
  refine Go.st (fun _ => XS.aloadN X7.here hx rfl (hb hby od12_29) rfl rfl) ?_
  show Go _ _ _ _ (T7.setTop (mkF m 30 #[lR p0, lR p1, lU, lU, lU, lU, lU, lU, lU, lU] [(.ref p1), (.ref p1)]))
  have hcd13 : StrChars.Road.CodA (ds ++ [u]) 0 (Int32.ofNat (ds ++ [u]).length) (((ds ++ [u]).map StrChars.lo8).map Value.int) := StrChars.Road.codOf (n := (ds ++ [u]).length) rfl (fun c hc => (hpc1 c hc).2)
  obtain ⟨cq13, kq13, q13a, q13b, q13c⟩ := isOf hZ3 e7 c8
  obtain ⟨_, _, ⟨T13, L13, k13, n13⟩, -, X13, ⟨Lc13, hQ13, l13, y13, z13⟩, st13⟩ := X7.virtualBack hx (y := (⟨"java/lang/String", "length", "()I"⟩ : MethodName)) (z := (⟨"java/lang/String", "length", "()I"⟩ : MethodName)) hown3 (mvT hZ3 (ow hw 65 rfl)) (mvT hZ3 (ow hw 66 rfl)) (notFace_of_selects (args := #[]) (mvT hZ3 (ow hw 68 rfl))) (mvT hZ3 (ow hw 68 rfl)) (mvT hZ3 (ow hw 67 rfl)) (by decide) (StrChars.Road.lenW (W := 1) hZ3 (fun d hd => hw d (own_wLen d hd)) (kI := 4) (ow hw 20 rfl) c8 c9 c10 c11 hcd13 (own_up _ hpc1) (S_CS.ext O3.2) nz_CS hle1 (by decide) (by decide)) q13a q13c (g := (mkF m 30 #[.val (.ref p0), .val (.ref p1), .unset, .unset, .unset, .unset, .unset, .unset, .unset, .unset] [(.ref p1), (.ref p1)])) rfl (by rw [hml]; rfl) (Steps.refl _) (argsL := []) (rest := [(.ref p1)]) (lenOf own_pd6 rfl) rfl (by show 2 * 0 + _ ≤ _; exact Nat.le_of_eq rfl) (hb hby od12_30) (fun _ _ => ⟨rfl, e7, (by decide : 4 + 0 ≤ _), (by decide : 40 + 0 ≤ _)⟩)
  dsimp only [Pt.U, Pt.locs, Pt.cells, Pt.slots] at X13 l13 y13 z13 st13 hQ13
  subst y13 z13
  refine Go.tr st13 ?_
  obtain ⟨rfl, rfl, e13⟩ := hQ13
  have N13 : Fr n0 L13 := by rw [l13]; exact Fr.app N7 (Fr.nil n0)
  show Go _ _ _ _ (T13.setTop (mkF m 33 #[lR p0, lR p1, lU, lU, lU, lU, lU, lU, lU, lU] [(.int (Int32.ofNat (ds ++ [u]).length)), (.ref p1)]))
  refine Go.st (fun _ => XS.iconst X13.here hx rfl (hb hby od12_33)) ?_
  show Go _ _ _ _ (T13.setTop (mkF m 34 #[lR p0, lR p1, lU, lU, lU, lU, lU, lU, lU, lU] [(.int (1 : Int32)), (.int (Int32.ofNat (ds ++ [u]).length)), (.ref p1)]))
  refine Go.st (fun _ => XS.isub X13.here hx rfl (hb hby od12_34) rfl) ?_
  show Go _ _ _ _ (T13.setTop (mkF m 35 #[lR p0, lR p1, lU, lU, lU, lU, lU, lU, lU, lU] [(.int ((Int32.ofNat (ds ++ [u]).length) - (1 : Int32))), (.ref p1)]))
  rw [show ((Int32.ofNat (ds ++ [u]).length) - (1 : Int32)) = (Int32.ofNat ds.length) from own_lm1 ds u hl10]
  show Go _ _ _ _ (T13.setTop (mkF m 35 #[lR p0, lR p1, lU, lU, lU, lU, lU, lU, lU, lU] [(.int (Int32.ofNat ds.length)), (.ref p1)]))
  have hcd14 : StrChars.Road.CodA (ds ++ [u]) 0 (Int32.ofNat (ds ++ [u]).length) (((ds ++ [u]).map StrChars.lo8).map Value.int) := StrChars.Road.codOf (n := (ds ++ [u]).length) rfl (fun c hc => (hpc1 c hc).2)
  obtain ⟨cq14, kq14, q14a, q14b, q14c⟩ := isOf hZ3 e13 c8
  obtain ⟨_, _, ⟨T14, L14, k14, n14⟩, -, X14, ⟨Lc14, hQ14, l14, y14, z14⟩, st14⟩ := X13.virtualBack hx (y := (⟨"java/lang/String", "charAt", "(I)C"⟩ : MethodName)) (z := (⟨"java/lang/String", "charAt", "(I)C"⟩ : MethodName)) hown3 (mvT hZ3 (ow hw 75 rfl)) (mvT hZ3 (ow hw 76 rfl)) (notFace_of_selects (args := #[]) (mvT hZ3 (ow hw 78 rfl))) (mvT hZ3 (ow hw 78 rfl)) (mvT hZ3 (ow hw 77 rfl)) (by decide) (StrChars.Road.chN (W := 0) hZ3 (fun d hd => hw d (own_wCh d hd)) (kI := 4) (ow hw 20 rfl) c8 c9 c10 c11 hcd14 (own_up _ hpc1) (S_CS.ext O3.2) nz_CS (S_SF.ext O3.2) r_SF hle1 (i := ds.length) (by rw [List.length_append]; show ds.length < ds.length + 1; omega) (j := (Int32.ofNat ds.length)) rfl (by decide) (by decide)) q14a q14c (g := (mkF m 35 #[.val (.ref p0), .val (.ref p1), .unset, .unset, .unset, .unset, .unset, .unset, .unset, .unset] [(.int (Int32.ofNat ds.length)), (.ref p1)])) rfl (by rw [hml]; rfl) (Steps.refl _) (argsL := [(.int (Int32.ofNat ds.length))]) (rest := []) (lenOf own_pd7 rfl) rfl (by show 2 * 0 + _ ≤ _; exact Nat.le_of_eq rfl) (hb hby od12_35) (fun _ _ => ⟨rfl, e13, (by decide : 4 + 0 ≤ _), (by decide : 40 + 0 ≤ _)⟩)
  dsimp only [Pt.U, Pt.locs, Pt.cells, Pt.slots] at X14 l14 y14 z14 st14 hQ14
  subst y14 z14
  refine Go.tr st14 ?_
  obtain ⟨rfl, rfl, e14⟩ := hQ14
  have N14 : Fr n0 L14 := by rw [l14]; exact Fr.app N13 (Fr.nil n0)
  show Go _ _ _ _ (T14.setTop (mkF m 38 #[lR p0, lR p1, lU, lU, lU, lU, lU, lU, lU, lU] [(.int ((ds ++ [u]).getD ds.length 0))]))
  rw [show ((ds ++ [u]).getD ds.length 0) = u from own_last ds u]
  show Go _ _ _ _ (T14.setTop (mkF m 38 #[lR p0, lR p1, lU, lU, lU, lU, lU, lU, lU, lU] [(.int u)]))
  obtain ⟨_, _, ⟨T15, L15, k15, n15⟩, -, X15, ⟨Lc15, hQ15, l15, y15, z15⟩, st15⟩ := Jvm.LawKit.callS X14 hx (y := (⟨"com/example/vacuum/vacuum/settings/Durations", "secondsPerUnit", "(C)J"⟩ : MethodName)) hown3 (mvT hZ3 (ow hw 96 rfl)) (mvT hZ3 (ow hw 97 rfl)) (mvT hZ3 (ow hw 55 rfl)) (mvT hZ3 (ow hw 98 rfl)) (by decide) (backOf (W := 0) (rm_spu l Z a0 hw [] u us h3 n0 O3 hU) hZ3 (ow hw 98 rfl) (ow hw 55 rfl) (by decide) (by decide)) (g := (mkF m 38 #[.val (.ref p0), .val (.ref p1), .unset, .unset, .unset, .unset, .unset, .unset, .unset, .unset] [(.int u)])) rfl (by rw [hml]; rfl) (argsL := [(.int u)]) (rest := []) (lenOf own_pd8 rfl) rfl (by show 2 * 0 + _ ≤ _; exact Nat.le_of_eq rfl) (hb hby od12_38) (fun _ _ => ⟨rfl, e14, (by decide : 4 + 0 ≤ _), (by decide : 40 + 0 ≤ _)⟩)
  dsimp only [Pt.U, Pt.locs, Pt.cells, Pt.slots] at X15 l15 y15 z15 st15 hQ15
  subst y15 z15
  refine Go.st st15 ?_
  obtain ⟨rfl, N15q, e15⟩ := hQ15
  have N15 : Fr n0 L15 := by rw [l15]; exact Fr.app N14 N15q
  show Go _ _ _ _ (T15.setTop (mkF m 41 #[lR p0, lR p1, lU, lU, lU, lU, lU, lU, lU, lU] [(.long (Int64.ofNat us))]))
  refine Go.st (fun _ => XS.lstoreN X15.here hx rfl (hb hby od12_41) rfl (l' := #[.val (.ref p0), .val (.ref p1), .val (.long (Int64.ofNat us)), .second, .unset, .unset, .unset, .unset, .unset, .unset]) rfl) ?_
  show Go _ _ _ _ (T15.setTop (mkF m 42 #[lR p0, lR p1, lJ (Int64.ofNat us), lS, lU, lU, lU, lU, lU, lU] []))
  refine Go.st (fun _ => XS.lloadN X15.here hx rfl (hb hby od12_42) rfl) ?_
  refine Go.st (fun _ => XS.lconst X15.here hx rfl (hb hby od12_43)) ?_
  show Go _ _ _ _ (T15.setTop (mkF m 44 #[lR p0, lR p1, lJ (Int64.ofNat us), lS, lU, lU, lU, lU, lU, lU] [(.long (0 : Int64)), (.long (Int64.ofNat us))]))
  refine Go.st (fun _ => XS.lcmp X15.here hx rfl (hb hby od12_44) rfl) ?_
  show Go _ _ _ _ (T15.setTop (mkF m 45 #[lR p0, lR p1, lJ (Int64.ofNat us), lS, lU, lU, lU, lU, lU, lU] [(.int (lcmpW (Int64.ofNat us) (0 : Int64)))]))
  have hb16 : ¬ ((lcmpW (Int64.ofNat us) (0 : Int64)) = (0 : Int32)) := (own_U_nz hU).1
  refine Go.st (fun _ => XS.ifYes X15.here hx rfl (pc0 := 45) (pc' := 54) rfl (hb hby od12_45) rfl ((if0 _ _).trans (feq hb16).2) (by decide) (by decide)) ?_
  show Go _ _ _ _ (T15.setTop (mkF m 54 #[lR p0, lR p1, lJ (Int64.ofNat us), lS, lU, lU, lU, lU, lU, lU] []))
  obtain ⟨T17, X17, e17, st17⟩ := getS2 X15 hx hZ3 hown3 (host := "") (Or.inl (ow hw 100 rfl)) Via.refl e15 (S_MX.ext O3.2) (g := (mkF m 54 #[.val (.ref p0), .val (.ref p1), .val (.long (Int64.ofNat us)), .second, .unset, .unset, .unset, .unset, .unset, .unset] [])) rfl (hb hby od12_54)
  refine Go.st st17 ?_
  show Go _ _ _ _ (T17.setTop (mkF m 57 #[lR p0, lR p1, lJ (Int64.ofNat us), lS, lU, lU, lU, lU, lU, lU] [(.ref w_MX)]))
  obtain ⟨cq18, kq18, q18a, q18b, q18c⟩ := isOf hZ3 e17 (X_MX.ext O3.2)
  obtain ⟨_, _, ⟨T18, L18, k18, n18⟩, -, X18, ⟨Lc18, hQ18, l18, y18, z18⟩, st18⟩ := X17.virtualBack hx (y := (⟨"java/time/Duration", "getSeconds", "()J"⟩ : MethodName)) (z := (⟨"java/time/Duration", "getSeconds", "()J"⟩ : MethodName)) hown3 (mvT hZ3 (ow hw 102 rfl)) (mvT hZ3 (ow hw 103 rfl)) (notFace_of_selects (args := #[]) (mvT hZ3 (ow hw 105 rfl))) (mvT hZ3 (ow hw 105 rfl)) (mvT hZ3 (ow hw 104 rfl)) (by decide) (backOf (W := 0) (rm_gsec l Z a0 hw [] w_MX (3155760000 : Int64) h3 n0 O3 (I_MX_seconds.ext O3.2)) hZ3 (ow hw 107 rfl) (ow hw 106 rfl) (by decide) (by decide)) q18a q18c (g := (mkF m 57 #[.val (.ref p0), .val (.ref p1), .val (.long (Int64.ofNat us)), .second, .unset, .unset, .unset, .unset, .unset, .unset] [(.ref w_MX)])) rfl (by rw [hml]; rfl) (Steps.refl _) (argsL := []) (rest := []) (lenOf own_pd9 rfl) rfl (by show 2 * 0 + _ ≤ _; exact Nat.le_of_eq rfl) (hb hby od12_57) (fun _ _ => ⟨rfl, e17, (by decide : 4 + 0 ≤ _), (by decide : 40 + 0 ≤ _)⟩)
  dsimp only [Pt.U, Pt.locs, Pt.cells, Pt.slots] at X18 l18 y18 z18 st18 hQ18
  subst y18 z18
  refine Go.tr st18 ?_
  obtain ⟨rfl, N18q, e18⟩ := hQ18
  have N18 : Fr n0 L18 := by rw [l18]; exact Fr.app N15 N18q
  show Go _ _ _ _ (T18.setTop (mkF m 60 #[lR p0, lR p1, lJ (Int64.ofNat us), lS, lU, lU, lU, lU, lU, lU] [(.long (3155760000 : Int64))]))
  refine Go.st (fun _ => XS.lloadN X18.here hx rfl (hb hby od12_60) rfl) ?_
  show Go _ _ _ _ (T18.setTop (mkF m 61 #[lR p0, lR p1, lJ (Int64.ofNat us), lS, lU, lU, lU, lU, lU, lU] [(.long (Int64.ofNat us)), (.long (3155760000 : Int64))]))
  refine Go.st (fun _ => XS.ldiv X18.here hx rfl (hb hby od12_61) rfl (own_U_nz hU).2) ?_
  show Go _ _ _ _ (T18.setTop (mkF m 62 #[lR p0, lR p1, lJ (Int64.ofNat us), lS, lU, lU, lU, lU, lU, lU] [(.long ((3155760000 : Int64) / (Int64.ofNat us)))]))
  refine Go.st (fun _ => XS.lstore X18.here hx rfl (hb hby od12_62) rfl (l' := #[.val (.ref p0), .val (.ref p1), .val (.long (Int64.ofNat us)), .second, .val (.long ((3155760000 : Int64) / (Int64.ofNat us))), .second, .unset, .unset, .unset, .unset]) rfl) ?_
  show Go _ _ _ _ (T18.setTop (mkF m 64 #[lR p0, lR p1, lJ (Int64.ofNat us), lS, lJ ((3155760000 : Int64) / (Int64.ofNat us)), lS, lU, lU, lU, lU] []))
  refine Go.st (fun _ => XS.lconst X18.here hx rfl (hb hby od12_64)) ?_
  show Go _ _ _ _ (T18.setTop (mkF m 65 #[lR p0, lR p1, lJ (Int64.ofNat us), lS, lJ ((3155760000 : Int64) / (Int64.ofNat us)), lS, lU, lU, lU, lU] [(.long (0 : Int64))]))
  refine Go.st (fun _ => XS.lstore X18.here hx rfl (hb hby od12_65) rfl (l' := #[.val (.ref p0), .val (.ref p1), .val (.long (Int64.ofNat us)), .second, .val (.long ((3155760000 : Int64) / (Int64.ofNat us))), .second, .val (.long (0 : Int64)), .second, .unset, .unset]) rfl) ?_
  show Go _ _ _ _ (T18.setTop (mkF m 67 #[lR p0, lR p1, lJ (Int64.ofNat us), lS, lJ ((3155760000 : Int64) / (Int64.ofNat us)), lS, lJ (0 : Int64), lS, lU, lU] []))
  refine Go.st (fun _ => XS.iconst X18.here hx rfl (hb hby od12_67)) ?_
  show Go _ _ _ _ (T18.setTop (mkF m 68 #[lR p0, lR p1, lJ (Int64.ofNat us), lS, lJ ((3155760000 : Int64) / (Int64.ofNat us)), lS, lJ (0 : Int64), lS, lU, lU] [(.int (0 : Int32))]))
  refine Go.st (fun _ => XS.istore X18.here hx rfl (hb hby od12_68) rfl (l' := #[.val (.ref p0), .val (.ref p1), .val (.long (Int64.ofNat us)), .second, .val (.long ((3155760000 : Int64) / (Int64.ofNat us))), .second, .val (.long (0 : Int64)), .second, .val (.int (0 : Int32)), .unset]) rfl) ?_
  show Go _ _ _ _ (T18.setTop (mkF m 70 #[lR p0, lR p1, lJ (Int64.ofNat us), lS, lJ ((3155760000 : Int64) / (Int64.ofNat us)), lS, lJ (0 : Int64), lS, lI (0 : Int32), lU] []))
  refine Go.st (fun _ => XS.iload X18.here hx rfl (hb hby od12_70) rfl) ?_
  show Go _ _ _ _ (T18.setTop (mkF m 72 #[lR p0, lR p1, lJ (Int64.ofNat us), lS, lJ ((3155760000 : Int64) / (Int64.ofNat us)), lS, lJ (0 : Int64), lS, lI (0 : Int32), lU] [(.int (0 : Int32))]))
  refine Go.st (fun _ => XS.aloadN X18.here hx rfl (hb hby od12_72) rfl rfl) ?_
  show Go _ _ _ _ (T18.setTop (mkF m 73 #[lR p0, lR p1, lJ (Int64.ofNat us), lS, lJ ((3155760000 : Int64) / (Int64.ofNat us)), lS, lJ (0 : Int64), lS, lI (0 : Int32), lU] [(.ref p1), (.int (0 : Int32))]))
  have hcd19 : StrChars.Road.CodA (ds ++ [u]) 0 (Int32.ofNat (ds ++ [u]).length) (((ds ++ [u]).map StrChars.lo8).map Value.int) := StrChars.Road.codOf (n := (ds ++ [u]).length) rfl (fun c hc => (hpc1 c hc).2)
  obtain ⟨cq19, kq19, q19a, q19b, q19c⟩ := isOf hZ3 e18 c8
  obtain ⟨_, _, ⟨T19, L19, k19, n19⟩, -, X19, ⟨Lc19, hQ19, l19, y19, z19⟩, st19⟩ := X18.virtualBack hx (y := (⟨"java/lang/String", "length", "()I"⟩ : MethodName)) (z := (⟨"java/lang/String", "length", "()I"⟩ : MethodName)) hown3 (mvT hZ3 (ow hw 65 rfl)) (mvT hZ3 (ow hw 66 rfl)) (notFace_of_selects (args := #[]) (mvT hZ3 (ow hw 68 rfl))) (mvT hZ3 (ow hw 68 rfl)) (mvT hZ3 (ow hw 67 rfl)) (by decide) (StrChars.Road.lenW (W := 1) hZ3 (fun d hd => hw d (own_wLen d hd)) (kI := 4) (ow hw 20 rfl) c8 c9 c10 c11 hcd19 (own_up _ hpc1) (S_CS.ext O3.2) nz_CS hle1 (by decide) (by decide)) q19a q19c (g := (mkF m 73 #[.val (.ref p0), .val (.ref p1), .val (.long (Int64.ofNat us)), .second, .val (.long ((3155760000 : Int64) / (Int64.ofNat us))), .second, .val (.long (0 : Int64)), .second, .val (.int (0 : Int32)), .unset] [(.ref p1), (.int (0 : Int32))])) rfl (by rw [hml]; rfl) (Steps.refl _) (argsL := []) (rest := [(.int (0 : Int32))]) (lenOf own_pd6 rfl) rfl (by show 2 * 0 + _ ≤ _; exact Nat.le_of_eq rfl) (hb hby od12_73) (fun _ _ => ⟨rfl, e18, (by decide : 4 + 0 ≤ _), (by decide : 40 + 0 ≤ _)⟩)
  dsimp only [Pt.U, Pt.locs, Pt.cells, Pt.slots] at X19 l19 y19 z19 st19 hQ19
  subst y19 z19
  refine Go.tr st19 ?_
  obtain ⟨rfl, rfl, e19⟩ := hQ19
  have N19 : Fr n0 L19 := by rw [l19]; exact Fr.app N18 (Fr.nil n0)
  show Go _ _ _ _ (T19.setTop (mkF m 76 #[lR p0, lR p1, lJ (Int64.ofNat us), lS, lJ ((3155760000 : Int64) / (Int64.ofNat us)), lS, lJ (0 : Int64), lS, lI (0 : Int32), lU] [(.int (Int32.ofNat (ds ++ [u]).length)), (.int (0 : Int32))]))
  refine Go.st (fun _ => XS.iconst X19.here hx rfl (hb hby od12_76)) ?_
  show Go _ _ _ _ (T19.setTop (mkF m 77 #[lR p0, lR p1, lJ (Int64.ofNat us), lS, lJ ((3155760000 : Int64) / (Int64.ofNat us)), lS, lJ (0 : Int64), lS, lI (0 : Int32), lU] [(.int (1 : Int32)), (.int (Int32.ofNat (ds ++ [u]).length)), (.int (0 : Int32))]))
  refine Go.st (fun _ => XS.isub X19.here hx rfl (hb hby od12_77) rfl) ?_
  show Go _ _ _ _ (T19.setTop (mkF m 78 #[lR p0, lR p1, lJ (Int64.ofNat us), lS, lJ ((3155760000 : Int64) / (Int64.ofNat us)), lS, lJ (0 : Int64), lS, lI (0 : Int32), lU] [(.int ((Int32.ofNat (ds ++ [u]).length) - (1 : Int32))), (.int (0 : Int32))]))
  rw [show ((Int32.ofNat (ds ++ [u]).length) - (1 : Int32)) = (Int32.ofNat ds.length) from own_lm1 ds u hl10]
  show Go _ _ _ _ (T19.setTop (mkF m 78 #[lR p0, lR p1, lJ (Int64.ofNat us), lS, lJ ((3155760000 : Int64) / (Int64.ofNat us)), lS, lJ (0 : Int64), lS, lI (0 : Int32), lU] [(.int (Int32.ofNat ds.length)), (.int (0 : Int32))]))
  have hb20 : (0 : Int32) < (Int32.ofNat ds.length) := own_ltN (i := 0) (by omega) (by omega)
  refine Go.st (fun _ => XS.icmpNo X19.here hx rfl (hb hby od12_78) rfl (tlt hb20).2.1) ?_
  show Go _ _ _ _ (T19.setTop (mkF m 81 #[lR p0, lR p1, lJ (Int64.ofNat us), lS, lJ ((3155760000 : Int64) / (Int64.ofNat us)), lS, lJ (0 : Int64), lS, lI (0 : Int32), lU] []))
  refine Go.st (fun _ => XS.aloadN X19.here hx rfl (hb hby od12_81) rfl rfl) ?_
  refine Go.st (fun _ => XS.iload X19.here hx rfl (hb hby od12_82) rfl) ?_
  show Go _ _ _ _ (T19.setTop (mkF m 84 #[lR p0, lR p1, lJ (Int64.ofNat us), lS, lJ ((3155760000 : Int64) / (Int64.ofNat us)), lS, lJ (0 : Int64), lS, lI (0 : Int32), lU] [(.int (0 : Int32)), (.ref p1)]))
  have hcd21 : StrChars.Road.CodA (ds ++ [u]) 0 (Int32.ofNat (ds ++ [u]).length) (((ds ++ [u]).map StrChars.lo8).map Value.int) := StrChars.Road.codOf (n := (ds ++ [u]).length) rfl (fun c hc => (hpc1 c hc).2)
  obtain ⟨cq21, kq21, q21a, q21b, q21c⟩ := isOf hZ3 e19 c8
  obtain ⟨_, _, ⟨T21, L21, k21, n21⟩, -, X21, ⟨Lc21, hQ21, l21, y21, z21⟩, st21⟩ := X19.virtualBack hx (y := (⟨"java/lang/String", "charAt", "(I)C"⟩ : MethodName)) (z := (⟨"java/lang/String", "charAt", "(I)C"⟩ : MethodName)) hown3 (mvT hZ3 (ow hw 75 rfl)) (mvT hZ3 (ow hw 76 rfl)) (notFace_of_selects (args := #[]) (mvT hZ3 (ow hw 78 rfl))) (mvT hZ3 (ow hw 78 rfl)) (mvT hZ3 (ow hw 77 rfl)) (by decide) (StrChars.Road.chN (W := 0) hZ3 (fun d hd => hw d (own_wCh d hd)) (kI := 4) (ow hw 20 rfl) c8 c9 c10 c11 hcd21 (own_up _ hpc1) (S_CS.ext O3.2) nz_CS (S_SF.ext O3.2) r_SF hle1 (i := 0) (by rw [List.length_append]; omega) (j := (0 : Int32)) rfl (by decide) (by decide)) q21a q21c (g := (mkF m 84 #[.val (.ref p0), .val (.ref p1), .val (.long (Int64.ofNat us)), .second, .val (.long ((3155760000 : Int64) / (Int64.ofNat us))), .second, .val (.long (0 : Int64)), .second, .val (.int (0 : Int32)), .unset] [(.int (0 : Int32)), (.ref p1)])) rfl (by rw [hml]; rfl) (Steps.refl _) (argsL := [(.int (0 : Int32))]) (rest := []) (lenOf own_pd7 rfl) rfl (by show 2 * 0 + _ ≤ _; exact Nat.le_of_eq rfl) (hb hby od12_84) (fun _ _ => ⟨rfl, e19, (by decide : 4 + 0 ≤ _), (by decide : 40 + 0 ≤ _)⟩)
  dsimp only [Pt.U, Pt.locs, Pt.cells, Pt.slots] at X21 l21 y21 z21 st21 hQ21
  subst y21 z21
  refine Go.tr st21 ?_
  obtain ⟨rfl, rfl, e21⟩ := hQ21
  have N21 : Fr n0 L21 := by rw [l21]; exact Fr.app N19 (Fr.nil n0)
  show Go _ _ _ _ (T21.setTop (mkF m 87 #[lR p0, lR p1, lJ (Int64.ofNat us), lS, lJ ((3155760000 : Int64) / (Int64.ofNat us)), lS, lJ (0 : Int64), lS, lI (0 : Int32), lU] [(.int ((ds ++ [u]).getD 0 0))]))
  refine Go.st (fun _ => XS.istore X21.here hx rfl (hb hby od12_87) rfl (l' := #[.val (.ref p0), .val (.ref p1), .val (.long (Int64.ofNat us)), .second, .val (.long ((3155760000 : Int64) / (Int64.ofNat us))), .second, .val (.long (0 : Int64)), .second, .val (.int (0 : Int32)), .val (.int ((ds ++ [u]).getD 0 0))]) rfl) ?_
  show Go _ _ _ _ (T21.setTop (mkF m 89 #[lR p0, lR p1, lJ (Int64.ofNat us), lS, lJ ((3155760000 : Int64) / (Int64.ofNat us)), lS, lJ (0 : Int64), lS, lI (0 : Int32), lI ((ds ++ [u]).getD 0 0)] []))
  refine Go.st (fun _ => XS.iload X21.here hx rfl (hb hby od12_89) rfl) ?_
  refine Go.st (fun _ => XS.bipush X21.here hx rfl (hb hby od12_91)) ?_
  show Go _ _ _ _ (T21.setTop (mkF m 93 #[lR p0, lR p1, lJ (Int64.ofNat us), lS, lJ ((3155760000 : Int64) / (Int64.ofNat us)), lS, lJ (0 : Int64), lS, lI (0 : Int32), lI ((ds ++ [u]).getD 0 0)] [(.int (48 : Int32)), (.int ((ds ++ [u]).getD 0 0))]))
  have hb22 : ¬ (((ds ++ [u]).getD 0 0) < (48 : Int32)) := own_d48 (own_turn (u := u) (i := 0) hd (by omega)).1.1
  refine Go.st (fun _ => XS.icmpNo X21.here hx rfl (hb hby od12_93) rfl (flt hb22).1) ?_
  show Go _ _ _ _ (T21.setTop (mkF m 96 #[lR p0, lR p1, lJ (Int64.ofNat us), lS, lJ ((3155760000 : Int64) / (Int64.ofNat us)), lS, lJ (0 : Int64), lS, lI (0 : Int32), lI ((ds ++ [u]).getD 0 0)] []))
  refine Go.st (fun _ => XS.iload X21.here hx rfl (hb hby od12_96) rfl) ?_
  refine Go.st (fun _ => XS.bipush X21.here hx rfl (hb hby od12_98)) ?_
  show Go _ _ _ _ (T21.setTop (mkF m 100 #[lR p0, lR p1, lJ (Int64.ofNat us), lS, lJ ((3155760000 : Int64) / (Int64.ofNat us)), lS, lJ (0 : Int64), lS, lI (0 : Int32), lI ((ds ++ [u]).getD 0 0)] [(.int (57 : Int32)), (.int ((ds ++ [u]).getD 0 0))]))
  have hb23 : ¬ ((57 : Int32) < ((ds ++ [u]).getD 0 0)) := own_d57 (own_turn (u := u) (i := 0) hd (by omega)).1.2
  refine Go.st (fun _ => XS.icmpYes X21.here hx rfl (pc0 := 100) (pc' := 109) rfl (hb hby od12_100) rfl (flt hb23).2.2.2 (by decide) (by decide)) ?_
  show Go _ _ _ _ (T21.setTop (mkF m 109 #[lR p0, lR p1, lJ (Int64.ofNat us), lS, lJ ((3155760000 : Int64) / (Int64.ofNat us)), lS, lJ (0 : Int64), lS, lI (0 : Int32), lI ((ds ++ [u]).getD 0 0)] []))
  refine Go.st (fun _ => XS.lload X21.here hx rfl (hb hby od12_109) rfl) ?_
  show Go _ _ _ _ (T21.setTop (mkF m 111 #[lR p0, lR p1, lJ (Int64.ofNat us), lS, lJ ((3155760000 : Int64) / (Int64.ofNat us)), lS, lJ (0 : Int64), lS, lI (0 : Int32), lI ((ds ++ [u]).getD 0 0)] [(.long (0 : Int64))]))
  refine Go.st (fun _ => X21.ldc2Long hx hown3 (mvT hZ3 (ow hw 110 rfl)) (g := (mkF m 111 #[.val (.ref p0), .val (.ref p1), .val (.long (Int64.ofNat us)), .second, .val (.long ((3155760000 : Int64) / (Int64.ofNat us))), .second, .val (.long (0 : Int64)), .second, .val (.int (0 : Int32)), .val (.int ((ds ++ [u]).getD 0 0))] [(.long (0 : Int64))])) rfl (hb hby od12_111) _) ?_
  show Go _ _ _ _ (T21.setTop (mkF m 114 #[lR p0, lR p1, lJ (Int64.ofNat us), lS, lJ ((3155760000 : Int64) / (Int64.ofNat us)), lS, lJ (0 : Int64), lS, lI (0 : Int32), lI ((ds ++ [u]).getD 0 0)] [(.long (10 : Int64)), (.long (0 : Int64))]))
  refine Go.st (fun _ => XS.lmul X21.here hx rfl (hb hby od12_114) rfl) ?_
  show Go _ _ _ _ (T21.setTop (mkF m 115 #[lR p0, lR p1, lJ (Int64.ofNat us), lS, lJ ((3155760000 : Int64) / (Int64.ofNat us)), lS, lJ (0 : Int64), lS, lI (0 : Int32), lI ((ds ++ [u]).getD 0 0)] [(.long (0 : Int64))]))
  refine Go.st (fun _ => XS.iload X21.here hx rfl (hb hby od12_115) rfl) ?_
  refine Go.st (fun _ => XS.bipush X21.here hx rfl (hb hby od12_117)) ?_
  show Go _ _ _ _ (T21.setTop (mkF m 119 #[lR p0, lR p1, lJ (Int64.ofNat us), lS, lJ ((3155760000 : Int64) / (Int64.ofNat us)), lS, lJ (0 : Int64), lS, lI (0 : Int32), lI ((ds ++ [u]).getD 0 0)] [(.int (48 : Int32)), (.int ((ds ++ [u]).getD 0 0)), (.long (0 : Int64))]))
  refine Go.st (fun _ => XS.isub X21.here hx rfl (hb hby od12_119) rfl) ?_
  show Go _ _ _ _ (T21.setTop (mkF m 120 #[lR p0, lR p1, lJ (Int64.ofNat us), lS, lJ ((3155760000 : Int64) / (Int64.ofNat us)), lS, lJ (0 : Int64), lS, lI (0 : Int32), lI ((ds ++ [u]).getD 0 0)] [(.int (((ds ++ [u]).getD 0 0) - (48 : Int32))), (.long (0 : Int64))]))
  refine Go.st (fun _ => XS.i2l X21.here hx rfl (hb hby od12_120) rfl) ?_
  show Go _ _ _ _ (T21.setTop (mkF m 121 #[lR p0, lR p1, lJ (Int64.ofNat us), lS, lJ ((3155760000 : Int64) / (Int64.ofNat us)), lS, lJ (0 : Int64), lS, lI (0 : Int32), lI ((ds ++ [u]).getD 0 0)] [(.long ((((ds ++ [u]).getD 0 0) - (48 : Int32)).toInt64)), (.long (0 : Int64))]))
  refine Go.st (fun _ => XS.ladd X21.here hx rfl (hb hby od12_121) rfl) ?_
  show Go _ _ _ _ (T21.setTop (mkF m 122 #[lR p0, lR p1, lJ (Int64.ofNat us), lS, lJ ((3155760000 : Int64) / (Int64.ofNat us)), lS, lJ (0 : Int64), lS, lI (0 : Int32), lI ((ds ++ [u]).getD 0 0)] [(.long ((0 : Int64) + ((((ds ++ [u]).getD 0 0) - (48 : Int32)).toInt64)))]))
  refine Go.st (fun _ => XS.lstore X21.here hx rfl (hb hby od12_122) rfl (l' := #[.val (.ref p0), .val (.ref p1), .val (.long (Int64.ofNat us)), .second, .val (.long ((3155760000 : Int64) / (Int64.ofNat us))), .second, .val (.long ((0 : Int64) + ((((ds ++ [u]).getD 0 0) - (48 : Int32)).toInt64))), .second, .val (.int (0 : Int32)), .val (.int ((ds ++ [u]).getD 0 0))]) rfl) ?_
  show Go _ _ _ _ (T21.setTop (mkF m 124 #[lR p0, lR p1, lJ (Int64.ofNat us), lS, lJ ((3155760000 : Int64) / (Int64.ofNat us)), lS, lJ ((0 : Int64) + ((((ds ++ [u]).getD 0 0) - (48 : Int32)).toInt64)), lS, lI (0 : Int32), lI ((ds ++ [u]).getD 0 0)] []))
  refine Go.st (fun _ => XS.lload X21.here hx rfl (hb hby od12_124) rfl) ?_
  refine Go.st (fun _ => XS.lload X21.here hx rfl (hb hby od12_126) rfl) ?_
  show Go _ _ _ _ (T21.setTop (mkF m 128 #[lR p0, lR p1, lJ (Int64.ofNat us), lS, lJ ((3155760000 : Int64) / (Int64.ofNat us)), lS, lJ ((0 : Int64) + ((((ds ++ [u]).getD 0 0) - (48 : Int32)).toInt64)), lS, lI (0 : Int32), lI ((ds ++ [u]).getD 0 0)] [(.long ((3155760000 : Int64) / (Int64.ofNat us))), (.long ((0 : Int64) + ((((ds ++ [u]).getD 0 0) - (48 : Int32)).toInt64)))]))
  refine Go.st (fun _ => XS.lcmp X21.here hx rfl (hb hby od12_128) rfl) ?_
  show Go _ _ _ _ (T21.setTop (mkF m 129 #[lR p0, lR p1, lJ (Int64.ofNat us), lS, lJ ((3155760000 : Int64) / (Int64.ofNat us)), lS, lJ ((0 : Int64) + ((((ds ++ [u]).getD 0 0) - (48 : Int32)).toInt64)), lS, lI (0 : Int32), lI ((ds ++ [u]).getD 0 0)] [(.int (lcmpW ((0 : Int64) + ((((ds ++ [u]).getD 0 0) - (48 : Int32)).toInt64)) ((3155760000 : Int64) / (Int64.ofNat us))))]))
  have hb24 : ¬ ((0 : Int32) < (lcmpW ((0 : Int64) + ((((ds ++ [u]).getD 0 0) - (48 : Int32)).toInt64)) ((3155760000 : Int64) / (Int64.ofNat us)))) := by rw [own_turn0 (u := u) hd (by omega)]; exact own_U_div hU (Nat.le_trans (Nat.mul_le_mul_right _ (own_take_mono ds _)) hsec)
  refine Go.st (fun _ => XS.ifYes X21.here hx rfl (pc0 := 129) (pc' := 153) rfl (hb hby od12_129) rfl ((if0 _ _).trans (flt hb24).2.2.2) (by decide) (by decide)) ?_
  show Go _ _ _ _ (T21.setTop (mkF m 153 #[lR p0, lR p1, lJ (Int64.ofNat us), lS, lJ ((3155760000 : Int64) / (Int64.ofNat us)), lS, lJ ((0 : Int64) + ((((ds ++ [u]).getD 0 0) - (48 : Int32)).toInt64)), lS, lI (0 : Int32), lI ((ds ++ [u]).getD 0 0)] []))
  refine Go.st (fun _ => XS.iinc X21.here hx rfl (hb hby od12_153) rfl (l' := #[.val (.ref p0), .val (.ref p1), .val (.long (Int64.ofNat us)), .second, .val (.long ((3155760000 : Int64) / (Int64.ofNat us))), .second, .val (.long ((0 : Int64) + ((((ds ++ [u]).getD 0 0) - (48 : Int32)).toInt64))), .second, .val (.int (1 : Int32)), .val (.int ((ds ++ [u]).getD 0 0))]) rfl) ?_
  show Go _ _ _ _ (T21.setTop (mkF m 156 #[lR p0, lR p1, lJ (Int64.ofNat us), lS, lJ ((3155760000 : Int64) / (Int64.ofNat us)), lS, lJ ((0 : Int64) + ((((ds ++ [u]).getD 0 0) - (48 : Int32)).toInt64)), lS, lI (1 : Int32), lI ((ds ++ [u]).getD 0 0)] []))
  refine Go.st (fun _ => XS.goto X21.here hx rfl (pc0 := 156) (pc' := 70) rfl (hb hby od12_156) (by decide) (by decide)) ?_
  show Go _ _ _ _ (T21.setTop (mkF m 70 #[lR p0, lR p1, lJ (Int64.ofNat us), lS, lJ ((3155760000 : Int64) / (Int64.ofNat us)), lS, lJ ((0 : Int64) + ((((ds ++ [u]).getD 0 0) - (48 : Int32)).toInt64)), lS, lI (1 : Int32), lI ((ds ++ [u]).getD 0 0)] []))
  have J25 : ∀ (r i : Nat) (hir : i + r = ds.length) (Tj25 : State) (Lj25 : List Loc) (Xj25 : Stand p l e ({ frames := 4, cells := 5, slots := 42, locals := 55 } : Room) (s.setVm T3.vm) m #[(.ref p0), (.ref p1)] below meth c Tj25 Lj25 4 40) (ej25 : Tj25.heap = h3) (Nj25 : Fr n0 Lj25) (jc : Int64) (ji : Int32) (jx : Int32) (hjc : jc = Int64.ofNat (own_val (ds.take i))) (hji : ji = Int32.ofNat i), Go p.tables e below P (Tj25.setTop (mkF m 70 #[.val (.ref p0), .val (.ref p1), .val (.long (Int64.ofNat us)), .second, .val (.long ((3155760000 : Int64) / (Int64.ofNat us))), .second, .val (.long jc), .second, .val (.int ji), .val (.int jx)] [])) := by
    intro r
    induction r with
    | zero =>
      intro i hir Tj25 Lj25 Xj25 ej25 Nj25 jc ji jx hjc hji
      show Go _ _ _ _ (Tj25.setTop (mkF m 70 #[lR p0, lR p1, lJ (Int64.ofNat us), lS, lJ ((3155760000 : Int64) / (Int64.ofNat us)), lS, lJ jc, lS, lI ji, lI jx] []))
      refine Go.st (fun _ => XS.iload Xj25.here hx rfl (hb hby od12_70) rfl) ?_
      show Go _ _ _ _ (Tj25.setTop (mkF m 72 #[lR p0, lR p1, lJ (Int64.ofNat us), lS, lJ ((3155760000 : Int64) / (Int64.ofNat us)), lS, lJ jc, lS, lI ji, lI jx] [(.int ji)]))
      rw [hjc, hji]
      have hil : i = ds.length := by omega
      show Go _ _ _ _ (Tj25.setTop (mkF m 72 #[lR p0, lR p1, lJ (Int64.ofNat us), lS, lJ ((3155760000 : Int64) / (Int64.ofNat us)), lS, lJ (Int64.ofNat (own_val (ds.take i))), lS, lI (Int32.ofNat i), lI jx] [(.int (Int32.ofNat i))]))
      refine Go.st (fun _ => XS.aloadN Xj25.here hx rfl (hb hby od12_72) rfl rfl) ?_
      show Go _ _ _ _ (Tj25.setTop (mkF m 73 #[lR p0, lR p1, lJ (Int64.ofNat us), lS, lJ ((3155760000 : Int64) / (Int64.ofNat us)), lS, lJ (Int64.ofNat (own_val (ds.take i))), lS, lI (Int32.ofNat i), lI jx] [(.ref p1), (.int (Int32.ofNat i))]))
      have hcd26 : StrChars.Road.CodA (ds ++ [u]) 0 (Int32.ofNat (ds ++ [u]).length) (((ds ++ [u]).map StrChars.lo8).map Value.int) := StrChars.Road.codOf (n := (ds ++ [u]).length) rfl (fun c hc => (hpc1 c hc).2)
      obtain ⟨cq26, kq26, q26a, q26b, q26c⟩ := isOf hZ3 ej25 c8
      obtain ⟨_, _, ⟨T26, L26, k26, n26⟩, -, X26, ⟨Lc26, hQ26, l26, y26, z26⟩, st26⟩ := Xj25.virtualBack hx (y := (⟨"java/lang/String", "length", "()I"⟩ : MethodName)) (z := (⟨"java/lang/String", "length", "()I"⟩ : MethodName)) hown3 (mvT hZ3 (ow hw 65 rfl)) (mvT hZ3 (ow hw 66 rfl)) (notFace_of_selects (args := #[]) (mvT hZ3 (ow hw 68 rfl))) (mvT hZ3 (ow hw 68 rfl)) (mvT hZ3 (ow hw 67 rfl)) (by decide) (StrChars.Road.lenW (W := 1) hZ3 (fun d hd => hw d (own_wLen d hd)) (kI := 4) (ow hw 20 rfl) c8 c9 c10 c11 hcd26 (own_up _ hpc1) (S_CS.ext O3.2) nz_CS hle1 (by decide) (by decide)) q26a q26c (g := (mkF m 73 #[.val (.ref p0), .val (.ref p1), .val (.long (Int64.ofNat us)), .second, .val (.long ((3155760000 : Int64) / (Int64.ofNat us))), .second, .val (.long (Int64.ofNat (own_val (ds.take i)))), .second, .val (.int (Int32.ofNat i)), .val (.int jx)] [(.ref p1), (.int (Int32.ofNat i))])) rfl (by rw [hml]; rfl) (Steps.refl _) (argsL := []) (rest := [(.int (Int32.ofNat i))]) (lenOf own_pd6 rfl) rfl (by show 2 * 0 + _ ≤ _; exact Nat.le_of_eq rfl) (hb hby od12_73) (fun _ _ => ⟨rfl, ej25, (by decide : 4 + 0 ≤ _), (by decide : 40 + 0 ≤ _)⟩)
      dsimp only [Pt.U, Pt.locs, Pt.cells, Pt.slots] at X26 l26 y26 z26 st26 hQ26
      subst y26 z26
      refine Go.tr st26 ?_
      obtain ⟨rfl, rfl, e26⟩ := hQ26
      have N26 : Fr n0 L26 := by rw [l26]; exact Fr.app Nj25 (Fr.nil n0)
      show Go _ _ _ _ (T26.setTop (mkF m 76 #[lR p0, lR p1, lJ (Int64.ofNat us), lS, lJ ((3155760000 : Int64) / (Int64.ofNat us)), lS, lJ (Int64.ofNat (own_val (ds.take i))), lS, lI (Int32.ofNat i), lI jx] [(.int (Int32.ofNat (ds ++ [u]).length)), (.int (Int32.ofNat i))]))
      refine Go.st (fun _ => XS.iconst X26.here hx rfl (hb hby od12_76)) ?_
      show Go _ _ _ _ (T26.setTop (mkF m 77 #[lR p0, lR p1, lJ (Int64.ofNat us), lS, lJ ((3155760000 : Int64) / (Int64.ofNat us)), lS, lJ (Int64.ofNat (own_val (ds.take i))), lS, lI (Int32.ofNat i), lI jx] [(.int (1 : Int32)), (.int (Int32.ofNat (ds ++ [u]).length)), (.int (Int32.ofNat i))]))
      refine Go.st (fun _ => XS.isub X26.here hx rfl (hb hby od12_77) rfl) ?_
      show Go _ _ _ _ (T26.setTop (mkF m 78 #[lR p0, lR p1, lJ (Int64.ofNat us), lS, lJ ((3155760000 : Int64) / (Int64.ofNat us)), lS, lJ (Int64.ofNat (own_val (ds.take i))), lS, lI (Int32.ofNat i), lI jx] [(.int ((Int32.ofNat (ds ++ [u]).length) - (1 : Int32))), (.int (Int32.ofNat i))]))
      rw [show ((Int32.ofNat (ds ++ [u]).length) - (1 : Int32)) = (Int32.ofNat ds.length) from own_lm1 ds u hl10]
      show Go _ _ _ _ (T26.setTop (mkF m 78 #[lR p0, lR p1, lJ (Int64.ofNat us), lS, lJ ((3155760000 : Int64) / (Int64.ofNat us)), lS, lJ (Int64.ofNat (own_val (ds.take i))), lS, lI (Int32.ofNat i), lI jx] [(.int (Int32.ofNat ds.length)), (.int (Int32.ofNat i))]))
      have hb27 : ¬ ((Int32.ofNat i) < (Int32.ofNat ds.length)) := own_nltN (by omega) (by omega)
      refine Go.st (fun _ => XS.icmpYes X26.here hx rfl (pc0 := 78) (pc' := 159) rfl (hb hby od12_78) rfl (flt hb27).2.1 (by decide) (by decide)) ?_
      show Go _ _ _ _ (T26.setTop (mkF m 159 #[lR p0, lR p1, lJ (Int64.ofNat us), lS, lJ ((3155760000 : Int64) / (Int64.ofNat us)), lS, lJ (Int64.ofNat (own_val (ds.take i))), lS, lI (Int32.ofNat i), lI jx] []))
      refine Go.st (fun _ => XS.lload X26.here hx rfl (hb hby od12_159) rfl) ?_
      refine Go.st (fun _ => XS.lloadN X26.here hx rfl (hb hby od12_161) rfl) ?_
      show Go _ _ _ _ (T26.setTop (mkF m 162 #[lR p0, lR p1, lJ (Int64.ofNat us), lS, lJ ((3155760000 : Int64) / (Int64.ofNat us)), lS, lJ (Int64.ofNat (own_val (ds.take i))), lS, lI (Int32.ofNat i), lI jx] [(.long (Int64.ofNat us)), (.long (Int64.ofNat (own_val (ds.take i))))]))
      rw [hil, List.take_length]
      show Go _ _ _ _ (T26.setTop (mkF m 162 #[lR p0, lR p1, lJ (Int64.ofNat us), lS, lJ ((3155760000 : Int64) / (Int64.ofNat us)), lS, lJ (Int64.ofNat (own_val ds)), lS, lI (Int32.ofNat ds.length), lI jx] [(.long (Int64.ofNat us)), (.long (Int64.ofNat (own_val ds)))]))
      refine Go.st (fun _ => XS.lmul X26.here hx rfl (hb hby od12_162) rfl) ?_
      show Go _ _ _ _ (T26.setTop (mkF m 163 #[lR p0, lR p1, lJ (Int64.ofNat us), lS, lJ ((3155760000 : Int64) / (Int64.ofNat us)), lS, lJ (Int64.ofNat (own_val ds)), lS, lI (Int32.ofNat ds.length), lI jx] [(.long ((Int64.ofNat (own_val ds)) * (Int64.ofNat us)))]))
      rw [show ((Int64.ofNat (own_val ds)) * (Int64.ofNat us)) = (Int64.ofNat (own_val ds * us)) from own_mul64 _ _]
      show Go _ _ _ _ (T26.setTop (mkF m 163 #[lR p0, lR p1, lJ (Int64.ofNat us), lS, lJ ((3155760000 : Int64) / (Int64.ofNat us)), lS, lJ (Int64.ofNat (own_val ds)), lS, lI (Int32.ofNat ds.length), lI jx] [(.long (Int64.ofNat (own_val ds * us)))]))
      obtain ⟨_, _, ⟨T28, L28, k28, n28⟩, -, X28, ⟨Lc28, hQ28, l28, y28, z28⟩, st28⟩ := Jvm.LawKit.callS X26 hx (y := (⟨"java/time/Duration", "ofSeconds", "(J)Ljava/time/Duration;"⟩ : MethodName)) hown3 (mvT hZ3 (ow hw 111 rfl)) (mvT hZ3 (ow hw 112 rfl)) (mvT hZ3 (ow hw 106 rfl)) (mvT hZ3 (ow hw 113 rfl)) (by decide) (backOf (W := 0) (rm_dofs l Z a0 hw [] w_MX S_MX X_MX I_MX_seconds w_ZR S_ZR X_ZR I_ZR_seconds I_ZR_nanos g_CS S_CS nz_CS g_SF S_SF r_SF (Int64.ofNat (own_val ds * us)) h3 n0 O3 ) hZ3 (ow hw 113 rfl) (ow hw 106 rfl) (by decide) (by decide)) (g := (mkF m 163 #[.val (.ref p0), .val (.ref p1), .val (.long (Int64.ofNat us)), .second, .val (.long ((3155760000 : Int64) / (Int64.ofNat us))), .second, .val (.long (Int64.ofNat (own_val ds))), .second, .val (.int (Int32.ofNat ds.length)), .val (.int jx)] [(.long (Int64.ofNat (own_val ds * us)))])) rfl (by rw [hml]; rfl) (argsL := [(.long (Int64.ofNat (own_val ds * us)))]) (rest := []) (lenOf own_pd10 rfl) rfl (by show 2 * 0 + _ ≤ _; exact Nat.le_of_eq rfl) (hb hby od12_163) (fun _ _ => ⟨rfl, e26, (by decide : 4 + 1 ≤ _), (by decide : 40 + 2 ≤ _)⟩)
      dsimp only [Pt.U, Pt.locs, Pt.cells, Pt.slots] at X28 l28 y28 z28 st28 hQ28
      subst y28 z28
      refine Go.st st28 ?_
      obtain ⟨ob_29, rfl, N28q, K28q, q28_0, q28_1, q28_2⟩ := hQ28
      have N28 : Fr n0 L28 := by rw [l28]; exact Fr.app N26 N28q
      have O28 := O3.keep K28q all0
      have K28 : Keep h0 T28.heap [] := K3.trans K28q all0
      show Go _ _ _ _ (T28.setTop (mkF m 166 #[lR p0, lR p1, lJ (Int64.ofNat us), lS, lJ ((3155760000 : Int64) / (Int64.ofNat us)), lS, lJ (Int64.ofNat (own_val ds)), lS, lI (Int32.ofNat ds.length), lI jx] [(.ref ob_29)]))
      obtain ⟨fs, hr, hrun, hended, -, hW, hpair, hsame⟩ := X28.leaveW hS3 (Nat.le_trans hk3 K28q.1) (v := some (.ref ob_29)) (fun h => by rw [Bd.returns] at h; cases h)
      refine ⟨_, ?_, hPend _ _ hrun hended ⟨_, _, rfl, ?_, ⟨_, rfl⟩, hW, hpair, hsame.mono (by decide) (by decide)⟩⟩
      · exact retOut X28 hx (t := (.object "java/time/Duration")) Bd.returns rfl (Or.inr (Or.inr (Or.inr (Or.inr ⟨rfl, rfl, rfl⟩)))) (hb hby od12_166) hr
      · show Q_rm_parse Z _ _ _ _ _ _ _ _ _ _ _ h0 n0 _ T28.heap _
        exact ⟨ob_29, rfl, N28, K28, q28_0, q28_1, q28_2⟩
    | succ r ih =>
      intro i hir Tj25 Lj25 Xj25 ej25 Nj25 jc ji jx hjc hji
      show Go _ _ _ _ (Tj25.setTop (mkF m 70 #[lR p0, lR p1, lJ (Int64.ofNat us), lS, lJ ((3155760000 : Int64) / (Int64.ofNat us)), lS, lJ jc, lS, lI ji, lI jx] []))
      refine Go.st (fun _ => XS.iload Xj25.here hx rfl (hb hby od12_70) rfl) ?_
      show Go _ _ _ _ (Tj25.setTop (mkF m 72 #[lR p0, lR p1, lJ (Int64.ofNat us), lS, lJ ((3155760000 : Int64) / (Int64.ofNat us)), lS, lJ jc, lS, lI ji, lI jx] [(.int ji)]))
      rw [hjc, hji]
      have hil : i < ds.length := by omega
      show Go _ _ _ _ (Tj25.setTop (mkF m 72 #[lR p0, lR p1, lJ (Int64.ofNat us), lS, lJ ((3155760000 : Int64) / (Int64.ofNat us)), lS, lJ (Int64.ofNat (own_val (ds.take i))), lS, lI (Int32.ofNat i), lI jx] [(.int (Int32.ofNat i))]))
      refine Go.st (fun _ => XS.aloadN Xj25.here hx rfl (hb hby od12_72) rfl rfl) ?_
      show Go _ _ _ _ (Tj25.setTop (mkF m 73 #[lR p0, lR p1, lJ (Int64.ofNat us), lS, lJ ((3155760000 : Int64) / (Int64.ofNat us)), lS, lJ (Int64.ofNat (own_val (ds.take i))), lS, lI (Int32.ofNat i), lI jx] [(.ref p1), (.int (Int32.ofNat i))]))
      have hcd30 : StrChars.Road.CodA (ds ++ [u]) 0 (Int32.ofNat (ds ++ [u]).length) (((ds ++ [u]).map StrChars.lo8).map Value.int) := StrChars.Road.codOf (n := (ds ++ [u]).length) rfl (fun c hc => (hpc1 c hc).2)
      obtain ⟨cq30, kq30, q30a, q30b, q30c⟩ := isOf hZ3 ej25 c8
      obtain ⟨_, _, ⟨T30, L30, k30, n30⟩, -, X30, ⟨Lc30, hQ30, l30, y30, z30⟩, st30⟩ := Xj25.virtualBack hx (y := (⟨"java/lang/String", "length", "()I"⟩ : MethodName)) (z := (⟨"java/lang/String", "length", "()I"⟩ : MethodName)) hown3 (mvT hZ3 (ow hw 65 rfl)) (mvT hZ3 (ow hw 66 rfl)) (notFace_of_selects (args := #[]) (mvT hZ3 (ow hw 68 rfl))) (mvT hZ3 (ow hw 68 rfl)) (mvT hZ3 (ow hw 67 rfl)) (by decide) (StrChars.Road.lenW (W := 1) hZ3 (fun d hd => hw d (own_wLen d hd)) (kI := 4) (ow hw 20 rfl) c8 c9 c10 c11 hcd30 (own_up _ hpc1) (S_CS.ext O3.2) nz_CS hle1 (by decide) (by decide)) q30a q30c (g := (mkF m 73 #[.val (.ref p0), .val (.ref p1), .val (.long (Int64.ofNat us)), .second, .val (.long ((3155760000 : Int64) / (Int64.ofNat us))), .second, .val (.long (Int64.ofNat (own_val (ds.take i)))), .second, .val (.int (Int32.ofNat i)), .val (.int jx)] [(.ref p1), (.int (Int32.ofNat i))])) rfl (by rw [hml]; rfl) (Steps.refl _) (argsL := []) (rest := [(.int (Int32.ofNat i))]) (lenOf own_pd6 rfl) rfl (by show 2 * 0 + _ ≤ _; exact Nat.le_of_eq rfl) (hb hby od12_73) (fun _ _ => ⟨rfl, ej25, (by decide : 4 + 0 ≤ _), (by decide : 40 + 0 ≤ _)⟩)
      dsimp only [Pt.U, Pt.locs, Pt.cells, Pt.slots] at X30 l30 y30 z30 st30 hQ30
      subst y30 z30
      refine Go.tr st30 ?_
      obtain ⟨rfl, rfl, e30⟩ := hQ30
      have N30 : Fr n0 L30 := by rw [l30]; exact Fr.app Nj25 (Fr.nil n0)
      show Go _ _ _ _ (T30.setTop (mkF m 76 #[lR p0, lR p1, lJ (Int64.ofNat us), lS, lJ ((3155760000 : Int64) / (Int64.ofNat us)), lS, lJ (Int64.ofNat (own_val (ds.take i))), lS, lI (Int32.ofNat i), lI jx] [(.int (Int32.ofNat (ds ++ [u]).length)), (.int (Int32.ofNat i))]))
      refine Go.st (fun _ => XS.iconst X30.here hx rfl (hb hby od12_76)) ?_
      show Go _ _ _ _ (T30.setTop (mkF m 77 #[lR p0, lR p1, lJ (Int64.ofNat us), lS, lJ ((3155760000 : Int64) / (Int64.ofNat us)), lS, lJ (Int64.ofNat (own_val (ds.take i))), lS, lI (Int32.ofNat i), lI jx] [(.int (1 : Int32)), (.int (Int32.ofNat (ds ++ [u]).length)), (.int (Int32.ofNat i))]))
      refine Go.st (fun _ => XS.isub X30.here hx rfl (hb hby od12_77) rfl) ?_
      show Go _ _ _ _ (T30.setTop (mkF m 78 #[lR p0, lR p1, lJ (Int64.ofNat us), lS, lJ ((3155760000 : Int64) / (Int64.ofNat us)), lS, lJ (Int64.ofNat (own_val (ds.take i))), lS, lI (Int32.ofNat i), lI jx] [(.int ((Int32.ofNat (ds ++ [u]).length) - (1 : Int32))), (.int (Int32.ofNat i))]))
      rw [show ((Int32.ofNat (ds ++ [u]).length) - (1 : Int32)) = (Int32.ofNat ds.length) from own_lm1 ds u hl10]
      show Go _ _ _ _ (T30.setTop (mkF m 78 #[lR p0, lR p1, lJ (Int64.ofNat us), lS, lJ ((3155760000 : Int64) / (Int64.ofNat us)), lS, lJ (Int64.ofNat (own_val (ds.take i))), lS, lI (Int32.ofNat i), lI jx] [(.int (Int32.ofNat ds.length)), (.int (Int32.ofNat i))]))
      have hb31 : (Int32.ofNat i) < (Int32.ofNat ds.length) := own_ltN (by omega) (by omega)
      refine Go.st (fun _ => XS.icmpNo X30.here hx rfl (hb hby od12_78) rfl (tlt hb31).2.1) ?_
      show Go _ _ _ _ (T30.setTop (mkF m 81 #[lR p0, lR p1, lJ (Int64.ofNat us), lS, lJ ((3155760000 : Int64) / (Int64.ofNat us)), lS, lJ (Int64.ofNat (own_val (ds.take i))), lS, lI (Int32.ofNat i), lI jx] []))
      refine Go.st (fun _ => XS.aloadN X30.here hx rfl (hb hby od12_81) rfl rfl) ?_
      refine Go.st (fun _ => XS.iload X30.here hx rfl (hb hby od12_82) rfl) ?_
      show Go _ _ _ _ (T30.setTop (mkF m 84 #[lR p0, lR p1, lJ (Int64.ofNat us), lS, lJ ((3155760000 : Int64) / (Int64.ofNat us)), lS, lJ (Int64.ofNat (own_val (ds.take i))), lS, lI (Int32.ofNat i), lI jx] [(.int (Int32.ofNat i)), (.ref p1)]))
      have hcd32 : StrChars.Road.CodA (ds ++ [u]) 0 (Int32.ofNat (ds ++ [u]).length) (((ds ++ [u]).map StrChars.lo8).map Value.int) := StrChars.Road.codOf (n := (ds ++ [u]).length) rfl (fun c hc => (hpc1 c hc).2)
      obtain ⟨cq32, kq32, q32a, q32b, q32c⟩ := isOf hZ3 e30 c8
      obtain ⟨_, _, ⟨T32, L32, k32, n32⟩, -, X32, ⟨Lc32, hQ32, l32, y32, z32⟩, st32⟩ := X30.virtualBack hx (y := (⟨"java/lang/String", "charAt", "(I)C"⟩ : MethodName)) (z := (⟨"java/lang/String", "charAt", "(I)C"⟩ : MethodName)) hown3 (mvT hZ3 (ow hw 75 rfl)) (mvT hZ3 (ow hw 76 rfl)) (notFace_of_selects (args := #[]) (mvT hZ3 (ow hw 78 rfl))) (mvT hZ3 (ow hw 78 rfl)) (mvT hZ3 (ow hw 77 rfl)) (by decide) (StrChars.Road.chN (W := 0) hZ3 (fun d hd => hw d (own_wCh d hd)) (kI := 4) (ow hw 20 rfl) c8 c9 c10 c11 hcd32 (own_up _ hpc1) (S_CS.ext O3.2) nz_CS (S_SF.ext O3.2) r_SF hle1 (i := i) (by rw [List.length_append]; omega) (j := (Int32.ofNat i)) rfl (by decide) (by decide)) q32a q32c (g := (mkF m 84 #[.val (.ref p0), .val (.ref p1), .val (.long (Int64.ofNat us)), .second, .val (.long ((3155760000 : Int64) / (Int64.ofNat us))), .second, .val (.long (Int64.ofNat (own_val (ds.take i)))), .second, .val (.int (Int32.ofNat i)), .val (.int jx)] [(.int (Int32.ofNat i)), (.ref p1)])) rfl (by rw [hml]; rfl) (Steps.refl _) (argsL := [(.int (Int32.ofNat i))]) (rest := []) (lenOf own_pd7 rfl) rfl (by show 2 * 0 + _ ≤ _; exact Nat.le_of_eq rfl) (hb hby od12_84) (fun _ _ => ⟨rfl, e30, (by decide : 4 + 0 ≤ _), (by decide : 40 + 0 ≤ _)⟩)
      dsimp only [Pt.U, Pt.locs, Pt.cells, Pt.slots] at X32 l32 y32 z32 st32 hQ32
      subst y32 z32
      refine Go.tr st32 ?_
      obtain ⟨rfl, rfl, e32⟩ := hQ32
      have N32 : Fr n0 L32 := by rw [l32]; exact Fr.app N30 (Fr.nil n0)
      show Go _ _ _ _ (T32.setTop (mkF m 87 #[lR p0, lR p1, lJ (Int64.ofNat us), lS, lJ ((3155760000 : Int64) / (Int64.ofNat us)), lS, lJ (Int64.ofNat (own_val (ds.take i))), lS, lI (Int32.ofNat i), lI jx] [(.int ((ds ++ [u]).getD i 0))]))
      refine Go.st (fun _ => XS.istore X32.here hx rfl (hb hby od12_87) rfl (l' := #[.val (.ref p0), .val (.ref p1), .val (.long (Int64.ofNat us)), .second, .val (.long ((3155760000 : Int64) / (Int64.ofNat us))), .second, .val (.long (Int64.ofNat (own_val (ds.take i)))), .second, .val (.int (Int32.ofNat i)), .val (.int ((ds ++ [u]).getD i 0))]) rfl) ?_
      show Go _ _ _ _ (T32.setTop (mkF m 89 #[lR p0, lR p1, lJ (Int64.ofNat us), lS, lJ ((3155760000 : Int64) / (Int64.ofNat us)), lS, lJ (Int64.ofNat (own_val (ds.take i))), lS, lI (Int32.ofNat i), lI ((ds ++ [u]).getD i 0)] []))
      refine Go.st (fun _ => XS.iload X32.here hx rfl (hb hby od12_89) rfl) ?_
      refine Go.st (fun _ => XS.bipush X32.here hx rfl (hb hby od12_91)) ?_
      show Go _ _ _ _ (T32.setTop (mkF m 93 #[lR p0, lR p1, lJ (Int64.ofNat us), lS, lJ ((3155760000 : Int64) / (Int64.ofNat us)), lS, lJ (Int64.ofNat (own_val (ds.take i))), lS, lI (Int32.ofNat i), lI ((ds ++ [u]).getD i 0)] [(.int (48 : Int32)), (.int ((ds ++ [u]).getD i 0))]))
      have hb33 : ¬ (((ds ++ [u]).getD i 0) < (48 : Int32)) := own_d48 (own_turn (u := u) hd hil).1.1
      refine Go.st (fun _ => XS.icmpNo X32.here hx rfl (hb hby od12_93) rfl (flt hb33).1) ?_
      show Go _ _ _ _ (T32.setTop (mkF m 96 #[lR p0, lR p1, lJ (Int64.ofNat us), lS, lJ ((3155760000 : Int64) / (Int64.ofNat us)), lS, lJ (Int64.ofNat (own_val (ds.take i))), lS, lI (Int32.ofNat i), lI ((ds ++ [u]).getD i 0)] []))
      refine Go.st (fun _ => XS.iload X32.here hx rfl (hb hby od12_96) rfl) ?_
      refine Go.st (fun _ => XS.bipush X32.here hx rfl (hb hby od12_98)) ?_
      show Go _ _ _ _ (T32.setTop (mkF m 100 #[lR p0, lR p1, lJ (Int64.ofNat us), lS, lJ ((3155760000 : Int64) / (Int64.ofNat us)), lS, lJ (Int64.ofNat (own_val (ds.take i))), lS, lI (Int32.ofNat i), lI ((ds ++ [u]).getD i 0)] [(.int (57 : Int32)), (.int ((ds ++ [u]).getD i 0))]))
      have hb34 : ¬ ((57 : Int32) < ((ds ++ [u]).getD i 0)) := own_d57 (own_turn (u := u) hd hil).1.2
      refine Go.st (fun _ => XS.icmpYes X32.here hx rfl (pc0 := 100) (pc' := 109) rfl (hb hby od12_100) rfl (flt hb34).2.2.2 (by decide) (by decide)) ?_
      show Go _ _ _ _ (T32.setTop (mkF m 109 #[lR p0, lR p1, lJ (Int64.ofNat us), lS, lJ ((3155760000 : Int64) / (Int64.ofNat us)), lS, lJ (Int64.ofNat (own_val (ds.take i))), lS, lI (Int32.ofNat i), lI ((ds ++ [u]).getD i 0)] []))
      refine Go.st (fun _ => XS.lload X32.here hx rfl (hb hby od12_109) rfl) ?_
      show Go _ _ _ _ (T32.setTop (mkF m 111 #[lR p0, lR p1, lJ (Int64.ofNat us), lS, lJ ((3155760000 : Int64) / (Int64.ofNat us)), lS, lJ (Int64.ofNat (own_val (ds.take i))), lS, lI (Int32.ofNat i), lI ((ds ++ [u]).getD i 0)] [(.long (Int64.ofNat (own_val (ds.take i))))]))
      refine Go.st (fun _ => X32.ldc2Long hx hown3 (mvT hZ3 (ow hw 110 rfl)) (g := (mkF m 111 #[.val (.ref p0), .val (.ref p1), .val (.long (Int64.ofNat us)), .second, .val (.long ((3155760000 : Int64) / (Int64.ofNat us))), .second, .val (.long (Int64.ofNat (own_val (ds.take i)))), .second, .val (.int (Int32.ofNat i)), .val (.int ((ds ++ [u]).getD i 0))] [(.long (Int64.ofNat (own_val (ds.take i))))])) rfl (hb hby od12_111) _) ?_
      show Go _ _ _ _ (T32.setTop (mkF m 114 #[lR p0, lR p1, lJ (Int64.ofNat us), lS, lJ ((3155760000 : Int64) / (Int64.ofNat us)), lS, lJ (Int64.ofNat (own_val (ds.take i))), lS, lI (Int32.ofNat i), lI ((ds ++ [u]).getD i 0)] [(.long (10 : Int64)), (.long (Int64.ofNat (own_val (ds.take i))))]))
      refine Go.st (fun _ => XS.lmul X32.here hx rfl (hb hby od12_114) rfl) ?_
      show Go _ _ _ _ (T32.setTop (mkF m 115 #[lR p0, lR p1, lJ (Int64.ofNat us), lS, lJ ((3155760000 : Int64) / (Int64.ofNat us)), lS, lJ (Int64.ofNat (own_val (ds.take i))), lS, lI (Int32.ofNat i), lI ((ds ++ [u]).getD i 0)] [(.long ((Int64.ofNat (own_val (ds.take i))) * (10 : Int64)))]))
      refine Go.st (fun _ => XS.iload X32.here hx rfl (hb hby od12_115) rfl) ?_
      refine Go.st (fun _ => XS.bipush X32.here hx rfl (hb hby od12_117)) ?_
      show Go _ _ _ _ (T32.setTop (mkF m 119 #[lR p0, lR p1, lJ (Int64.ofNat us), lS, lJ ((3155760000 : Int64) / (Int64.ofNat us)), lS, lJ (Int64.ofNat (own_val (ds.take i))), lS, lI (Int32.ofNat i), lI ((ds ++ [u]).getD i 0)] [(.int (48 : Int32)), (.int ((ds ++ [u]).getD i 0)), (.long ((Int64.ofNat (own_val (ds.take i))) * (10 : Int64)))]))
      refine Go.st (fun _ => XS.isub X32.here hx rfl (hb hby od12_119) rfl) ?_
      show Go _ _ _ _ (T32.setTop (mkF m 120 #[lR p0, lR p1, lJ (Int64.ofNat us), lS, lJ ((3155760000 : Int64) / (Int64.ofNat us)), lS, lJ (Int64.ofNat (own_val (ds.take i))), lS, lI (Int32.ofNat i), lI ((ds ++ [u]).getD i 0)] [(.int (((ds ++ [u]).getD i 0) - (48 : Int32))), (.long ((Int64.ofNat (own_val (ds.take i))) * (10 : Int64)))]))
      refine Go.st (fun _ => XS.i2l X32.here hx rfl (hb hby od12_120) rfl) ?_
      show Go _ _ _ _ (T32.setTop (mkF m 121 #[lR p0, lR p1, lJ (Int64.ofNat us), lS, lJ ((3155760000 : Int64) / (Int64.ofNat us)), lS, lJ (Int64.ofNat (own_val (ds.take i))), lS, lI (Int32.ofNat i), lI ((ds ++ [u]).getD i 0)] [(.long ((((ds ++ [u]).getD i 0) - (48 : Int32)).toInt64)), (.long ((Int64.ofNat (own_val (ds.take i))) * (10 : Int64)))]))
      refine Go.st (fun _ => XS.ladd X32.here hx rfl (hb hby od12_121) rfl) ?_
      show Go _ _ _ _ (T32.setTop (mkF m 122 #[lR p0, lR p1, lJ (Int64.ofNat us), lS, lJ ((3155760000 : Int64) / (Int64.ofNat us)), lS, lJ (Int64.ofNat (own_val (ds.take i))), lS, lI (Int32.ofNat i), lI ((ds ++ [u]).getD i 0)] [(.long (((Int64.ofNat (own_val (ds.take i))) * (10 : Int64)) + ((((ds ++ [u]).getD i 0) - (48 : Int32)).toInt64)))]))
      refine Go.st (fun _ => XS.lstore X32.here hx rfl (hb hby od12_122) rfl (l' := #[.val (.ref p0), .val (.ref p1), .val (.long (Int64.ofNat us)), .second, .val (.long ((3155760000 : Int64) / (Int64.ofNat us))), .second, .val (.long (((Int64.ofNat (own_val (ds.take i))) * (10 : Int64)) + ((((ds ++ [u]).getD i 0) - (48 : Int32)).toInt64))), .second, .val (.int (Int32.ofNat i)), .val (.int ((ds ++ [u]).getD i 0))]) rfl) ?_
      show Go _ _ _ _ (T32.setTop (mkF m 124 #[lR p0, lR p1, lJ (Int64.ofNat us), lS, lJ ((3155760000 : Int64) / (Int64.ofNat us)), lS, lJ (((Int64.ofNat (own_val (ds.take i))) * (10 : Int64)) + ((((ds ++ [u]).getD i 0) - (48 : Int32)).toInt64)), lS, lI (Int32.ofNat i), lI ((ds ++ [u]).getD i 0)] []))
      refine Go.st (fun _ => XS.lload X32.here hx rfl (hb hby od12_124) rfl) ?_
      refine Go.st (fun _ => XS.lload X32.here hx rfl (hb hby od12_126) rfl) ?_
      show Go _ _ _ _ (T32.setTop (mkF m 128 #[lR p0, lR p1, lJ (Int64.ofNat us), lS, lJ ((3155760000 : Int64) / (Int64.ofNat us)), lS, lJ (((Int64.ofNat (own_val (ds.take i))) * (10 : Int64)) + ((((ds ++ [u]).getD i 0) - (48 : Int32)).toInt64)), lS, lI (Int32.ofNat i), lI ((ds ++ [u]).getD i 0)] [(.long ((3155760000 : Int64) / (Int64.ofNat us))), (.long (((Int64.ofNat (own_val (ds.take i))) * (10 : Int64)) + ((((ds ++ [u]).getD i 0) - (48 : Int32)).toInt64)))]))
      refine Go.st (fun _ => XS.lcmp X32.here hx rfl (hb hby od12_128) rfl) ?_
      show Go _ _ _ _ (T32.setTop (mkF m 129 #[lR p0, lR p1, lJ (Int64.ofNat us), lS, lJ ((3155760000 : Int64) / (Int64.ofNat us)), lS, lJ (((Int64.ofNat (own_val (ds.take i))) * (10 : Int64)) + ((((ds ++ [u]).getD i 0) - (48 : Int32)).toInt64)), lS, lI (Int32.ofNat i), lI ((ds ++ [u]).getD i 0)] [(.int (lcmpW (((Int64.ofNat (own_val (ds.take i))) * (10 : Int64)) + ((((ds ++ [u]).getD i 0) - (48 : Int32)).toInt64)) ((3155760000 : Int64) / (Int64.ofNat us))))]))
      have hb35 : ¬ ((0 : Int32) < (lcmpW (((Int64.ofNat (own_val (ds.take i))) * (10 : Int64)) + ((((ds ++ [u]).getD i 0) - (48 : Int32)).toInt64)) ((3155760000 : Int64) / (Int64.ofNat us)))) := by rw [(own_turn (u := u) hd hil).2]; exact own_U_div hU (Nat.le_trans (Nat.mul_le_mul_right _ (own_take_mono ds _)) hsec)
      refine Go.st (fun _ => XS.ifYes X32.here hx rfl (pc0 := 129) (pc' := 153) rfl (hb hby od12_129) rfl ((if0 _ _).trans (flt hb35).2.2.2) (by decide) (by decide)) ?_
      show Go _ _ _ _ (T32.setTop (mkF m 153 #[lR p0, lR p1, lJ (Int64.ofNat us), lS, lJ ((3155760000 : Int64) / (Int64.ofNat us)), lS, lJ (((Int64.ofNat (own_val (ds.take i))) * (10 : Int64)) + ((((ds ++ [u]).getD i 0) - (48 : Int32)).toInt64)), lS, lI (Int32.ofNat i), lI ((ds ++ [u]).getD i 0)] []))
      refine Go.st (fun _ => XS.iinc X32.here hx rfl (hb hby od12_153) rfl (l' := #[.val (.ref p0), .val (.ref p1), .val (.long (Int64.ofNat us)), .second, .val (.long ((3155760000 : Int64) / (Int64.ofNat us))), .second, .val (.long (((Int64.ofNat (own_val (ds.take i))) * (10 : Int64)) + ((((ds ++ [u]).getD i 0) - (48 : Int32)).toInt64))), .second, .val (.int ((Int32.ofNat i) + (1 : Int32))), .val (.int ((ds ++ [u]).getD i 0))]) rfl) ?_
      show Go _ _ _ _ (T32.setTop (mkF m 156 #[lR p0, lR p1, lJ (Int64.ofNat us), lS, lJ ((3155760000 : Int64) / (Int64.ofNat us)), lS, lJ (((Int64.ofNat (own_val (ds.take i))) * (10 : Int64)) + ((((ds ++ [u]).getD i 0) - (48 : Int32)).toInt64)), lS, lI ((Int32.ofNat i) + (1 : Int32)), lI ((ds ++ [u]).getD i 0)] []))
      refine Go.st (fun _ => XS.goto X32.here hx rfl (pc0 := 156) (pc' := 70) rfl (hb hby od12_156) (by decide) (by decide)) ?_
      show Go _ _ _ _ (T32.setTop (mkF m 70 #[lR p0, lR p1, lJ (Int64.ofNat us), lS, lJ ((3155760000 : Int64) / (Int64.ofNat us)), lS, lJ (((Int64.ofNat (own_val (ds.take i))) * (10 : Int64)) + ((((ds ++ [u]).getD i 0) - (48 : Int32)).toInt64)), lS, lI ((Int32.ofNat i) + (1 : Int32)), lI ((ds ++ [u]).getD i 0)] []))
      exact ih (i + 1) (by omega) T32 _ (X32.more (by decide) (by decide)) e32 N32 (((Int64.ofNat (own_val (ds.take i))) * (10 : Int64)) + ((((ds ++ [u]).getD i 0) - (48 : Int32)).toInt64)) ((Int32.ofNat i) + (1 : Int32)) ((ds ++ [u]).getD i 0)  (own_turn hd hil).2 (own_addj 1 rfl)
  exact J25 (ds.length - 1) 1 (by omega) T21 _ (X21.more (by decide) (by decide)) e21 N21 ((0 : Int64) + ((((ds ++ [u]).getD 0 0) - (48 : Int32)).toInt64)) (1 : Int32) ((ds ++ [u]).getD 0 0)  (own_turn0 hd (by omega)) rfl
theorem own_ef_rm_law (m : MethodId) (x0 : Int64) (x1 : Int32) (x2 : Int32) (x3 : Int32) : entryFrame m #[(.long x0), (.int x1), (.int x2), (.int x3)] maxLocals = mkF m 0 #[.val (.long x0), .second, .val (.int x1), .val (.int x2), .val (.int x3), .unset, .unset, .unset, .unset, .unset, .unset, .unset, .unset, .unset, .unset, .unset, .unset] [] := by first | (simp [entryFrame, mkF, argsToLocals, Value.category, maxLocals]; done) | rfl
theorem own_pd11 : parseMethodDescriptor "(JI)I" = some ⟨[.long, .int], some .int⟩ := by decide +kernel
theorem own_pd12 : parseMethodDescriptor "(C)Ljava/lang/String;" = some ⟨[.char], some (.object "java/lang/String")⟩ := by decide +kernel
theorem own_pd13 : parseMethodDescriptor "([C)V" = some ⟨[(.array .char)], none⟩ := by decide +kernel
theorem own_pd14 : parseMethodDescriptor "(Ljava/lang/String;Ljava/lang/String;)Ljava/time/Duration;" = some ⟨[(.object "java/lang/String"), (.object "java/lang/String")], some (.object "java/time/Duration")⟩ := by decide +kernel
def Q_rm_law (Z : State) (w_MX : Addr) (w_ZR : Addr) (g_CS : Int32) (g_SF : Value) (p0 : Int64) (p1 : Int32) (p2 : Int32) (p3 : Int32) (h0 : Heap) (n0 : Nat) (v : Option Value) (h : Heap) (L : List Loc) : Prop := v = some (.int (1 : Int32)) ∧ Fr n0 L ∧ Keep h0 h []
set_option maxRecDepth 65536 in
set_option maxHeartbeats 40000000 in
theorem rm_law (l : Launch) (Z : State) (a0 : Array Value) (hw : ∀ d ∈ tables_1, d.before a0 Z = true) (ws : List Jvm.Cond) (w_MX : Addr) (S_MX : Sta Z Z.heap "com/example/vacuum/vacuum/settings/Durations" "MAX" "Ljava/time/Duration;" (.ref w_MX)) (X_MX : Exa Z Z.heap w_MX "java/time/Duration") (I_MX_seconds : Fld Z Z.heap w_MX "java/time/Duration" "seconds" "J" (.long (3155760000 : Int64))) (w_ZR : Addr) (S_ZR : Sta Z Z.heap "java/time/Duration" "ZERO" "Ljava/time/Duration;" (.ref w_ZR)) (X_ZR : Exa Z Z.heap w_ZR "java/time/Duration") (I_ZR_seconds : Fld Z Z.heap w_ZR "java/time/Duration" "seconds" "J" (.long (0 : Int64))) (I_ZR_nanos : Fld Z Z.heap w_ZR "java/time/Duration" "nanos" "I" (.int (0 : Int32))) (g_CS : Int32) (S_CS : Sta Z Z.heap "java/lang/String" "COMPACT_STRINGS" "Z" (.int g_CS)) (nz_CS : ¬ (g_CS = (0 : Int32))) (g_SF : Value) (S_SF : Sta Z Z.heap "jdk/internal/util/Preconditions" "SIOOBE_FORMATTER" "Ljava/util/function/BiFunction;" g_SF) (r_SF : g_SF.isRef = true) (p0 : Int64) (p1 : Int32) (p2 : Int32) (p3 : Int32) (h0 : Heap) (n0 : Nat) (X00 : Old Z n0 h0)  :
    MetFree l x (head1 (Jvm.Cond.code x code maxLocals ret :: ws) room_1) (fun a U => a = #[(.long p0), (.int p1), (.int p2), (.int p3)] ∧ Z.Warmed39 U.vm ∧ U.heap = h0) (fun _ _ _ _ _ => True) (fun _ U o U' => ∃ v L, o = .returned v ∧ Q_rm_law Z w_MX w_ZR g_CS g_SF p0 p1 p2 p3 h0 n0 v U'.heap L ∧ ReturnedEndW U o U' L 10 73) := by
  refine MetFree.of_bodySF (plainFor_of_name own_pn3) hisR ?_
  intro p e s m args below meth c s₁ Bd hml0 hP hK
  obtain ⟨rfl, hZ, hh⟩ := hP
  have hx := Bd.exec
  have hby := Bd.bytes
  have hml : c.maxLocals = 17 := hml0
  have hown : s.vm.findClass "com/example/vacuum/vacuum/settings/DurationsParsePinLaw" = some m.cls := findClass_of_methodNamed Bd.named
  have hnm := (name_of_methodNamed Bd.named Bd.method).1
  have X0 : Stand p l e room_1 (s.setVm s.vm) m #[(.long p0), (.int p1), (.int p2), (.int p3)] below meth c s₁ [] 0 0 := Stand.of_body Bd
  have e0 : s₁.heap = h0 := by rw [← hh, Bd.state]; rfl
  have N0 := Fr.nil n0
  have hS0 : s.Since s.vm 0 := own_since s
  have hk0 : 0 ≤ h0.size := Nat.zero_le _
  have hZ : Z.Warmed39 (s.setVm s.vm).vm := hZ
  have hown : (s.setVm s.vm).vm.findClass "com/example/vacuum/vacuum/settings/DurationsParsePinLaw" = some m.cls := hown
  refine Go.start fun P hPend => ?_
  refine Go.st (fun _ k => castTop (own_ef_rm_law m p0 p1 p2 p3) k) ?_
  show Go _ _ _ _ (s₁.setTop (mkF m 0 #[lJ p0, lS, lI p1, lI p2, lI p3, lU, lU, lU, lU, lU, lU, lU, lU, lU, lU, lU, lU] []))
  refine Go.st (fun _ => XS.iconst X0.here hx rfl (hb hby at_0)) ?_
  refine Go.st (fun _ => XS.iloadN X0.here hx rfl (hb hby at_1) rfl) ?_
  show Go _ _ _ _ (s₁.setTop (mkF m 2 #[lJ p0, lS, lI p1, lI p2, lI p3, lU, lU, lU, lU, lU, lU, lU, lU, lU, lU, lU, lU] [(.int p1), (.int (1 : Int32))]))
  refine Go.st (fun _ => X0.ldcInt hx hown (mvT hZ (ow hw 0 rfl)) (g := (mkF m 2 #[.val (.long p0), .second, .val (.int p1), .val (.int p2), .val (.int p3), .unset, .unset, .unset, .unset, .unset, .unset, .unset, .unset, .unset, .unset, .unset, .unset] [(.int p1), (.int (1 : Int32))])) rfl (hb hby at_2) _) ?_
  show Go _ _ _ _ (s₁.setTop (mkF m 4 #[lJ p0, lS, lI p1, lI p2, lI p3, lU, lU, lU, lU, lU, lU, lU, lU, lU, lU, lU, lU] [(.int (2147483647 : Int32)), (.int p1), (.int (1 : Int32))]))
  refine Go.st (fun _ => XS.iand X0.here hx rfl (hb hby at_4) rfl) ?_
  show Go _ _ _ _ (s₁.setTop (mkF m 5 #[lJ p0, lS, lI p1, lI p2, lI p3, lU, lU, lU, lU, lU, lU, lU, lU, lU, lU, lU, lU] [(.int (p1 &&& (2147483647 : Int32))), (.int (1 : Int32))]))
  refine Go.st (fun _ => XS.bipush X0.here hx rfl (hb hby at_5)) ?_
  show Go _ _ _ _ (s₁.setTop (mkF m 7 #[lJ p0, lS, lI p1, lI p2, lI p3, lU, lU, lU, lU, lU, lU, lU, lU, lU, lU, lU, lU] [(.int (10 : Int32)), (.int (p1 &&& (2147483647 : Int32))), (.int (1 : Int32))]))
  refine Go.st (fun _ => iremM (g := (mkF m 7 #[.val (.long p0), .second, .val (.int p1), .val (.int p2), .val (.int p3), .unset, .unset, .unset, .unset, .unset, .unset, .unset, .unset, .unset, .unset, .unset, .unset] [(.int (10 : Int32)), (.int (p1 &&& (2147483647 : Int32))), (.int (1 : Int32))])) X0 hx rfl (hb hby at_7) rfl (by decide)) ?_
  show Go _ _ _ _ (s₁.setTop (mkF m 8 #[lJ p0, lS, lI p1, lI p2, lI p3, lU, lU, lU, lU, lU, lU, lU, lU, lU, lU, lU, lU] [(.int ((p1 &&& (2147483647 : Int32)) % (10 : Int32))), (.int (1 : Int32))]))
  refine Go.st (fun _ => XS.iadd X0.here hx rfl (hb hby at_8) rfl) ?_
  show Go _ _ _ _ (s₁.setTop (mkF m 9 #[lJ p0, lS, lI p1, lI p2, lI p3, lU, lU, lU, lU, lU, lU, lU, lU, lU, lU, lU, lU] [(.int ((1 : Int32) + ((p1 &&& (2147483647 : Int32)) % (10 : Int32))))]))
  obtain ⟨nl, hnl, hn1, hn10⟩ := own_len10 p1
  rw [hnl]
  show Go _ _ _ _ (s₁.setTop (mkF m 9 #[lJ p0, lS, lI p1, lI p2, lI p3, lU, lU, lU, lU, lU, lU, lU, lU, lU, lU, lU, lU] [(.int (Int32.ofNat nl))]))
  refine Go.st (fun _ => XS.istore X0.here hx rfl (hb hby at_9) rfl (l' := #[.val (.long p0), .second, .val (.int p1), .val (.int p2), .val (.int p3), .val (.int (Int32.ofNat nl)), .unset, .unset, .unset, .unset, .unset, .unset, .unset, .unset, .unset, .unset, .unset]) rfl) ?_
  show Go _ _ _ _ (s₁.setTop (mkF m 11 #[lJ p0, lS, lI p1, lI p2, lI p3, lI (Int32.ofNat nl), lU, lU, lU, lU, lU, lU, lU, lU, lU, lU, lU] []))
  refine Go.st (fun _ => XS.iloadN X0.here hx rfl (hb hby at_11) rfl) ?_
  show Go _ _ _ _ (s₁.setTop (mkF m 12 #[lJ p0, lS, lI p1, lI p2, lI p3, lI (Int32.ofNat nl), lU, lU, lU, lU, lU, lU, lU, lU, lU, lU, lU] [(.int p2)]))
  refine Go.st (fun _ => X0.ldcInt hx hown (mvT hZ (ow hw 0 rfl)) (g := (mkF m 12 #[.val (.long p0), .second, .val (.int p1), .val (.int p2), .val (.int p3), .val (.int (Int32.ofNat nl)), .unset, .unset, .unset, .unset, .unset, .unset, .unset, .unset, .unset, .unset, .unset] [(.int p2)])) rfl (hb hby at_12) _) ?_
  show Go _ _ _ _ (s₁.setTop (mkF m 14 #[lJ p0, lS, lI p1, lI p2, lI p3, lI (Int32.ofNat nl), lU, lU, lU, lU, lU, lU, lU, lU, lU, lU, lU] [(.int (2147483647 : Int32)), (.int p2)]))
  refine Go.st (fun _ => XS.iand X0.here hx rfl (hb hby at_14) rfl) ?_
  show Go _ _ _ _ (s₁.setTop (mkF m 15 #[lJ p0, lS, lI p1, lI p2, lI p3, lI (Int32.ofNat nl), lU, lU, lU, lU, lU, lU, lU, lU, lU, lU, lU] [(.int (p2 &&& (2147483647 : Int32)))]))
  refine Go.st (fun _ => XS.iconst X0.here hx rfl (hb hby at_15)) ?_
  show Go _ _ _ _ (s₁.setTop (mkF m 16 #[lJ p0, lS, lI p1, lI p2, lI p3, lI (Int32.ofNat nl), lU, lU, lU, lU, lU, lU, lU, lU, lU, lU, lU] [(.int (5 : Int32)), (.int (p2 &&& (2147483647 : Int32)))]))
  refine Go.st (fun _ => iremM (g := (mkF m 16 #[.val (.long p0), .second, .val (.int p1), .val (.int p2), .val (.int p3), .val (.int (Int32.ofNat nl)), .unset, .unset, .unset, .unset, .unset, .unset, .unset, .unset, .unset, .unset, .unset] [(.int (5 : Int32)), (.int (p2 &&& (2147483647 : Int32)))])) X0 hx rfl (hb hby at_16) rfl (by decide)) ?_
  show Go _ _ _ _ (s₁.setTop (mkF m 17 #[lJ p0, lS, lI p1, lI p2, lI p3, lI (Int32.ofNat nl), lU, lU, lU, lU, lU, lU, lU, lU, lU, lU, lU] [(.int ((p2 &&& (2147483647 : Int32)) % (5 : Int32)))]))
  refine Go.st (fun _ => XS.istore X0.here hx rfl (hb hby at_17) rfl (l' := #[.val (.long p0), .second, .val (.int p1), .val (.int p2), .val (.int p3), .val (.int (Int32.ofNat nl)), .val (.int ((p2 &&& (2147483647 : Int32)) % (5 : Int32))), .unset, .unset, .unset, .unset, .unset, .unset, .unset, .unset, .unset, .unset]) rfl) ?_
  show Go _ _ _ _ (s₁.setTop (mkF m 19 #[lJ p0, lS, lI p1, lI p2, lI p3, lI (Int32.ofNat nl), lI ((p2 &&& (2147483647 : Int32)) % (5 : Int32)), lU, lU, lU, lU, lU, lU, lU, lU, lU, lU] []))
  have J1 : ∀ (Tj1 : State) (Lj1 : List Loc) (Xj1 : Stand p l e room_1 (s.setVm s.vm) m #[(.long p0), (.int p1), (.int p2), (.int p3)] below meth c Tj1 Lj1 0 0) (ej1 : Tj1.heap = h0) (Nj1 : Fr n0 Lj1) (jU : Int32) (jS : Int64) (nu : Nat) (hU : own_U jU nu) (hS : jS = Int64.ofNat nu), Go p.tables e below P (Tj1.setTop (mkF m 97 #[.val (.long p0), .second, .val (.int p1), .val (.int p2), .val (.int p3), .val (.int (Int32.ofNat nl)), .val (.int ((p2 &&& (2147483647 : Int32)) % (5 : Int32))), .val (.int jU), .val (.long jS), .second, .unset, .unset, .unset, .unset, .unset, .unset, .unset] [])) := by
    intro Tj1 Lj1 Xj1 ej1 Nj1 jU jS nu hU hS
    show Go _ _ _ _ (Tj1.setTop (mkF m 97 #[lJ p0, lS, lI p1, lI p2, lI p3, lI (Int32.ofNat nl), lI ((p2 &&& (2147483647 : Int32)) % (5 : Int32)), lI jU, lJ jS, lS, lU, lU, lU, lU, lU, lU, lU] []))
    rw [hS]
    show Go _ _ _ _ (Tj1.setTop (mkF m 97 #[lJ p0, lS, lI p1, lI p2, lI p3, lI (Int32.ofNat nl), lI ((p2 &&& (2147483647 : Int32)) % (5 : Int32)), lI jU, lJ (Int64.ofNat nu), lS, lU, lU, lU, lU, lU, lU, lU] []))
    refine Go.st (fun _ => XS.iload Xj1.here hx rfl (hb hby at_97) rfl) ?_
    refine Go.st (fun _ => XS.iconst Xj1.here hx rfl (hb hby at_99)) ?_
    show Go _ _ _ _ (Tj1.setTop (mkF m 100 #[lJ p0, lS, lI p1, lI p2, lI p3, lI (Int32.ofNat nl), lI ((p2 &&& (2147483647 : Int32)) % (5 : Int32)), lI jU, lJ (Int64.ofNat nu), lS, lU, lU, lU, lU, lU, lU, lU] [(.int (1 : Int32)), (.int (Int32.ofNat nl))]))
    refine Go.st (fun _ => XS.iadd Xj1.here hx rfl (hb hby at_100) rfl) ?_
    show Go _ _ _ _ (Tj1.setTop (mkF m 101 #[lJ p0, lS, lI p1, lI p2, lI p3, lI (Int32.ofNat nl), lI ((p2 &&& (2147483647 : Int32)) % (5 : Int32)), lI jU, lJ (Int64.ofNat nu), lS, lU, lU, lU, lU, lU, lU, lU] [(.int ((Int32.ofNat nl) + (1 : Int32)))]))
    rw [show ((Int32.ofNat nl) + (1 : Int32)) = (Int32.ofNat (nl + 1)) from own_addj 1 rfl]
    show Go _ _ _ _ (Tj1.setTop (mkF m 101 #[lJ p0, lS, lI p1, lI p2, lI p3, lI (Int32.ofNat nl), lI ((p2 &&& (2147483647 : Int32)) % (5 : Int32)), lI jU, lJ (Int64.ofNat nu), lS, lU, lU, lU, lU, lU, lU, lU] [(.int (Int32.ofNat (nl + 1)))]))
    obtain ⟨T2, h2, k2, X2, e2, E2, A2, st2⟩ := newP Xj1 hx hZ (ow hw 2 rfl) ej1 (g := (mkF m 101 #[.val (.long p0), .second, .val (.int p1), .val (.int p2), .val (.int p3), .val (.int (Int32.ofNat nl)), .val (.int ((p2 &&& (2147483647 : Int32)) % (5 : Int32))), .val (.int jU), .val (.long (Int64.ofNat nu)), .second, .unset, .unset, .unset, .unset, .unset, .unset, .unset] [(.int (Int32.ofNat (nl + 1)))])) rfl (hb hby at_101) rfl (own_nneg (by omega)) (cap := 11) (by rw [own_clamp (by omega)]; omega) (by decide) (by decide) (by decide)
    obtain ⟨b2, g2⟩ : ∃ z, z = h0.size := ⟨_, rfl⟩
    rw [← g2] at A2 st2
    refine Go.st st2 ?_
    have g_b2 : n0 ≤ b2 := Nat.le_trans (own_oldsz X00) (Nat.le_of_eq g2.symm)
    have sz_b2 : h0.size ≤ b2 := Nat.le_trans (Keep.refl h0 []).1 (Nat.le_of_eq g2.symm)
    have K2 : Keep h0 h2 [] := (Keep.refl h0 []).ext E2
    have O2 := X00.ext E2
    have V2 : Arv Z h2 b2 k2 .char (Int32.ofNat (nl + 1)) [] (.int (0 : Int32)) := Arv.new A2 (own_nneg (by omega))
    show Go _ _ _ _ (T2.setTop (mkF m 103 #[lJ p0, lS, lI p1, lI p2, lI p3, lI (Int32.ofNat nl), lI ((p2 &&& (2147483647 : Int32)) % (5 : Int32)), lI jU, lJ (Int64.ofNat nu), lS, lU, lU, lU, lU, lU, lU, lU] [(.ref b2)]))
    refine Go.st (fun _ => XS.astore X2.here hx rfl (hb hby at_103) rfl rfl (l' := #[.val (.long p0), .second, .val (.int p1), .val (.int p2), .val (.int p3), .val (.int (Int32.ofNat nl)), .val (.int ((p2 &&& (2147483647 : Int32)) % (5 : Int32))), .val (.int jU), .val (.long (Int64.ofNat nu)), .second, .val (.ref b2), .unset, .unset, .unset, .unset, .unset, .unset]) rfl) ?_
    show Go _ _ _ _ (T2.setTop (mkF m 105 #[lJ p0, lS, lI p1, lI p2, lI p3, lI (Int32.ofNat nl), lI ((p2 &&& (2147483647 : Int32)) % (5 : Int32)), lI jU, lJ (Int64.ofNat nu), lS, lR b2, lU, lU, lU, lU, lU, lU] []))
    refine Go.st (fun _ => XS.lconst X2.here hx rfl (hb hby at_105)) ?_
    show Go _ _ _ _ (T2.setTop (mkF m 106 #[lJ p0, lS, lI p1, lI p2, lI p3, lI (Int32.ofNat nl), lI ((p2 &&& (2147483647 : Int32)) % (5 : Int32)), lI jU, lJ (Int64.ofNat nu), lS, lR b2, lU, lU, lU, lU, lU, lU] [(.long (0 : Int64))]))
    refine Go.st (fun _ => XS.lstore X2.here hx rfl (hb hby at_106) rfl (l' := #[.val (.long p0), .second, .val (.int p1), .val (.int p2), .val (.int p3), .val (.int (Int32.ofNat nl)), .val (.int ((p2 &&& (2147483647 : Int32)) % (5 : Int32))), .val (.int jU), .val (.long (Int64.ofNat nu)), .second, .val (.ref b2), .val (.long (0 : Int64)), .second, .unset, .unset, .unset, .unset]) rfl) ?_
    show Go _ _ _ _ (T2.setTop (mkF m 108 #[lJ p0, lS, lI p1, lI p2, lI p3, lI (Int32.ofNat nl), lI ((p2 &&& (2147483647 : Int32)) % (5 : Int32)), lI jU, lJ (Int64.ofNat nu), lS, lR b2, lJ (0 : Int64), lS, lU, lU, lU, lU] []))
    refine Go.st (fun _ => XS.iload X2.here hx rfl (hb hby at_108) rfl) ?_
    show Go _ _ _ _ (T2.setTop (mkF m 110 #[lJ p0, lS, lI p1, lI p2, lI p3, lI (Int32.ofNat nl), lI ((p2 &&& (2147483647 : Int32)) % (5 : Int32)), lI jU, lJ (Int64.ofNat nu), lS, lR b2, lJ (0 : Int64), lS, lU, lU, lU, lU] [(.int (Int32.ofNat nl))]))
    have hb3 : (0 : Int32) < (Int32.ofNat nl) := own_ltN (i := 0) (by omega) (by omega)
    refine Go.st (fun _ => XS.ifNo X2.here hx rfl (hb hby at_110) rfl ((if0 _ _).trans (tlt hb3).2.2.2)) ?_
    show Go _ _ _ _ (T2.setTop (mkF m 113 #[lJ p0, lS, lI p1, lI p2, lI p3, lI (Int32.ofNat nl), lI ((p2 &&& (2147483647 : Int32)) % (5 : Int32)), lI jU, lJ (Int64.ofNat nu), lS, lR b2, lJ (0 : Int64), lS, lU, lU, lU, lU] []))
    refine Go.st (fun _ => XS.lloadN X2.here hx rfl (hb hby at_113) rfl) ?_
    refine Go.st (fun _ => XS.iconst X2.here hx rfl (hb hby at_114)) ?_
    show Go _ _ _ _ (T2.setTop (mkF m 115 #[lJ p0, lS, lI p1, lI p2, lI p3, lI (Int32.ofNat nl), lI ((p2 &&& (2147483647 : Int32)) % (5 : Int32)), lI jU, lJ (Int64.ofNat nu), lS, lR b2, lJ (0 : Int64), lS, lU, lU, lU, lU] [(.int (0 : Int32)), (.long p0)]))
    obtain ⟨_, _, ⟨T4, L4, k4, n4⟩, -, X4, ⟨Lc4, hQ4, l4, y4, z4⟩, st4⟩ := Jvm.LawKit.callS X2 hx (y := (⟨"com/example/vacuum/vacuum/settings/DurationsParsePinLaw", "digit", "(JI)I"⟩ : MethodName)) hown (mvT hZ (ow hw 3 rfl)) (mvT hZ (ow hw 4 rfl)) (mvT hZ (ow hw 5 rfl)) (mvT hZ (ow hw 6 rfl)) (by decide) (backOf (W := 0) (rm_digit l Z a0 hw [] p0 (0 : Int32) h2 n0 O2 ) hZ (ow hw 6 rfl) (ow hw 5 rfl) (by decide) (by decide)) (g := (mkF m 115 #[.val (.long p0), .second, .val (.int p1), .val (.int p2), .val (.int p3), .val (.int (Int32.ofNat nl)), .val (.int ((p2 &&& (2147483647 : Int32)) % (5 : Int32))), .val (.int jU), .val (.long (Int64.ofNat nu)), .second, .val (.ref b2), .val (.long (0 : Int64)), .second, .unset, .unset, .unset, .unset] [(.int (0 : Int32)), (.long p0)])) rfl (by rw [hml]; rfl) (argsL := [(.long p0), (.int (0 : Int32))]) (rest := []) (lenOf own_pd11 rfl) rfl (by show 2 * 0 + _ ≤ _; exact Nat.le_of_eq rfl) (hb hby at_115) (fun _ _ => ⟨rfl, e2, (by decide : 1 + 0 ≤ _), (by decide : 11 + 0 ≤ _)⟩)
    dsimp only [Pt.U, Pt.locs, Pt.cells, Pt.slots] at X4 l4 y4 z4 st4 hQ4
    subst y4 z4
    refine Go.st st4 ?_
    obtain ⟨rd_5, rfl, N4q, e4, q4_0⟩ := hQ4
    have N4 : Fr n0 L4 := by rw [l4]; exact Fr.app Nj1 N4q
    show Go _ _ _ _ (T4.setTop (mkF m 118 #[lJ p0, lS, lI p1, lI p2, lI p3, lI (Int32.ofNat nl), lI ((p2 &&& (2147483647 : Int32)) % (5 : Int32)), lI jU, lJ (Int64.ofNat nu), lS, lR b2, lJ (0 : Int64), lS, lU, lU, lU, lU] [(.int rd_5)]))
    refine Go.st (fun _ => XS.istore X4.here hx rfl (hb hby at_118) rfl (l' := #[.val (.long p0), .second, .val (.int p1), .val (.int p2), .val (.int p3), .val (.int (Int32.ofNat nl)), .val (.int ((p2 &&& (2147483647 : Int32)) % (5 : Int32))), .val (.int jU), .val (.long (Int64.ofNat nu)), .second, .val (.ref b2), .val (.long (0 : Int64)), .second, .val (.int rd_5), .unset, .unset, .unset]) rfl) ?_
    show Go _ _ _ _ (T4.setTop (mkF m 120 #[lJ p0, lS, lI p1, lI p2, lI p3, lI (Int32.ofNat nl), lI ((p2 &&& (2147483647 : Int32)) % (5 : Int32)), lI jU, lJ (Int64.ofNat nu), lS, lR b2, lJ (0 : Int64), lS, lI rd_5, lU, lU, lU] []))
    refine Go.st (fun _ => XS.aload X4.here hx rfl (hb hby at_120) rfl rfl) ?_
    refine Go.st (fun _ => XS.iconst X4.here hx rfl (hb hby at_122)) ?_
    refine Go.st (fun _ => XS.bipush X4.here hx rfl (hb hby at_123)) ?_
    refine Go.st (fun _ => XS.iload X4.here hx rfl (hb hby at_125) rfl) ?_
    show Go _ _ _ _ (T4.setTop (mkF m 127 #[lJ p0, lS, lI p1, lI p2, lI p3, lI (Int32.ofNat nl), lI ((p2 &&& (2147483647 : Int32)) % (5 : Int32)), lI jU, lJ (Int64.ofNat nu), lS, lR b2, lJ (0 : Int64), lS, lI rd_5, lU, lU, lU] [(.int rd_5), (.int (48 : Int32)), (.int (0 : Int32)), (.ref b2)]))
    refine Go.st (fun _ => XS.iadd X4.here hx rfl (hb hby at_127) rfl) ?_
    show Go _ _ _ _ (T4.setTop (mkF m 128 #[lJ p0, lS, lI p1, lI p2, lI p3, lI (Int32.ofNat nl), lI ((p2 &&& (2147483647 : Int32)) % (5 : Int32)), lI jU, lJ (Int64.ofNat nu), lS, lR b2, lJ (0 : Int64), lS, lI rd_5, lU, lU, lU] [(.int ((48 : Int32) + rd_5)), (.int (0 : Int32)), (.ref b2)]))
    refine Go.st (fun _ => XS.i2c X4.here hx rfl (hb hby at_128) rfl) ?_
    show Go _ _ _ _ (T4.setTop (mkF m 129 #[lJ p0, lS, lI p1, lI p2, lI p3, lI (Int32.ofNat nl), lI ((p2 &&& (2147483647 : Int32)) % (5 : Int32)), lI jU, lJ (Int64.ofNat nu), lS, lR b2, lJ (0 : Int64), lS, lI rd_5, lU, lU, lU] [(.int (((48 : Int32) + rd_5).toUInt32.toUInt16.toUInt32.toInt32)), (.int (0 : Int32)), (.ref b2)]))
    rw [show (((48 : Int32) + rd_5).toUInt32.toUInt16.toUInt32.toInt32) = ((48 : Int32) + rd_5) from own_i2c48 q4_0]
    show Go _ _ _ _ (T4.setTop (mkF m 129 #[lJ p0, lS, lI p1, lI p2, lI p3, lI (Int32.ofNat nl), lI ((p2 &&& (2147483647 : Int32)) % (5 : Int32)), lI jU, lJ (Int64.ofNat nu), lS, lR b2, lJ (0 : Int64), lS, lI rd_5, lU, lU, lU] [(.int ((48 : Int32) + rd_5)), (.int (0 : Int32)), (.ref b2)]))
    have P6 : Arv Z h2 b2 k2 .char (Int32.ofNat (nl + 1)) ((([] : List Int32) ++ [0]).map Value.int) (.int (0 : Int32)) := Arv.pad V2 (own_pad0 ([] : List Int32))
    obtain ⟨T6, h6, X6, e6, W6, V6, st6⟩ := own_stC X4 hx hZ e4 P6 (j := (0 : Int32)) (i := ([] : List Int32).length) ⟨by decide, own_ltN (i := 0) (by omega) (by omega)⟩ (by rw [show ([] : List Int32).length = 0 from rfl]; rfl) (own_pad1 ([] : List Int32)) (g := (mkF m 129 #[.val (.long p0), .second, .val (.int p1), .val (.int p2), .val (.int p3), .val (.int (Int32.ofNat nl)), .val (.int ((p2 &&& (2147483647 : Int32)) % (5 : Int32))), .val (.int jU), .val (.long (Int64.ofNat nu)), .second, .val (.ref b2), .val (.long (0 : Int64)), .second, .val (.int rd_5), .unset, .unset, .unset] [(.int ((48 : Int32) + rd_5)), (.int (0 : Int32)), (.ref b2)])) rfl rfl (hb hby at_129)
    refine Go.st st6 ?_
    rw [show nar .char ((48 : Int32) + rd_5) = ((48 : Int32) + rd_5) from own_nar48 q4_0] at V6
    have K6 : Keep h0 h6 [] := K2.wr W6 (Or.inr sz_b2)
    have O6 := O2.wr W6 g_b2
    have N6 := Fr.snoc X6 N4 g_b2
    have V6' : Arv Z h6 b2 k2 .char (Int32.ofNat (nl + 1)) ((([] : List Int32) ++ [((48 : Int32) + rd_5)]).map Value.int) (.int (0 : Int32)) := by rw [← own_setlast]; exact V6
    show Go _ _ _ _ (T6.setTop (mkF m 130 #[lJ p0, lS, lI p1, lI p2, lI p3, lI (Int32.ofNat nl), lI ((p2 &&& (2147483647 : Int32)) % (5 : Int32)), lI jU, lJ (Int64.ofNat nu), lS, lR b2, lJ (0 : Int64), lS, lI rd_5, lU, lU, lU] []))
    refine Go.st (fun _ => XS.lload X6.here hx rfl (hb hby at_130) rfl) ?_
    show Go _ _ _ _ (T6.setTop (mkF m 132 #[lJ p0, lS, lI p1, lI p2, lI p3, lI (Int32.ofNat nl), lI ((p2 &&& (2147483647 : Int32)) % (5 : Int32)), lI jU, lJ (Int64.ofNat nu), lS, lR b2, lJ (0 : Int64), lS, lI rd_5, lU, lU, lU] [(.long (0 : Int64))]))
    refine Go.st (fun _ => X6.ldc2Long hx hown (mvT hZ (ow hw 8 rfl)) (g := (mkF m 132 #[.val (.long p0), .second, .val (.int p1), .val (.int p2), .val (.int p3), .val (.int (Int32.ofNat nl)), .val (.int ((p2 &&& (2147483647 : Int32)) % (5 : Int32))), .val (.int jU), .val (.long (Int64.ofNat nu)), .second, .val (.ref b2), .val (.long (0 : Int64)), .second, .val (.int rd_5), .unset, .unset, .unset] [(.long (0 : Int64))])) rfl (hb hby at_132) _) ?_
    show Go _ _ _ _ (T6.setTop (mkF m 135 #[lJ p0, lS, lI p1, lI p2, lI p3, lI (Int32.ofNat nl), lI ((p2 &&& (2147483647 : Int32)) % (5 : Int32)), lI jU, lJ (Int64.ofNat nu), lS, lR b2, lJ (0 : Int64), lS, lI rd_5, lU, lU, lU] [(.long (10 : Int64)), (.long (0 : Int64))]))
    refine Go.st (fun _ => XS.lmul X6.here hx rfl (hb hby at_135) rfl) ?_
    show Go _ _ _ _ (T6.setTop (mkF m 136 #[lJ p0, lS, lI p1, lI p2, lI p3, lI (Int32.ofNat nl), lI ((p2 &&& (2147483647 : Int32)) % (5 : Int32)), lI jU, lJ (Int64.ofNat nu), lS, lR b2, lJ (0 : Int64), lS, lI rd_5, lU, lU, lU] [(.long (0 : Int64))]))
    refine Go.st (fun _ => XS.iload X6.here hx rfl (hb hby at_136) rfl) ?_
    show Go _ _ _ _ (T6.setTop (mkF m 138 #[lJ p0, lS, lI p1, lI p2, lI p3, lI (Int32.ofNat nl), lI ((p2 &&& (2147483647 : Int32)) % (5 : Int32)), lI jU, lJ (Int64.ofNat nu), lS, lR b2, lJ (0 : Int64), lS, lI rd_5, lU, lU, lU] [(.int rd_5), (.long (0 : Int64))]))
    refine Go.st (fun _ => XS.i2l X6.here hx rfl (hb hby at_138) rfl) ?_
    show Go _ _ _ _ (T6.setTop (mkF m 139 #[lJ p0, lS, lI p1, lI p2, lI p3, lI (Int32.ofNat nl), lI ((p2 &&& (2147483647 : Int32)) % (5 : Int32)), lI jU, lJ (Int64.ofNat nu), lS, lR b2, lJ (0 : Int64), lS, lI rd_5, lU, lU, lU] [(.long (rd_5.toInt64)), (.long (0 : Int64))]))
    refine Go.st (fun _ => XS.ladd X6.here hx rfl (hb hby at_139) rfl) ?_
    show Go _ _ _ _ (T6.setTop (mkF m 140 #[lJ p0, lS, lI p1, lI p2, lI p3, lI (Int32.ofNat nl), lI ((p2 &&& (2147483647 : Int32)) % (5 : Int32)), lI jU, lJ (Int64.ofNat nu), lS, lR b2, lJ (0 : Int64), lS, lI rd_5, lU, lU, lU] [(.long ((0 : Int64) + (rd_5.toInt64)))]))
    refine Go.st (fun _ => XS.lstore X6.here hx rfl (hb hby at_140) rfl (l' := #[.val (.long p0), .second, .val (.int p1), .val (.int p2), .val (.int p3), .val (.int (Int32.ofNat nl)), .val (.int ((p2 &&& (2147483647 : Int32)) % (5 : Int32))), .val (.int jU), .val (.long (Int64.ofNat nu)), .second, .val (.ref b2), .val (.long ((0 : Int64) + (rd_5.toInt64))), .second, .val (.int rd_5), .unset, .unset, .unset]) rfl) ?_
    show Go _ _ _ _ (T6.setTop (mkF m 142 #[lJ p0, lS, lI p1, lI p2, lI p3, lI (Int32.ofNat nl), lI ((p2 &&& (2147483647 : Int32)) % (5 : Int32)), lI jU, lJ (Int64.ofNat nu), lS, lR b2, lJ ((0 : Int64) + (rd_5.toInt64)), lS, lI rd_5, lU, lU, lU] []))
    rw [show ((0 : Int64) + (rd_5.toInt64)) = (Int64.ofNat (own_val (([] : List Int32) ++ [((48 : Int32) + rd_5)]))) from own_cnt0 q4_0]
    show Go _ _ _ _ (T6.setTop (mkF m 142 #[lJ p0, lS, lI p1, lI p2, lI p3, lI (Int32.ofNat nl), lI ((p2 &&& (2147483647 : Int32)) % (5 : Int32)), lI jU, lJ (Int64.ofNat nu), lS, lR b2, lJ (Int64.ofNat (own_val (([] : List Int32) ++ [((48 : Int32) + rd_5)]))), lS, lI rd_5, lU, lU, lU] []))
    have hlen0 : (([] : List Int32) ++ [((48 : Int32) + rd_5)]).length = min 1 nl := by simp only [List.length_append, List.length_singleton, List.length_nil]; omega
    have hdig0 : own_D (([] : List Int32) ++ [((48 : Int32) + rd_5)]) := own_D_snoc (fun z hz => absurd hz List.not_mem_nil) ⟨(own_48 q4_0).1, (own_48 q4_0).2.1⟩
    refine Go.st (fun _ => XS.iload X6.here hx rfl (hb hby at_142) rfl) ?_
    refine Go.st (fun _ => XS.iconst X6.here hx rfl (hb hby at_144)) ?_
    show Go _ _ _ _ (T6.setTop (mkF m 145 #[lJ p0, lS, lI p1, lI p2, lI p3, lI (Int32.ofNat nl), lI ((p2 &&& (2147483647 : Int32)) % (5 : Int32)), lI jU, lJ (Int64.ofNat nu), lS, lR b2, lJ (Int64.ofNat (own_val (([] : List Int32) ++ [((48 : Int32) + rd_5)]))), lS, lI rd_5, lU, lU, lU] [(.int (1 : Int32)), (.int (Int32.ofNat nl))]))
    have J7 : ∀ (Tj7 : State) (hj7 : Heap) (Lj7 : List Loc) (vmj7 : Vm) (kj7 : Nat) (Xj7 : Stand p l e room_1 (s.setVm vmj7) m #[(.long p0), (.int p1), (.int p2), (.int p3)] below meth c Tj7 Lj7 1 11) (ej7 : Tj7.heap = hj7) (Kj7 : Keep h0 hj7 []) (Oj7 : Old Z n0 hj7) (Nj7 : Fr n0 Lj7) (hSj7 : s.Since vmj7 kj7) (hkj7 : kj7 ≤ hj7.size) (hZj7 : Z.Warmed39 (s.setVm vmj7).vm) (hownj7 : (s.setVm vmj7).vm.findClass "com/example/vacuum/vacuum/settings/DurationsParsePinLaw" = some m.cls) (jc1 : Int64) (jd1 : Int32) (jx1 : List Int32) (hA1 : Arv Z hj7 b2 k2 .char (Int32.ofNat (nl + 1)) (jx1.map Value.int) (.int (0 : Int32))) (hlen1 : jx1.length = min 2 nl) (hdig1 : own_D jx1) (hc1_ : jc1 = Int64.ofNat (own_val jx1)), Go p.tables e below P (Tj7.setTop (mkF m 177 #[.val (.long p0), .second, .val (.int p1), .val (.int p2), .val (.int p3), .val (.int (Int32.ofNat nl)), .val (.int ((p2 &&& (2147483647 : Int32)) % (5 : Int32))), .val (.int jU), .val (.long (Int64.ofNat nu)), .second, .val (.ref b2), .val (.long jc1), .second, .val (.int jd1), .unset, .unset, .unset] [])) := by
      intro Tj7 hj7 Lj7 vmj7 kj7 Xj7 ej7 Kj7 Oj7 Nj7 hSj7 hkj7 hZj7 hownj7 jc1 jd1 jx1 hA1 hlen1 hdig1 hc1_
      show Go _ _ _ _ (Tj7.setTop (mkF m 177 #[lJ p0, lS, lI p1, lI p2, lI p3, lI (Int32.ofNat nl), lI ((p2 &&& (2147483647 : Int32)) % (5 : Int32)), lI jU, lJ (Int64.ofNat nu), lS, lR b2, lJ jc1, lS, lI jd1, lU, lU, lU] []))
      rw [hc1_]
      show Go _ _ _ _ (Tj7.setTop (mkF m 177 #[lJ p0, lS, lI p1, lI p2, lI p3, lI (Int32.ofNat nl), lI ((p2 &&& (2147483647 : Int32)) % (5 : Int32)), lI jU, lJ (Int64.ofNat nu), lS, lR b2, lJ (Int64.ofNat (own_val jx1)), lS, lI jd1, lU, lU, lU] []))
      refine Go.st (fun _ => XS.iload Xj7.here hx rfl (hb hby at_177) rfl) ?_
      refine Go.st (fun _ => XS.iconst Xj7.here hx rfl (hb hby at_179)) ?_
      show Go _ _ _ _ (Tj7.setTop (mkF m 180 #[lJ p0, lS, lI p1, lI p2, lI p3, lI (Int32.ofNat nl), lI ((p2 &&& (2147483647 : Int32)) % (5 : Int32)), lI jU, lJ (Int64.ofNat nu), lS, lR b2, lJ (Int64.ofNat (own_val jx1)), lS, lI jd1, lU, lU, lU] [(.int (2 : Int32)), (.int (Int32.ofNat nl))]))
      have J8 : ∀ (Tj8 : State) (hj8 : Heap) (Lj8 : List Loc) (vmj8 : Vm) (kj8 : Nat) (Xj8 : Stand p l e room_1 (s.setVm vmj8) m #[(.long p0), (.int p1), (.int p2), (.int p3)] below meth c Tj8 Lj8 1 11) (ej8 : Tj8.heap = hj8) (Kj8 : Keep h0 hj8 []) (Oj8 : Old Z n0 hj8) (Nj8 : Fr n0 Lj8) (hSj8 : s.Since vmj8 kj8) (hkj8 : kj8 ≤ hj8.size) (hZj8 : Z.Warmed39 (s.setVm vmj8).vm) (hownj8 : (s.setVm vmj8).vm.findClass "com/example/vacuum/vacuum/settings/DurationsParsePinLaw" = some m.cls) (jc2 : Int64) (jd2 : Int32) (jx2 : List Int32) (hA2 : Arv Z hj8 b2 k2 .char (Int32.ofNat (nl + 1)) (jx2.map Value.int) (.int (0 : Int32))) (hlen2 : jx2.length = min 3 nl) (hdig2 : own_D jx2) (hc2_ : jc2 = Int64.ofNat (own_val jx2)), Go p.tables e below P (Tj8.setTop (mkF m 212 #[.val (.long p0), .second, .val (.int p1), .val (.int p2), .val (.int p3), .val (.int (Int32.ofNat nl)), .val (.int ((p2 &&& (2147483647 : Int32)) % (5 : Int32))), .val (.int jU), .val (.long (Int64.ofNat nu)), .second, .val (.ref b2), .val (.long jc2), .second, .val (.int jd2), .unset, .unset, .unset] [])) := by
        intro Tj8 hj8 Lj8 vmj8 kj8 Xj8 ej8 Kj8 Oj8 Nj8 hSj8 hkj8 hZj8 hownj8 jc2 jd2 jx2 hA2 hlen2 hdig2 hc2_
        show Go _ _ _ _ (Tj8.setTop (mkF m 212 #[lJ p0, lS, lI p1, lI p2, lI p3, lI (Int32.ofNat nl), lI ((p2 &&& (2147483647 : Int32)) % (5 : Int32)), lI jU, lJ (Int64.ofNat nu), lS, lR b2, lJ jc2, lS, lI jd2, lU, lU, lU] []))
        rw [hc2_]
        show Go _ _ _ _ (Tj8.setTop (mkF m 212 #[lJ p0, lS, lI p1, lI p2, lI p3, lI (Int32.ofNat nl), lI ((p2 &&& (2147483647 : Int32)) % (5 : Int32)), lI jU, lJ (Int64.ofNat nu), lS, lR b2, lJ (Int64.ofNat (own_val jx2)), lS, lI jd2, lU, lU, lU] []))
        refine Go.st (fun _ => XS.iload Xj8.here hx rfl (hb hby at_212) rfl) ?_
        refine Go.st (fun _ => XS.iconst Xj8.here hx rfl (hb hby at_214)) ?_
        show Go _ _ _ _ (Tj8.setTop (mkF m 215 #[lJ p0, lS, lI p1, lI p2, lI p3, lI (Int32.ofNat nl), lI ((p2 &&& (2147483647 : Int32)) % (5 : Int32)), lI jU, lJ (Int64.ofNat nu), lS, lR b2, lJ (Int64.ofNat (own_val jx2)), lS, lI jd2, lU, lU, lU] [(.int (3 : Int32)), (.int (Int32.ofNat nl))]))
        have J9 : ∀ (Tj9 : State) (hj9 : Heap) (Lj9 : List Loc) (vmj9 : Vm) (kj9 : Nat) (Xj9 : Stand p l e room_1 (s.setVm vmj9) m #[(.long p0), (.int p1), (.int p2), (.int p3)] below meth c Tj9 Lj9 1 11) (ej9 : Tj9.heap = hj9) (Kj9 : Keep h0 hj9 []) (Oj9 : Old Z n0 hj9) (Nj9 : Fr n0 Lj9) (hSj9 : s.Since vmj9 kj9) (hkj9 : kj9 ≤ hj9.size) (hZj9 : Z.Warmed39 (s.setVm vmj9).vm) (hownj9 : (s.setVm vmj9).vm.findClass "com/example/vacuum/vacuum/settings/DurationsParsePinLaw" = some m.cls) (jc3 : Int64) (jd3 : Int32) (jx3 : List Int32) (hA3 : Arv Z hj9 b2 k2 .char (Int32.ofNat (nl + 1)) (jx3.map Value.int) (.int (0 : Int32))) (hlen3 : jx3.length = min 4 nl) (hdig3 : own_D jx3) (hc3_ : jc3 = Int64.ofNat (own_val jx3)), Go p.tables e below P (Tj9.setTop (mkF m 247 #[.val (.long p0), .second, .val (.int p1), .val (.int p2), .val (.int p3), .val (.int (Int32.ofNat nl)), .val (.int ((p2 &&& (2147483647 : Int32)) % (5 : Int32))), .val (.int jU), .val (.long (Int64.ofNat nu)), .second, .val (.ref b2), .val (.long jc3), .second, .val (.int jd3), .unset, .unset, .unset] [])) := by
          intro Tj9 hj9 Lj9 vmj9 kj9 Xj9 ej9 Kj9 Oj9 Nj9 hSj9 hkj9 hZj9 hownj9 jc3 jd3 jx3 hA3 hlen3 hdig3 hc3_
          show Go _ _ _ _ (Tj9.setTop (mkF m 247 #[lJ p0, lS, lI p1, lI p2, lI p3, lI (Int32.ofNat nl), lI ((p2 &&& (2147483647 : Int32)) % (5 : Int32)), lI jU, lJ (Int64.ofNat nu), lS, lR b2, lJ jc3, lS, lI jd3, lU, lU, lU] []))
          rw [hc3_]
          show Go _ _ _ _ (Tj9.setTop (mkF m 247 #[lJ p0, lS, lI p1, lI p2, lI p3, lI (Int32.ofNat nl), lI ((p2 &&& (2147483647 : Int32)) % (5 : Int32)), lI jU, lJ (Int64.ofNat nu), lS, lR b2, lJ (Int64.ofNat (own_val jx3)), lS, lI jd3, lU, lU, lU] []))
          refine Go.st (fun _ => XS.iload Xj9.here hx rfl (hb hby at_247) rfl) ?_
          refine Go.st (fun _ => XS.iconst Xj9.here hx rfl (hb hby at_249)) ?_
          show Go _ _ _ _ (Tj9.setTop (mkF m 250 #[lJ p0, lS, lI p1, lI p2, lI p3, lI (Int32.ofNat nl), lI ((p2 &&& (2147483647 : Int32)) % (5 : Int32)), lI jU, lJ (Int64.ofNat nu), lS, lR b2, lJ (Int64.ofNat (own_val jx3)), lS, lI jd3, lU, lU, lU] [(.int (4 : Int32)), (.int (Int32.ofNat nl))]))
          have J10 : ∀ (Tj10 : State) (hj10 : Heap) (Lj10 : List Loc) (vmj10 : Vm) (kj10 : Nat) (Xj10 : Stand p l e room_1 (s.setVm vmj10) m #[(.long p0), (.int p1), (.int p2), (.int p3)] below meth c Tj10 Lj10 1 11) (ej10 : Tj10.heap = hj10) (Kj10 : Keep h0 hj10 []) (Oj10 : Old Z n0 hj10) (Nj10 : Fr n0 Lj10) (hSj10 : s.Since vmj10 kj10) (hkj10 : kj10 ≤ hj10.size) (hZj10 : Z.Warmed39 (s.setVm vmj10).vm) (hownj10 : (s.setVm vmj10).vm.findClass "com/example/vacuum/vacuum/settings/DurationsParsePinLaw" = some m.cls) (jc4 : Int64) (jd4 : Int32) (jx4 : List Int32) (hA4 : Arv Z hj10 b2 k2 .char (Int32.ofNat (nl + 1)) (jx4.map Value.int) (.int (0 : Int32))) (hlen4 : jx4.length = min 5 nl) (hdig4 : own_D jx4) (hc4_ : jc4 = Int64.ofNat (own_val jx4)), Go p.tables e below P (Tj10.setTop (mkF m 282 #[.val (.long p0), .second, .val (.int p1), .val (.int p2), .val (.int p3), .val (.int (Int32.ofNat nl)), .val (.int ((p2 &&& (2147483647 : Int32)) % (5 : Int32))), .val (.int jU), .val (.long (Int64.ofNat nu)), .second, .val (.ref b2), .val (.long jc4), .second, .val (.int jd4), .unset, .unset, .unset] [])) := by
            intro Tj10 hj10 Lj10 vmj10 kj10 Xj10 ej10 Kj10 Oj10 Nj10 hSj10 hkj10 hZj10 hownj10 jc4 jd4 jx4 hA4 hlen4 hdig4 hc4_
            show Go _ _ _ _ (Tj10.setTop (mkF m 282 #[lJ p0, lS, lI p1, lI p2, lI p3, lI (Int32.ofNat nl), lI ((p2 &&& (2147483647 : Int32)) % (5 : Int32)), lI jU, lJ (Int64.ofNat nu), lS, lR b2, lJ jc4, lS, lI jd4, lU, lU, lU] []))
            rw [hc4_]
            show Go _ _ _ _ (Tj10.setTop (mkF m 282 #[lJ p0, lS, lI p1, lI p2, lI p3, lI (Int32.ofNat nl), lI ((p2 &&& (2147483647 : Int32)) % (5 : Int32)), lI jU, lJ (Int64.ofNat nu), lS, lR b2, lJ (Int64.ofNat (own_val jx4)), lS, lI jd4, lU, lU, lU] []))
            refine Go.st (fun _ => XS.iload Xj10.here hx rfl (hb hby at_282) rfl) ?_
            refine Go.st (fun _ => XS.iconst Xj10.here hx rfl (hb hby at_284)) ?_
            show Go _ _ _ _ (Tj10.setTop (mkF m 285 #[lJ p0, lS, lI p1, lI p2, lI p3, lI (Int32.ofNat nl), lI ((p2 &&& (2147483647 : Int32)) % (5 : Int32)), lI jU, lJ (Int64.ofNat nu), lS, lR b2, lJ (Int64.ofNat (own_val jx4)), lS, lI jd4, lU, lU, lU] [(.int (5 : Int32)), (.int (Int32.ofNat nl))]))
            have J11 : ∀ (Tj11 : State) (hj11 : Heap) (Lj11 : List Loc) (vmj11 : Vm) (kj11 : Nat) (Xj11 : Stand p l e room_1 (s.setVm vmj11) m #[(.long p0), (.int p1), (.int p2), (.int p3)] below meth c Tj11 Lj11 1 11) (ej11 : Tj11.heap = hj11) (Kj11 : Keep h0 hj11 []) (Oj11 : Old Z n0 hj11) (Nj11 : Fr n0 Lj11) (hSj11 : s.Since vmj11 kj11) (hkj11 : kj11 ≤ hj11.size) (hZj11 : Z.Warmed39 (s.setVm vmj11).vm) (hownj11 : (s.setVm vmj11).vm.findClass "com/example/vacuum/vacuum/settings/DurationsParsePinLaw" = some m.cls) (jc5 : Int64) (jd5 : Int32) (jx5 : List Int32) (hA5 : Arv Z hj11 b2 k2 .char (Int32.ofNat (nl + 1)) (jx5.map Value.int) (.int (0 : Int32))) (hlen5 : jx5.length = min 6 nl) (hdig5 : own_D jx5) (hc5_ : jc5 = Int64.ofNat (own_val jx5)), Go p.tables e below P (Tj11.setTop (mkF m 317 #[.val (.long p0), .second, .val (.int p1), .val (.int p2), .val (.int p3), .val (.int (Int32.ofNat nl)), .val (.int ((p2 &&& (2147483647 : Int32)) % (5 : Int32))), .val (.int jU), .val (.long (Int64.ofNat nu)), .second, .val (.ref b2), .val (.long jc5), .second, .val (.int jd5), .unset, .unset, .unset] [])) := by
              intro Tj11 hj11 Lj11 vmj11 kj11 Xj11 ej11 Kj11 Oj11 Nj11 hSj11 hkj11 hZj11 hownj11 jc5 jd5 jx5 hA5 hlen5 hdig5 hc5_
              show Go _ _ _ _ (Tj11.setTop (mkF m 317 #[lJ p0, lS, lI p1, lI p2, lI p3, lI (Int32.ofNat nl), lI ((p2 &&& (2147483647 : Int32)) % (5 : Int32)), lI jU, lJ (Int64.ofNat nu), lS, lR b2, lJ jc5, lS, lI jd5, lU, lU, lU] []))
              rw [hc5_]
              show Go _ _ _ _ (Tj11.setTop (mkF m 317 #[lJ p0, lS, lI p1, lI p2, lI p3, lI (Int32.ofNat nl), lI ((p2 &&& (2147483647 : Int32)) % (5 : Int32)), lI jU, lJ (Int64.ofNat nu), lS, lR b2, lJ (Int64.ofNat (own_val jx5)), lS, lI jd5, lU, lU, lU] []))
              refine Go.st (fun _ => XS.iload Xj11.here hx rfl (hb hby at_317) rfl) ?_
              refine Go.st (fun _ => XS.bipush Xj11.here hx rfl (hb hby at_319)) ?_
              show Go _ _ _ _ (Tj11.setTop (mkF m 321 #[lJ p0, lS, lI p1, lI p2, lI p3, lI (Int32.ofNat nl), lI ((p2 &&& (2147483647 : Int32)) % (5 : Int32)), lI jU, lJ (Int64.ofNat nu), lS, lR b2, lJ (Int64.ofNat (own_val jx5)), lS, lI jd5, lU, lU, lU] [(.int (6 : Int32)), (.int (Int32.ofNat nl))]))
              have J12 : ∀ (Tj12 : State) (hj12 : Heap) (Lj12 : List Loc) (vmj12 : Vm) (kj12 : Nat) (Xj12 : Stand p l e room_1 (s.setVm vmj12) m #[(.long p0), (.int p1), (.int p2), (.int p3)] below meth c Tj12 Lj12 1 11) (ej12 : Tj12.heap = hj12) (Kj12 : Keep h0 hj12 []) (Oj12 : Old Z n0 hj12) (Nj12 : Fr n0 Lj12) (hSj12 : s.Since vmj12 kj12) (hkj12 : kj12 ≤ hj12.size) (hZj12 : Z.Warmed39 (s.setVm vmj12).vm) (hownj12 : (s.setVm vmj12).vm.findClass "com/example/vacuum/vacuum/settings/DurationsParsePinLaw" = some m.cls) (jc6 : Int64) (jd6 : Int32) (jx6 : List Int32) (hA6 : Arv Z hj12 b2 k2 .char (Int32.ofNat (nl + 1)) (jx6.map Value.int) (.int (0 : Int32))) (hlen6 : jx6.length = min 7 nl) (hdig6 : own_D jx6) (hc6_ : jc6 = Int64.ofNat (own_val jx6)), Go p.tables e below P (Tj12.setTop (mkF m 355 #[.val (.long p0), .second, .val (.int p1), .val (.int p2), .val (.int p3), .val (.int (Int32.ofNat nl)), .val (.int ((p2 &&& (2147483647 : Int32)) % (5 : Int32))), .val (.int jU), .val (.long (Int64.ofNat nu)), .second, .val (.ref b2), .val (.long jc6), .second, .val (.int jd6), .unset, .unset, .unset] [])) := by
                intro Tj12 hj12 Lj12 vmj12 kj12 Xj12 ej12 Kj12 Oj12 Nj12 hSj12 hkj12 hZj12 hownj12 jc6 jd6 jx6 hA6 hlen6 hdig6 hc6_
                show Go _ _ _ _ (Tj12.setTop (mkF m 355 #[lJ p0, lS, lI p1, lI p2, lI p3, lI (Int32.ofNat nl), lI ((p2 &&& (2147483647 : Int32)) % (5 : Int32)), lI jU, lJ (Int64.ofNat nu), lS, lR b2, lJ jc6, lS, lI jd6, lU, lU, lU] []))
                rw [hc6_]
                show Go _ _ _ _ (Tj12.setTop (mkF m 355 #[lJ p0, lS, lI p1, lI p2, lI p3, lI (Int32.ofNat nl), lI ((p2 &&& (2147483647 : Int32)) % (5 : Int32)), lI jU, lJ (Int64.ofNat nu), lS, lR b2, lJ (Int64.ofNat (own_val jx6)), lS, lI jd6, lU, lU, lU] []))
                refine Go.st (fun _ => XS.iload Xj12.here hx rfl (hb hby at_355) rfl) ?_
                refine Go.st (fun _ => XS.bipush Xj12.here hx rfl (hb hby at_357)) ?_
                show Go _ _ _ _ (Tj12.setTop (mkF m 359 #[lJ p0, lS, lI p1, lI p2, lI p3, lI (Int32.ofNat nl), lI ((p2 &&& (2147483647 : Int32)) % (5 : Int32)), lI jU, lJ (Int64.ofNat nu), lS, lR b2, lJ (Int64.ofNat (own_val jx6)), lS, lI jd6, lU, lU, lU] [(.int (7 : Int32)), (.int (Int32.ofNat nl))]))
                have J13 : ∀ (Tj13 : State) (hj13 : Heap) (Lj13 : List Loc) (vmj13 : Vm) (kj13 : Nat) (Xj13 : Stand p l e room_1 (s.setVm vmj13) m #[(.long p0), (.int p1), (.int p2), (.int p3)] below meth c Tj13 Lj13 1 11) (ej13 : Tj13.heap = hj13) (Kj13 : Keep h0 hj13 []) (Oj13 : Old Z n0 hj13) (Nj13 : Fr n0 Lj13) (hSj13 : s.Since vmj13 kj13) (hkj13 : kj13 ≤ hj13.size) (hZj13 : Z.Warmed39 (s.setVm vmj13).vm) (hownj13 : (s.setVm vmj13).vm.findClass "com/example/vacuum/vacuum/settings/DurationsParsePinLaw" = some m.cls) (jc7 : Int64) (jd7 : Int32) (jx7 : List Int32) (hA7 : Arv Z hj13 b2 k2 .char (Int32.ofNat (nl + 1)) (jx7.map Value.int) (.int (0 : Int32))) (hlen7 : jx7.length = min 8 nl) (hdig7 : own_D jx7) (hc7_ : jc7 = Int64.ofNat (own_val jx7)), Go p.tables e below P (Tj13.setTop (mkF m 393 #[.val (.long p0), .second, .val (.int p1), .val (.int p2), .val (.int p3), .val (.int (Int32.ofNat nl)), .val (.int ((p2 &&& (2147483647 : Int32)) % (5 : Int32))), .val (.int jU), .val (.long (Int64.ofNat nu)), .second, .val (.ref b2), .val (.long jc7), .second, .val (.int jd7), .unset, .unset, .unset] [])) := by
                  intro Tj13 hj13 Lj13 vmj13 kj13 Xj13 ej13 Kj13 Oj13 Nj13 hSj13 hkj13 hZj13 hownj13 jc7 jd7 jx7 hA7 hlen7 hdig7 hc7_
                  show Go _ _ _ _ (Tj13.setTop (mkF m 393 #[lJ p0, lS, lI p1, lI p2, lI p3, lI (Int32.ofNat nl), lI ((p2 &&& (2147483647 : Int32)) % (5 : Int32)), lI jU, lJ (Int64.ofNat nu), lS, lR b2, lJ jc7, lS, lI jd7, lU, lU, lU] []))
                  rw [hc7_]
                  show Go _ _ _ _ (Tj13.setTop (mkF m 393 #[lJ p0, lS, lI p1, lI p2, lI p3, lI (Int32.ofNat nl), lI ((p2 &&& (2147483647 : Int32)) % (5 : Int32)), lI jU, lJ (Int64.ofNat nu), lS, lR b2, lJ (Int64.ofNat (own_val jx7)), lS, lI jd7, lU, lU, lU] []))
                  refine Go.st (fun _ => XS.iload Xj13.here hx rfl (hb hby at_393) rfl) ?_
                  refine Go.st (fun _ => XS.bipush Xj13.here hx rfl (hb hby at_395)) ?_
                  show Go _ _ _ _ (Tj13.setTop (mkF m 397 #[lJ p0, lS, lI p1, lI p2, lI p3, lI (Int32.ofNat nl), lI ((p2 &&& (2147483647 : Int32)) % (5 : Int32)), lI jU, lJ (Int64.ofNat nu), lS, lR b2, lJ (Int64.ofNat (own_val jx7)), lS, lI jd7, lU, lU, lU] [(.int (8 : Int32)), (.int (Int32.ofNat nl))]))
                  have J14 : ∀ (Tj14 : State) (hj14 : Heap) (Lj14 : List Loc) (vmj14 : Vm) (kj14 : Nat) (Xj14 : Stand p l e room_1 (s.setVm vmj14) m #[(.long p0), (.int p1), (.int p2), (.int p3)] below meth c Tj14 Lj14 1 11) (ej14 : Tj14.heap = hj14) (Kj14 : Keep h0 hj14 []) (Oj14 : Old Z n0 hj14) (Nj14 : Fr n0 Lj14) (hSj14 : s.Since vmj14 kj14) (hkj14 : kj14 ≤ hj14.size) (hZj14 : Z.Warmed39 (s.setVm vmj14).vm) (hownj14 : (s.setVm vmj14).vm.findClass "com/example/vacuum/vacuum/settings/DurationsParsePinLaw" = some m.cls) (jc8 : Int64) (jd8 : Int32) (jx8 : List Int32) (hA8 : Arv Z hj14 b2 k2 .char (Int32.ofNat (nl + 1)) (jx8.map Value.int) (.int (0 : Int32))) (hlen8 : jx8.length = min 9 nl) (hdig8 : own_D jx8) (hc8_ : jc8 = Int64.ofNat (own_val jx8)), Go p.tables e below P (Tj14.setTop (mkF m 431 #[.val (.long p0), .second, .val (.int p1), .val (.int p2), .val (.int p3), .val (.int (Int32.ofNat nl)), .val (.int ((p2 &&& (2147483647 : Int32)) % (5 : Int32))), .val (.int jU), .val (.long (Int64.ofNat nu)), .second, .val (.ref b2), .val (.long jc8), .second, .val (.int jd8), .unset, .unset, .unset] [])) := by
                    intro Tj14 hj14 Lj14 vmj14 kj14 Xj14 ej14 Kj14 Oj14 Nj14 hSj14 hkj14 hZj14 hownj14 jc8 jd8 jx8 hA8 hlen8 hdig8 hc8_
                    show Go _ _ _ _ (Tj14.setTop (mkF m 431 #[lJ p0, lS, lI p1, lI p2, lI p3, lI (Int32.ofNat nl), lI ((p2 &&& (2147483647 : Int32)) % (5 : Int32)), lI jU, lJ (Int64.ofNat nu), lS, lR b2, lJ jc8, lS, lI jd8, lU, lU, lU] []))
                    rw [hc8_]
                    show Go _ _ _ _ (Tj14.setTop (mkF m 431 #[lJ p0, lS, lI p1, lI p2, lI p3, lI (Int32.ofNat nl), lI ((p2 &&& (2147483647 : Int32)) % (5 : Int32)), lI jU, lJ (Int64.ofNat nu), lS, lR b2, lJ (Int64.ofNat (own_val jx8)), lS, lI jd8, lU, lU, lU] []))
                    refine Go.st (fun _ => XS.iload Xj14.here hx rfl (hb hby at_431) rfl) ?_
                    refine Go.st (fun _ => XS.bipush Xj14.here hx rfl (hb hby at_433)) ?_
                    show Go _ _ _ _ (Tj14.setTop (mkF m 435 #[lJ p0, lS, lI p1, lI p2, lI p3, lI (Int32.ofNat nl), lI ((p2 &&& (2147483647 : Int32)) % (5 : Int32)), lI jU, lJ (Int64.ofNat nu), lS, lR b2, lJ (Int64.ofNat (own_val jx8)), lS, lI jd8, lU, lU, lU] [(.int (9 : Int32)), (.int (Int32.ofNat nl))]))
                    have J15 : ∀ (Tj15 : State) (hj15 : Heap) (Lj15 : List Loc) (vmj15 : Vm) (kj15 : Nat) (Xj15 : Stand p l e room_1 (s.setVm vmj15) m #[(.long p0), (.int p1), (.int p2), (.int p3)] below meth c Tj15 Lj15 1 11) (ej15 : Tj15.heap = hj15) (Kj15 : Keep h0 hj15 []) (Oj15 : Old Z n0 hj15) (Nj15 : Fr n0 Lj15) (hSj15 : s.Since vmj15 kj15) (hkj15 : kj15 ≤ hj15.size) (hZj15 : Z.Warmed39 (s.setVm vmj15).vm) (hownj15 : (s.setVm vmj15).vm.findClass "com/example/vacuum/vacuum/settings/DurationsParsePinLaw" = some m.cls) (jc9 : Int64) (jd9 : Int32) (jx9 : List Int32) (hA9 : Arv Z hj15 b2 k2 .char (Int32.ofNat (nl + 1)) (jx9.map Value.int) (.int (0 : Int32))) (hlen9 : jx9.length = min 10 nl) (hdig9 : own_D jx9) (hc9_ : jc9 = Int64.ofNat (own_val jx9)), Go p.tables e below P (Tj15.setTop (mkF m 469 #[.val (.long p0), .second, .val (.int p1), .val (.int p2), .val (.int p3), .val (.int (Int32.ofNat nl)), .val (.int ((p2 &&& (2147483647 : Int32)) % (5 : Int32))), .val (.int jU), .val (.long (Int64.ofNat nu)), .second, .val (.ref b2), .val (.long jc9), .second, .val (.int jd9), .unset, .unset, .unset] [])) := by
                      intro Tj15 hj15 Lj15 vmj15 kj15 Xj15 ej15 Kj15 Oj15 Nj15 hSj15 hkj15 hZj15 hownj15 jc9 jd9 jx9 hA9 hlen9 hdig9 hc9_
                      show Go _ _ _ _ (Tj15.setTop (mkF m 469 #[lJ p0, lS, lI p1, lI p2, lI p3, lI (Int32.ofNat nl), lI ((p2 &&& (2147483647 : Int32)) % (5 : Int32)), lI jU, lJ (Int64.ofNat nu), lS, lR b2, lJ jc9, lS, lI jd9, lU, lU, lU] []))
                      rw [hc9_]
                      show Go _ _ _ _ (Tj15.setTop (mkF m 469 #[lJ p0, lS, lI p1, lI p2, lI p3, lI (Int32.ofNat nl), lI ((p2 &&& (2147483647 : Int32)) % (5 : Int32)), lI jU, lJ (Int64.ofNat nu), lS, lR b2, lJ (Int64.ofNat (own_val jx9)), lS, lI jd9, lU, lU, lU] []))
                      refine Go.st (fun _ => XS.aload Xj15.here hx rfl (hb hby at_469) rfl rfl) ?_
                      refine Go.st (fun _ => XS.iload Xj15.here hx rfl (hb hby at_471) rfl) ?_
                      refine Go.st (fun _ => XS.iload Xj15.here hx rfl (hb hby at_473) rfl) ?_
                      show Go _ _ _ _ (Tj15.setTop (mkF m 475 #[lJ p0, lS, lI p1, lI p2, lI p3, lI (Int32.ofNat nl), lI ((p2 &&& (2147483647 : Int32)) % (5 : Int32)), lI jU, lJ (Int64.ofNat nu), lS, lR b2, lJ (Int64.ofNat (own_val jx9)), lS, lI jd9, lU, lU, lU] [(.int jU), (.int (Int32.ofNat nl)), (.ref b2)]))
                      have P16 : Arv Z hj15 b2 k2 .char (Int32.ofNat (nl + 1)) ((jx9 ++ [0]).map Value.int) (.int (0 : Int32)) := Arv.pad hA9 (own_pad0 jx9)
                      obtain ⟨T16, h16, X16, e16, W16, V16, st16⟩ := own_stC Xj15 hx hZj15 ej15 P16 (j := (Int32.ofNat nl)) (i := jx9.length) ⟨own_nneg (by omega), own_ltN (by omega) (by omega)⟩ (by rw [own_clamp (by omega)]; omega) (own_pad1 jx9) (g := (mkF m 475 #[.val (.long p0), .second, .val (.int p1), .val (.int p2), .val (.int p3), .val (.int (Int32.ofNat nl)), .val (.int ((p2 &&& (2147483647 : Int32)) % (5 : Int32))), .val (.int jU), .val (.long (Int64.ofNat nu)), .second, .val (.ref b2), .val (.long (Int64.ofNat (own_val jx9))), .second, .val (.int jd9), .unset, .unset, .unset] [(.int jU), (.int (Int32.ofNat nl)), (.ref b2)])) rfl rfl (hb hby at_475)
                      refine Go.st st16 ?_
                      rw [show nar .char jU = jU from (own_narC (own_U_b hU).2.2)] at V16
                      have K16 : Keep h0 h16 [] := Kj15.wr W16 (Or.inr sz_b2)
                      have O16 := Oj15.wr W16 g_b2
                      have N16 := Fr.snoc X16 Nj15 g_b2
                      have V16' : Arv Z h16 b2 k2 .char (Int32.ofNat (nl + 1)) ((jx9 ++ [jU]).map Value.int) (.int (0 : Int32)) := by rw [← own_setlast]; exact V16
                      show Go _ _ _ _ (T16.setTop (mkF m 476 #[lJ p0, lS, lI p1, lI p2, lI p3, lI (Int32.ofNat nl), lI ((p2 &&& (2147483647 : Int32)) % (5 : Int32)), lI jU, lJ (Int64.ofNat nu), lS, lR b2, lJ (Int64.ofNat (own_val jx9)), lS, lI jd9, lU, lU, lU] []))
                      refine Go.st (fun _ => XS.lload X16.here hx rfl (hb hby at_476) rfl) ?_
                      refine Go.st (fun _ => XS.lload X16.here hx rfl (hb hby at_478) rfl) ?_
                      show Go _ _ _ _ (T16.setTop (mkF m 480 #[lJ p0, lS, lI p1, lI p2, lI p3, lI (Int32.ofNat nl), lI ((p2 &&& (2147483647 : Int32)) % (5 : Int32)), lI jU, lJ (Int64.ofNat nu), lS, lR b2, lJ (Int64.ofNat (own_val jx9)), lS, lI jd9, lU, lU, lU] [(.long (Int64.ofNat nu)), (.long (Int64.ofNat (own_val jx9)))]))
                      refine Go.st (fun _ => XS.lmul X16.here hx rfl (hb hby at_480) rfl) ?_
                      show Go _ _ _ _ (T16.setTop (mkF m 481 #[lJ p0, lS, lI p1, lI p2, lI p3, lI (Int32.ofNat nl), lI ((p2 &&& (2147483647 : Int32)) % (5 : Int32)), lI jU, lJ (Int64.ofNat nu), lS, lR b2, lJ (Int64.ofNat (own_val jx9)), lS, lI jd9, lU, lU, lU] [(.long ((Int64.ofNat (own_val jx9)) * (Int64.ofNat nu)))]))
                      rw [show ((Int64.ofNat (own_val jx9)) * (Int64.ofNat nu)) = (Int64.ofNat (own_val jx9 * nu)) from own_mul64 _ _]
                      show Go _ _ _ _ (T16.setTop (mkF m 481 #[lJ p0, lS, lI p1, lI p2, lI p3, lI (Int32.ofNat nl), lI ((p2 &&& (2147483647 : Int32)) % (5 : Int32)), lI jU, lJ (Int64.ofNat nu), lS, lR b2, lJ (Int64.ofNat (own_val jx9)), lS, lI jd9, lU, lU, lU] [(.long (Int64.ofNat (own_val jx9 * nu)))]))
                      refine Go.st (fun _ => XS.lstore X16.here hx rfl (hb hby at_481) rfl (l' := #[.val (.long p0), .second, .val (.int p1), .val (.int p2), .val (.int p3), .val (.int (Int32.ofNat nl)), .val (.int ((p2 &&& (2147483647 : Int32)) % (5 : Int32))), .val (.int jU), .val (.long (Int64.ofNat nu)), .second, .val (.ref b2), .val (.long (Int64.ofNat (own_val jx9))), .second, .val (.long (Int64.ofNat (own_val jx9 * nu))), .second, .unset, .unset]) rfl) ?_
                      show Go _ _ _ _ (T16.setTop (mkF m 483 #[lJ p0, lS, lI p1, lI p2, lI p3, lI (Int32.ofNat nl), lI ((p2 &&& (2147483647 : Int32)) % (5 : Int32)), lI jU, lJ (Int64.ofNat nu), lS, lR b2, lJ (Int64.ofNat (own_val jx9)), lS, lJ (Int64.ofNat (own_val jx9 * nu)), lS, lU, lU] []))
                      refine Go.st (fun _ => XS.lload X16.here hx rfl (hb hby at_483) rfl) ?_
                      show Go _ _ _ _ (T16.setTop (mkF m 485 #[lJ p0, lS, lI p1, lI p2, lI p3, lI (Int32.ofNat nl), lI ((p2 &&& (2147483647 : Int32)) % (5 : Int32)), lI jU, lJ (Int64.ofNat nu), lS, lR b2, lJ (Int64.ofNat (own_val jx9)), lS, lJ (Int64.ofNat (own_val jx9 * nu)), lS, lU, lU] [(.long (Int64.ofNat (own_val jx9 * nu)))]))
                      refine Go.st (fun _ => X16.ldc2Long hx hownj15 (mvT hZj15 (ow hw 9 rfl)) (g := (mkF m 485 #[.val (.long p0), .second, .val (.int p1), .val (.int p2), .val (.int p3), .val (.int (Int32.ofNat nl)), .val (.int ((p2 &&& (2147483647 : Int32)) % (5 : Int32))), .val (.int jU), .val (.long (Int64.ofNat nu)), .second, .val (.ref b2), .val (.long (Int64.ofNat (own_val jx9))), .second, .val (.long (Int64.ofNat (own_val jx9 * nu))), .second, .unset, .unset] [(.long (Int64.ofNat (own_val jx9 * nu)))])) rfl (hb hby at_485) _) ?_
                      show Go _ _ _ _ (T16.setTop (mkF m 488 #[lJ p0, lS, lI p1, lI p2, lI p3, lI (Int32.ofNat nl), lI ((p2 &&& (2147483647 : Int32)) % (5 : Int32)), lI jU, lJ (Int64.ofNat nu), lS, lR b2, lJ (Int64.ofNat (own_val jx9)), lS, lJ (Int64.ofNat (own_val jx9 * nu)), lS, lU, lU] [(.long (3155760000 : Int64)), (.long (Int64.ofNat (own_val jx9 * nu)))]))
                      refine Go.st (fun _ => XS.lcmp X16.here hx rfl (hb hby at_488) rfl) ?_
                      show Go _ _ _ _ (T16.setTop (mkF m 489 #[lJ p0, lS, lI p1, lI p2, lI p3, lI (Int32.ofNat nl), lI ((p2 &&& (2147483647 : Int32)) % (5 : Int32)), lI jU, lJ (Int64.ofNat nu), lS, lR b2, lJ (Int64.ofNat (own_val jx9)), lS, lJ (Int64.ofNat (own_val jx9 * nu)), lS, lU, lU] [(.int (lcmpW (Int64.ofNat (own_val jx9 * nu)) (3155760000 : Int64)))]))
                      by_cases hc17 : (0 : Int32) < (lcmpW (Int64.ofNat (own_val jx9 * nu)) (3155760000 : Int64))
                      · skip
                        refine Go.st (fun _ => XS.ifNo X16.here hx rfl (hb hby at_489) rfl ((if0 _ _).trans (tlt hc17).2.2.2)) ?_
                        show Go _ _ _ _ (T16.setTop (mkF m 492 #[lJ p0, lS, lI p1, lI p2, lI p3, lI (Int32.ofNat nl), lI ((p2 &&& (2147483647 : Int32)) % (5 : Int32)), lI jU, lJ (Int64.ofNat nu), lS, lR b2, lJ (Int64.ofNat (own_val jx9)), lS, lJ (Int64.ofNat (own_val jx9 * nu)), lS, lU, lU] []))
                        refine Go.st (fun _ => XS.iconst X16.here hx rfl (hb hby at_492)) ?_
                        show Go _ _ _ _ (T16.setTop (mkF m 493 #[lJ p0, lS, lI p1, lI p2, lI p3, lI (Int32.ofNat nl), lI ((p2 &&& (2147483647 : Int32)) % (5 : Int32)), lI jU, lJ (Int64.ofNat nu), lS, lR b2, lJ (Int64.ofNat (own_val jx9)), lS, lJ (Int64.ofNat (own_val jx9 * nu)), lS, lU, lU] [(.int (1 : Int32))]))
                        obtain ⟨fs, hr, hrun, hended, -, hW, hpair, hsame⟩ := X16.leaveW hSj15 (by rw [e16]; exact (Nat.le_trans hkj15 (Keep.of_wr W16).1)) (v := some (.int (1 : Int32))) (fun h => by rw [Bd.returns] at h; cases h)
                        refine ⟨_, ?_, hPend _ _ hrun hended ⟨_, _, rfl, ?_, ⟨_, rfl⟩, hW, hpair, hsame.mono (by decide) (by decide)⟩⟩
                        · exact retN X16 hx (t := .boolean) Bd.returns (by simp) (hb hby at_493) hr
                        · show Q_rm_law Z _ _ _ _ _ _ _ _ h0 n0 _ T16.heap _
                          rw [e16]
                          exact ⟨rfl, N16, K16⟩
                      · skip
                        have hsec := own_secle (own_val_lt hdig9 (by omega)) (own_U_b hU).2.1 hc17
                        refine Go.st (fun _ => XS.ifYes X16.here hx rfl (pc0 := 489) (pc' := 494) rfl (hb hby at_489) rfl ((if0 _ _).trans (flt hc17).2.2.2) (by decide) (by decide)) ?_
                        show Go _ _ _ _ (T16.setTop (mkF m 494 #[lJ p0, lS, lI p1, lI p2, lI p3, lI (Int32.ofNat nl), lI ((p2 &&& (2147483647 : Int32)) % (5 : Int32)), lI jU, lJ (Int64.ofNat nu), lS, lR b2, lJ (Int64.ofNat (own_val jx9)), lS, lJ (Int64.ofNat (own_val jx9 * nu)), lS, lU, lU] []))
                        refine Go.st (fun _ => XS.iload X16.here hx rfl (hb hby at_494) rfl) ?_
                        refine Go.st (fun _ => XS.sipush X16.here hx rfl (hb hby at_496)) ?_
                        show Go _ _ _ _ (T16.setTop (mkF m 499 #[lJ p0, lS, lI p1, lI p2, lI p3, lI (Int32.ofNat nl), lI ((p2 &&& (2147483647 : Int32)) % (5 : Int32)), lI jU, lJ (Int64.ofNat nu), lS, lR b2, lJ (Int64.ofNat (own_val jx9)), lS, lJ (Int64.ofNat (own_val jx9 * nu)), lS, lU, lU] [(.int (255 : Int32)), (.int p3)]))
                        refine Go.st (fun _ => XS.iand X16.here hx rfl (hb hby at_499) rfl) ?_
                        show Go _ _ _ _ (T16.setTop (mkF m 500 #[lJ p0, lS, lI p1, lI p2, lI p3, lI (Int32.ofNat nl), lI ((p2 &&& (2147483647 : Int32)) % (5 : Int32)), lI jU, lJ (Int64.ofNat nu), lS, lR b2, lJ (Int64.ofNat (own_val jx9)), lS, lJ (Int64.ofNat (own_val jx9 * nu)), lS, lU, lU] [(.int (p3 &&& (255 : Int32)))]))
                        refine Go.st (fun _ => XS.i2c X16.here hx rfl (hb hby at_500) rfl) ?_
                        show Go _ _ _ _ (T16.setTop (mkF m 501 #[lJ p0, lS, lI p1, lI p2, lI p3, lI (Int32.ofNat nl), lI ((p2 &&& (2147483647 : Int32)) % (5 : Int32)), lI jU, lJ (Int64.ofNat nu), lS, lR b2, lJ (Int64.ofNat (own_val jx9)), lS, lJ (Int64.ofNat (own_val jx9 * nu)), lS, lU, lU] [(.int ((p3 &&& (255 : Int32)).toUInt32.toUInt16.toUInt32.toInt32))]))
                        rw [i2c_mask]
                        show Go _ _ _ _ (T16.setTop (mkF m 501 #[lJ p0, lS, lI p1, lI p2, lI p3, lI (Int32.ofNat nl), lI ((p2 &&& (2147483647 : Int32)) % (5 : Int32)), lI jU, lJ (Int64.ofNat nu), lS, lR b2, lJ (Int64.ofNat (own_val jx9)), lS, lJ (Int64.ofNat (own_val jx9 * nu)), lS, lU, lU] [(.int (p3 &&& (255 : Int32)))]))
                        obtain ⟨_, _, ⟨T18, L18, k18, n18⟩, -, X18, ⟨Lc18, hQ18, l18, y18, z18⟩, st18⟩ := Jvm.LawKit.callS X16 hx (y := (⟨"java/lang/String", "valueOf", "(C)Ljava/lang/String;"⟩ : MethodName)) hownj15 (mvT hZj15 (ow hw 10 rfl)) (mvT hZj15 (ow hw 11 rfl)) (mvT hZj15 (ow hw 12 rfl)) (mvT hZj15 (ow hw 13 rfl)) (by decide) (backOf (W := 0) (rm_valOf l Z a0 hw [] g_CS S_CS nz_CS (p3 &&& (255 : Int32)) h16 n0 O16 (own_and255 _)) hZj15 (ow hw 13 rfl) (ow hw 12 rfl) (by decide) (by decide)) (g := (mkF m 501 #[.val (.long p0), .second, .val (.int p1), .val (.int p2), .val (.int p3), .val (.int (Int32.ofNat nl)), .val (.int ((p2 &&& (2147483647 : Int32)) % (5 : Int32))), .val (.int jU), .val (.long (Int64.ofNat nu)), .second, .val (.ref b2), .val (.long (Int64.ofNat (own_val jx9))), .second, .val (.long (Int64.ofNat (own_val jx9 * nu))), .second, .unset, .unset] [(.int (p3 &&& (255 : Int32)))])) rfl (by rw [hml]; rfl) (argsL := [(.int (p3 &&& (255 : Int32)))]) (rest := []) (lenOf own_pd12 rfl) rfl (by show 2 * 0 + _ ≤ _; exact Nat.le_of_eq rfl) (hb hby at_501) (fun _ _ => ⟨rfl, e16, (by decide : 1 + 2 ≤ _), (by decide : 11 + 5 ≤ _)⟩)
                        dsimp only [Pt.U, Pt.locs, Pt.cells, Pt.slots] at X18 l18 y18 z18 st18 hQ18
                        subst y18 z18
                        refine Go.st st18 ?_
                        obtain ⟨ob_19, vb_20, kb_21, rfl, N18q, K18q, q18_0, q18_1, q18_2, q18_3, q18_4, q18_5⟩ := hQ18
                        have N18 : Fr n0 L18 := by rw [l18]; exact Fr.app N16 N18q
                        have O18 := O16.keep K18q all0
                        have K18 : Keep h0 T18.heap [] := K16.trans K18q all0
                        have sz_ob_19 : h0.size ≤ ob_19 := Nat.le_trans K16.1 q18_0
                        have g_ob_19 : n0 ≤ ob_19 := Nat.le_trans (own_oldsz X00) sz_ob_19
                        have sz_vb_20 : h0.size ≤ vb_20 := Nat.le_trans K16.1 q18_1
                        have g_vb_20 : n0 ≤ vb_20 := Nat.le_trans (own_oldsz X00) sz_vb_20
                        show Go _ _ _ _ (T18.setTop (mkF m 504 #[lJ p0, lS, lI p1, lI p2, lI p3, lI (Int32.ofNat nl), lI ((p2 &&& (2147483647 : Int32)) % (5 : Int32)), lI jU, lJ (Int64.ofNat nu), lS, lR b2, lJ (Int64.ofNat (own_val jx9)), lS, lJ (Int64.ofNat (own_val jx9 * nu)), lS, lU, lU] [(.ref ob_19)]))
                        refine Go.st (fun _ => XS.astore X18.here hx rfl (hb hby at_504) rfl rfl (l' := #[.val (.long p0), .second, .val (.int p1), .val (.int p2), .val (.int p3), .val (.int (Int32.ofNat nl)), .val (.int ((p2 &&& (2147483647 : Int32)) % (5 : Int32))), .val (.int jU), .val (.long (Int64.ofNat nu)), .second, .val (.ref b2), .val (.long (Int64.ofNat (own_val jx9))), .second, .val (.long (Int64.ofNat (own_val jx9 * nu))), .second, .val (.ref ob_19), .unset]) rfl) ?_
                        show Go _ _ _ _ (T18.setTop (mkF m 506 #[lJ p0, lS, lI p1, lI p2, lI p3, lI (Int32.ofNat nl), lI ((p2 &&& (2147483647 : Int32)) % (5 : Int32)), lI jU, lJ (Int64.ofNat nu), lS, lR b2, lJ (Int64.ofNat (own_val jx9)), lS, lJ (Int64.ofNat (own_val jx9 * nu)), lS, lR ob_19, lU] []))
                        refine Go.st (fun _ => XS.aload X18.here hx rfl (hb hby at_506) rfl rfl) ?_
                        show Go _ _ _ _ (T18.setTop (mkF m 508 #[lJ p0, lS, lI p1, lI p2, lI p3, lI (Int32.ofNat nl), lI ((p2 &&& (2147483647 : Int32)) % (5 : Int32)), lI jU, lJ (Int64.ofNat nu), lS, lR b2, lJ (Int64.ofNat (own_val jx9)), lS, lJ (Int64.ofNat (own_val jx9 * nu)), lS, lR ob_19, lU] [(.ref ob_19)]))
                        have c23 := (V16'.keep K18q nin0)
                        obtain ⟨T22, h22, X22, e22, E22, A22, D22, -, st22⟩ := newO X18 hx hZj15 hownj15 (ow hw 36 rfl) (ow hw 20 rfl) (ow hw 12 rfl) rfl (g := (mkF m 508 #[.val (.long p0), .second, .val (.int p1), .val (.int p2), .val (.int p3), .val (.int (Int32.ofNat nl)), .val (.int ((p2 &&& (2147483647 : Int32)) % (5 : Int32))), .val (.int jU), .val (.long (Int64.ofNat nu)), .second, .val (.ref b2), .val (.long (Int64.ofNat (own_val jx9))), .second, .val (.long (Int64.ofNat (own_val jx9 * nu))), .second, .val (.ref ob_19), .unset] [(.ref ob_19)])) rfl (hb hby at_508) (by decide) (by decide)
                        obtain ⟨b22, g22⟩ : ∃ z, z = T18.heap.size := ⟨_, rfl⟩
                        rw [← g22] at A22 D22 st22
                        refine Go.st st22 ?_
                        have g_b22 : n0 ≤ b22 := Nat.le_trans (own_oldsz O18) (Nat.le_of_eq g22.symm)
                        have sz_b22 : h0.size ≤ b22 := Nat.le_trans K18.1 (Nat.le_of_eq g22.symm)
                        have K22 : Keep h0 h22 [] := K18.ext E22
                        have O22 := O18.ext E22
                        have F24 : Fld Z h22 b22 "java/lang/String" "value" "[B" .null := D22 (Or.inr (ow hw 33 rfl)) (ty := (.array .byte)) (by decide)
                        have F25 : Fld Z h22 b22 "java/lang/String" "coder" "B" (.int (0 : Int32)) := D22 (Or.inr (ow hw 35 rfl)) (ty := .byte) (by decide)
                        show Go _ _ _ _ (T22.setTop (mkF m 511 #[lJ p0, lS, lI p1, lI p2, lI p3, lI (Int32.ofNat nl), lI ((p2 &&& (2147483647 : Int32)) % (5 : Int32)), lI jU, lJ (Int64.ofNat nu), lS, lR b2, lJ (Int64.ofNat (own_val jx9)), lS, lJ (Int64.ofNat (own_val jx9 * nu)), lS, lR ob_19, lU] [(.ref b22), (.ref ob_19)]))
                        refine Go.st (fun _ => XS.dup X22.here hx rfl (hb hby at_511) rfl rfl) ?_
                        refine Go.st (fun _ => XS.aload X22.here hx rfl (hb hby at_512) rfl rfl) ?_
                        show Go _ _ _ _ (T22.setTop (mkF m 514 #[lJ p0, lS, lI p1, lI p2, lI p3, lI (Int32.ofNat nl), lI ((p2 &&& (2147483647 : Int32)) % (5 : Int32)), lI jU, lJ (Int64.ofNat nu), lS, lR b2, lJ (Int64.ofNat (own_val jx9)), lS, lJ (Int64.ofNat (own_val jx9 * nu)), lS, lR ob_19, lU] [(.ref b2), (.ref b22), (.ref b22), (.ref ob_19)]))
                        have c27 := (c23.ext E22)
                        have hp26 : ∀ c ∈ (jx9 ++ [jU]), ¬ c < 0 ∧ ¬ (255 : Int32) < c := by
                          exact own_smallD hdig9 hU
                        have c28 := (q18_2.ext E22)
                        have c29 := (q18_5.ext E22)
                        obtain ⟨_, _, ⟨T26, L26, k26, n26⟩, -, X26, ⟨Lc26, hQ26, l26, y26, z26⟩, st26⟩ := X22.specialBack hx (y := (⟨"java/lang/String", "<init>", "([C)V"⟩ : MethodName)) rfl hownj15 (mvT hZj15 (ow hw 37 rfl)) (mvT hZj15 (ow hw 38 rfl)) (mvT hZj15 (ow hw 39 rfl)) (by decide) (StrChars.Road.backV (W := 2) hZj15 (fun d hd => hw d (own_wNew d hd)) (kI := 4) (ow hw 20 rfl) (cs := (jx9 ++ [jU])) (bs := ((jx9 ++ [jU])).map (fun c => c.toInt8.toInt32)) (n := (nl + 1)) g_b22 (own_oldsz O22) A22 F24 F25 c27 (S_CS.ext O22.2) nz_CS (by simp only [List.length_append, List.length_singleton]; omega) rfl (by omega) (by omega) hp26 rfl (by decide) (by decide)) (g := (mkF m 514 #[.val (.long p0), .second, .val (.int p1), .val (.int p2), .val (.int p3), .val (.int (Int32.ofNat nl)), .val (.int ((p2 &&& (2147483647 : Int32)) % (5 : Int32))), .val (.int jU), .val (.long (Int64.ofNat nu)), .second, .val (.ref b2), .val (.long (Int64.ofNat (own_val jx9))), .second, .val (.long (Int64.ofNat (own_val jx9 * nu))), .second, .val (.ref ob_19), .unset] [(.ref b2), (.ref b22), (.ref b22), (.ref ob_19)])) rfl (by rw [hml]; rfl) (Steps.refl _) (a := b22) (argsL := [(.ref b2)]) (rest := [(.ref b22), (.ref ob_19)]) (lenOf own_pd13 rfl) rfl (by show 2 * 0 + _ ≤ _; exact Nat.le_of_eq rfl) (hb hby at_514) (fun _ _ => ⟨rfl, e22, (by decide : 4 + 1 ≤ _), (Nat.le_trans (show 20 + (nl + 1) ≤ 31 from by omega) (by decide : 31 ≤ _))⟩)
                        dsimp only [Pt.U, Pt.locs, Pt.cells, Pt.slots] at X26 l26 y26 z26 st26 hQ26
                        subst y26 z26
                        refine Go.tr st26 ?_
                        obtain ⟨rfl, N26q, K26q, E26x, C26x, t26, kb26, gt26, szt26, net26, V26x, A26x⟩ := hQ26
                        have N26 : Fr n0 L26 := by rw [l26]; exact Fr.app N18 N26q
                        have XM26 := X26.more (Nat.le_refl _) (show 20 + (nl + 1) ≤ 31 from by omega)
                        have O26 := O22.keep K26q (allS g_b22 all0)
                        have K26 : Keep h0 T26.heap [] := K22.trans K26q (allS (Or.inr sz_b22) all0)
                        have sz_t26 : h0.size ≤ t26 := Nat.le_trans K22.1 szt26
                        show Go _ _ _ _ (T26.setTop (mkF m 517 #[lJ p0, lS, lI p1, lI p2, lI p3, lI (Int32.ofNat nl), lI ((p2 &&& (2147483647 : Int32)) % (5 : Int32)), lI jU, lJ (Int64.ofNat nu), lS, lR b2, lJ (Int64.ofNat (own_val jx9)), lS, lJ (Int64.ofNat (own_val jx9 * nu)), lS, lR ob_19, lU] [(.ref b22), (.ref ob_19)]))
                        have c31 := (c27.keep K26q (ninS (Nat.ne_of_lt (Nat.lt_of_lt_of_le c23.lt (Nat.le_of_eq g22.symm))) nin0))
                        have c32 := (c28.keep K26q)
                        have c33 := (c29.keep K26q (ninS (Nat.ne_of_lt (Nat.lt_of_lt_of_le q18_5.lt (Nat.le_of_eq g22.symm))) nin0))
                        obtain ⟨_, _, ⟨T30, L30, k30, n30⟩, -, X30, hS30, hg30, ⟨Lc30, hQ30, l30, y30, z30⟩, st30⟩ := Jvm.RoadKit.callSS XM26 hx (y := (⟨"com/example/vacuum/vacuum/settings/Durations", "parse", "(Ljava/lang/String;Ljava/lang/String;)Ljava/time/Duration;"⟩ : MethodName)) hownj15 (mvT hZj15 (ow hw 53 rfl)) (mvT hZj15 (ow hw 54 rfl)) (mvT hZj15 (ow hw 55 rfl)) (mvT hZj15 (ow hw 56 rfl)) (by decide) (backOfS (W := 0) (rm_parse l Z a0 hw [] w_MX S_MX X_MX I_MX_seconds w_ZR S_ZR X_ZR I_ZR_seconds I_ZR_nanos g_CS S_CS nz_CS g_SF S_SF r_SF ob_19 b22 jx9 jU nu t26 kb26 T26.heap n0 O26 E26x C26x V26x (own_arvN (by simp only [List.length_append, List.length_singleton]; omega) A26x) hp26 (by rw [show (jx9 ++ [jU]).length = (nl + 1) from (by simp only [List.length_append, List.length_singleton]; omega)]; omega) hU hdig9 (by omega) (by omega) hsec) hZj15 (ow hw 56 rfl) (ow hw 55 rfl) (by decide) (by decide)) (g := (mkF m 517 #[.val (.long p0), .second, .val (.int p1), .val (.int p2), .val (.int p3), .val (.int (Int32.ofNat nl)), .val (.int ((p2 &&& (2147483647 : Int32)) % (5 : Int32))), .val (.int jU), .val (.long (Int64.ofNat nu)), .second, .val (.ref b2), .val (.long (Int64.ofNat (own_val jx9))), .second, .val (.long (Int64.ofNat (own_val jx9 * nu))), .second, .val (.ref ob_19), .unset] [(.ref b22), (.ref ob_19)])) rfl (by rw [hml]; rfl) (argsL := [(.ref ob_19), (.ref b22)]) (rest := []) (lenOf own_pd14 rfl) rfl (by show 2 * 0 + _ ≤ _; exact Nat.le_of_eq rfl) (hb hby at_517) (fun _ _ => ⟨rfl, rfl, (by decide : 5 + 5 ≤ _), (by decide : 31 + 42 ≤ _)⟩)
                        dsimp only [Pt.U, Pt.locs, Pt.cells, Pt.slots] at X30 l30 y30 z30 st30 hQ30 hS30 hg30
                        subst y30 z30
                        refine Go.tr st30 ?_
                        obtain ⟨XX30, hSS30, hZ30, hown30⟩ := rebS hSj15 (Nat.le_trans (Nat.le_trans (Nat.le_trans (Nat.le_trans hkj15 (Keep.of_wr W16).1) K18q.1) E22.1) K26q.1) X30 hS30 hg30 hZj15 hownj15
                        obtain ⟨ob_34, rfl, N30q, K30q, q30_0, q30_1, q30_2⟩ := hQ30
                        have N30 : Fr n0 L30 := by rw [l30]; exact Fr.app N26 N30q
                        have O30 := O26.keep K30q all0
                        have K30 : Keep h0 T30.heap [] := K26.trans K30q all0
                        show Go _ _ _ _ (T30.setTop (mkF m 520 #[lJ p0, lS, lI p1, lI p2, lI p3, lI (Int32.ofNat nl), lI ((p2 &&& (2147483647 : Int32)) % (5 : Int32)), lI jU, lJ (Int64.ofNat nu), lS, lR b2, lJ (Int64.ofNat (own_val jx9)), lS, lJ (Int64.ofNat (own_val jx9 * nu)), lS, lR ob_19, lU] [(.ref ob_34)]))
                        refine Go.st (fun _ => XS.astore XX30.here hx rfl (hb hby at_520) rfl rfl (l' := #[.val (.long p0), .second, .val (.int p1), .val (.int p2), .val (.int p3), .val (.int (Int32.ofNat nl)), .val (.int ((p2 &&& (2147483647 : Int32)) % (5 : Int32))), .val (.int jU), .val (.long (Int64.ofNat nu)), .second, .val (.ref b2), .val (.long (Int64.ofNat (own_val jx9))), .second, .val (.long (Int64.ofNat (own_val jx9 * nu))), .second, .val (.ref ob_19), .val (.ref ob_34)]) rfl) ?_
                        show Go _ _ _ _ (T30.setTop (mkF m 522 #[lJ p0, lS, lI p1, lI p2, lI p3, lI (Int32.ofNat nl), lI ((p2 &&& (2147483647 : Int32)) % (5 : Int32)), lI jU, lJ (Int64.ofNat nu), lS, lR b2, lJ (Int64.ofNat (own_val jx9)), lS, lJ (Int64.ofNat (own_val jx9 * nu)), lS, lR ob_19, lR ob_34] []))
                        refine Go.st (fun _ => XS.aload XX30.here hx rfl (hb hby at_522) rfl rfl) ?_
                        show Go _ _ _ _ (T30.setTop (mkF m 524 #[lJ p0, lS, lI p1, lI p2, lI p3, lI (Int32.ofNat nl), lI ((p2 &&& (2147483647 : Int32)) % (5 : Int32)), lI jU, lJ (Int64.ofNat nu), lS, lR b2, lJ (Int64.ofNat (own_val jx9)), lS, lJ (Int64.ofNat (own_val jx9 * nu)), lS, lR ob_19, lR ob_34] [(.ref ob_34)]))
                        obtain ⟨cq35, kq35, q35a, q35b, q35c⟩ := isOf hZ30 rfl q30_0
                        obtain ⟨_, _, ⟨T35, L35, k35, n35⟩, -, X35, ⟨Lc35, hQ35, l35, y35, z35⟩, st35⟩ := XX30.virtualBack hx (y := (⟨"java/time/Duration", "getSeconds", "()J"⟩ : MethodName)) (z := (⟨"java/time/Duration", "getSeconds", "()J"⟩ : MethodName)) hown30 (mvT hZ30 (ow hw 126 rfl)) (mvT hZ30 (ow hw 103 rfl)) (notFace_of_selects (args := #[]) (mvT hZ30 (ow hw 105 rfl))) (mvT hZ30 (ow hw 105 rfl)) (mvT hZ30 (ow hw 104 rfl)) (by decide) (backOf (W := 0) (rm_gsec l Z a0 hw [] ob_34 (Int64.ofNat (own_val jx9 * nu)) T30.heap n0 O30 q30_1) hZ30 (ow hw 107 rfl) (ow hw 106 rfl) (by decide) (by decide)) q35a q35c (g := (mkF m 524 #[.val (.long p0), .second, .val (.int p1), .val (.int p2), .val (.int p3), .val (.int (Int32.ofNat nl)), .val (.int ((p2 &&& (2147483647 : Int32)) % (5 : Int32))), .val (.int jU), .val (.long (Int64.ofNat nu)), .second, .val (.ref b2), .val (.long (Int64.ofNat (own_val jx9))), .second, .val (.long (Int64.ofNat (own_val jx9 * nu))), .second, .val (.ref ob_19), .val (.ref ob_34)] [(.ref ob_34)])) rfl (by rw [hml]; rfl) (Steps.refl _) (argsL := []) (rest := []) (lenOf own_pd9 rfl) rfl (by show 2 * 0 + _ ≤ _; exact Nat.le_of_eq rfl) (hb hby at_524) (fun _ _ => ⟨rfl, rfl, (by decide : 10 + 0 ≤ _), (by decide : 73 + 0 ≤ _)⟩)
                        dsimp only [Pt.U, Pt.locs, Pt.cells, Pt.slots] at X35 l35 y35 z35 st35 hQ35
                        subst y35 z35
                        refine Go.tr st35 ?_
                        obtain ⟨rfl, N35q, e35⟩ := hQ35
                        have N35 : Fr n0 L35 := by rw [l35]; exact Fr.app N30 N35q
                        show Go _ _ _ _ (T35.setTop (mkF m 527 #[lJ p0, lS, lI p1, lI p2, lI p3, lI (Int32.ofNat nl), lI ((p2 &&& (2147483647 : Int32)) % (5 : Int32)), lI jU, lJ (Int64.ofNat nu), lS, lR b2, lJ (Int64.ofNat (own_val jx9)), lS, lJ (Int64.ofNat (own_val jx9 * nu)), lS, lR ob_19, lR ob_34] [(.long (Int64.ofNat (own_val jx9 * nu)))]))
                        refine Go.st (fun _ => XS.lload X35.here hx rfl (hb hby at_527) rfl) ?_
                        show Go _ _ _ _ (T35.setTop (mkF m 529 #[lJ p0, lS, lI p1, lI p2, lI p3, lI (Int32.ofNat nl), lI ((p2 &&& (2147483647 : Int32)) % (5 : Int32)), lI jU, lJ (Int64.ofNat nu), lS, lR b2, lJ (Int64.ofNat (own_val jx9)), lS, lJ (Int64.ofNat (own_val jx9 * nu)), lS, lR ob_19, lR ob_34] [(.long (Int64.ofNat (own_val jx9 * nu))), (.long (Int64.ofNat (own_val jx9 * nu)))]))
                        refine Go.st (fun _ => XS.lcmp X35.here hx rfl (hb hby at_529) rfl) ?_
                        show Go _ _ _ _ (T35.setTop (mkF m 530 #[lJ p0, lS, lI p1, lI p2, lI p3, lI (Int32.ofNat nl), lI ((p2 &&& (2147483647 : Int32)) % (5 : Int32)), lI jU, lJ (Int64.ofNat nu), lS, lR b2, lJ (Int64.ofNat (own_val jx9)), lS, lJ (Int64.ofNat (own_val jx9 * nu)), lS, lR ob_19, lR ob_34] [(.int (lcmpW (Int64.ofNat (own_val jx9 * nu)) (Int64.ofNat (own_val jx9 * nu))))]))
                        have hb36 : (lcmpW (Int64.ofNat (own_val jx9 * nu)) (Int64.ofNat (own_val jx9 * nu))) = (0 : Int32) := (lw_eq _ _).mpr rfl
                        refine Go.st (fun _ => XS.ifNo X35.here hx rfl (hb hby at_530) rfl ((if0 _ _).trans (teq hb36).2)) ?_
                        show Go _ _ _ _ (T35.setTop (mkF m 533 #[lJ p0, lS, lI p1, lI p2, lI p3, lI (Int32.ofNat nl), lI ((p2 &&& (2147483647 : Int32)) % (5 : Int32)), lI jU, lJ (Int64.ofNat nu), lS, lR b2, lJ (Int64.ofNat (own_val jx9)), lS, lJ (Int64.ofNat (own_val jx9 * nu)), lS, lR ob_19, lR ob_34] []))
                        refine Go.st (fun _ => XS.aload X35.here hx rfl (hb hby at_533) rfl rfl) ?_
                        show Go _ _ _ _ (T35.setTop (mkF m 535 #[lJ p0, lS, lI p1, lI p2, lI p3, lI (Int32.ofNat nl), lI ((p2 &&& (2147483647 : Int32)) % (5 : Int32)), lI jU, lJ (Int64.ofNat nu), lS, lR b2, lJ (Int64.ofNat (own_val jx9)), lS, lJ (Int64.ofNat (own_val jx9 * nu)), lS, lR ob_19, lR ob_34] [(.ref ob_34)]))
                        obtain ⟨cq37, kq37, q37a, q37b, q37c⟩ := isOf hZ30 e35 q30_0
                        obtain ⟨_, _, ⟨T37, L37, k37, n37⟩, -, X37, ⟨Lc37, hQ37, l37, y37, z37⟩, st37⟩ := X35.virtualBack hx (y := (⟨"java/time/Duration", "getNano", "()I"⟩ : MethodName)) (z := (⟨"java/time/Duration", "getNano", "()I"⟩ : MethodName)) hown30 (mvT hZ30 (ow hw 127 rfl)) (mvT hZ30 (ow hw 128 rfl)) (notFace_of_selects (args := #[]) (mvT hZ30 (ow hw 130 rfl))) (mvT hZ30 (ow hw 130 rfl)) (mvT hZ30 (ow hw 129 rfl)) (by decide) (backOf (W := 0) (rm_gnan l Z a0 hw [] ob_34 (0 : Int32) T30.heap n0 O30 q30_2) hZ30 (ow hw 131 rfl) (ow hw 106 rfl) (by decide) (by decide)) q37a q37c (g := (mkF m 535 #[.val (.long p0), .second, .val (.int p1), .val (.int p2), .val (.int p3), .val (.int (Int32.ofNat nl)), .val (.int ((p2 &&& (2147483647 : Int32)) % (5 : Int32))), .val (.int jU), .val (.long (Int64.ofNat nu)), .second, .val (.ref b2), .val (.long (Int64.ofNat (own_val jx9))), .second, .val (.long (Int64.ofNat (own_val jx9 * nu))), .second, .val (.ref ob_19), .val (.ref ob_34)] [(.ref ob_34)])) rfl (by rw [hml]; rfl) (Steps.refl _) (argsL := []) (rest := []) (lenOf own_pd6 rfl) rfl (by show 2 * 0 + _ ≤ _; exact Nat.le_of_eq rfl) (hb hby at_535) (fun _ _ => ⟨rfl, e35, (by decide : 10 + 0 ≤ _), (by decide : 73 + 0 ≤ _)⟩)
                        dsimp only [Pt.U, Pt.locs, Pt.cells, Pt.slots] at X37 l37 y37 z37 st37 hQ37
                        subst y37 z37
                        refine Go.tr st37 ?_
                        obtain ⟨rfl, N37q, e37⟩ := hQ37
                        have N37 : Fr n0 L37 := by rw [l37]; exact Fr.app N35 N37q
                        show Go _ _ _ _ (T37.setTop (mkF m 538 #[lJ p0, lS, lI p1, lI p2, lI p3, lI (Int32.ofNat nl), lI ((p2 &&& (2147483647 : Int32)) % (5 : Int32)), lI jU, lJ (Int64.ofNat nu), lS, lR b2, lJ (Int64.ofNat (own_val jx9)), lS, lJ (Int64.ofNat (own_val jx9 * nu)), lS, lR ob_19, lR ob_34] [(.int (0 : Int32))]))
                        refine Go.st (fun _ => XS.ifNo X37.here hx rfl (hb hby at_538) rfl ((if0 _ _).trans (teq (by decide)).2)) ?_
                        show Go _ _ _ _ (T37.setTop (mkF m 541 #[lJ p0, lS, lI p1, lI p2, lI p3, lI (Int32.ofNat nl), lI ((p2 &&& (2147483647 : Int32)) % (5 : Int32)), lI jU, lJ (Int64.ofNat nu), lS, lR b2, lJ (Int64.ofNat (own_val jx9)), lS, lJ (Int64.ofNat (own_val jx9 * nu)), lS, lR ob_19, lR ob_34] []))
                        refine Go.st (fun _ => XS.iconst X37.here hx rfl (hb hby at_541)) ?_
                        show Go _ _ _ _ (T37.setTop (mkF m 542 #[lJ p0, lS, lI p1, lI p2, lI p3, lI (Int32.ofNat nl), lI ((p2 &&& (2147483647 : Int32)) % (5 : Int32)), lI jU, lJ (Int64.ofNat nu), lS, lR b2, lJ (Int64.ofNat (own_val jx9)), lS, lJ (Int64.ofNat (own_val jx9 * nu)), lS, lR ob_19, lR ob_34] [(.int (1 : Int32))]))
                        refine Go.st (fun _ => XS.goto X37.here hx rfl (pc0 := 542) (pc' := 546) rfl (hb hby at_542) (by decide) (by decide)) ?_
                        show Go _ _ _ _ (T37.setTop (mkF m 546 #[lJ p0, lS, lI p1, lI p2, lI p3, lI (Int32.ofNat nl), lI ((p2 &&& (2147483647 : Int32)) % (5 : Int32)), lI jU, lJ (Int64.ofNat nu), lS, lR b2, lJ (Int64.ofNat (own_val jx9)), lS, lJ (Int64.ofNat (own_val jx9 * nu)), lS, lR ob_19, lR ob_34] [(.int (1 : Int32))]))
                        obtain ⟨fs, hr, hrun, hended, -, hW, hpair, hsame⟩ := X37.leaveW hSS30 (by rw [e37]; exact (Nat.le_refl _)) (v := some (.int (1 : Int32))) (fun h => by rw [Bd.returns] at h; cases h)
                        refine ⟨_, ?_, hPend _ _ hrun hended ⟨_, _, rfl, ?_, ⟨_, rfl⟩, hW, hpair, hsame.mono (by decide) (by decide)⟩⟩
                        · exact retN X37 hx (t := .boolean) Bd.returns (by simp) (hb hby at_546) hr
                        · show Q_rm_law Z _ _ _ _ _ _ _ _ h0 n0 _ T37.heap _
                          rw [e37]
                          exact ⟨rfl, N37, K30⟩
                    by_cases hc38 : (9 : Int32) < (Int32.ofNat nl)
                    · skip
                      have hb9 : 9 < nl := own_ltN' (i := 9) hc38 (by decide) (by omega)
                      refine Go.st (fun _ => XS.icmpNo Xj14.here hx rfl (hb hby at_435) rfl (tlt hc38).2.2.2) ?_
                      show Go _ _ _ _ (Tj14.setTop (mkF m 438 #[lJ p0, lS, lI p1, lI p2, lI p3, lI (Int32.ofNat nl), lI ((p2 &&& (2147483647 : Int32)) % (5 : Int32)), lI jU, lJ (Int64.ofNat nu), lS, lR b2, lJ (Int64.ofNat (own_val jx8)), lS, lI jd8, lU, lU, lU] []))
                      refine Go.st (fun _ => XS.lloadN Xj14.here hx rfl (hb hby at_438) rfl) ?_
                      refine Go.st (fun _ => XS.bipush Xj14.here hx rfl (hb hby at_439)) ?_
                      show Go _ _ _ _ (Tj14.setTop (mkF m 441 #[lJ p0, lS, lI p1, lI p2, lI p3, lI (Int32.ofNat nl), lI ((p2 &&& (2147483647 : Int32)) % (5 : Int32)), lI jU, lJ (Int64.ofNat nu), lS, lR b2, lJ (Int64.ofNat (own_val jx8)), lS, lI jd8, lU, lU, lU] [(.int (9 : Int32)), (.long p0)]))
                      obtain ⟨_, _, ⟨T39, L39, k39, n39⟩, -, X39, ⟨Lc39, hQ39, l39, y39, z39⟩, st39⟩ := Jvm.LawKit.callS Xj14 hx (y := (⟨"com/example/vacuum/vacuum/settings/DurationsParsePinLaw", "digit", "(JI)I"⟩ : MethodName)) hownj14 (mvT hZj14 (ow hw 3 rfl)) (mvT hZj14 (ow hw 4 rfl)) (mvT hZj14 (ow hw 5 rfl)) (mvT hZj14 (ow hw 6 rfl)) (by decide) (backOf (W := 0) (rm_digit l Z a0 hw [] p0 (9 : Int32) hj14 n0 Oj14 ) hZj14 (ow hw 6 rfl) (ow hw 5 rfl) (by decide) (by decide)) (g := (mkF m 441 #[.val (.long p0), .second, .val (.int p1), .val (.int p2), .val (.int p3), .val (.int (Int32.ofNat nl)), .val (.int ((p2 &&& (2147483647 : Int32)) % (5 : Int32))), .val (.int jU), .val (.long (Int64.ofNat nu)), .second, .val (.ref b2), .val (.long (Int64.ofNat (own_val jx8))), .second, .val (.int jd8), .unset, .unset, .unset] [(.int (9 : Int32)), (.long p0)])) rfl (by rw [hml]; rfl) (argsL := [(.long p0), (.int (9 : Int32))]) (rest := []) (lenOf own_pd11 rfl) rfl (by show 2 * 0 + _ ≤ _; exact Nat.le_of_eq rfl) (hb hby at_441) (fun _ _ => ⟨rfl, ej14, (by decide : 1 + 0 ≤ _), (by decide : 11 + 0 ≤ _)⟩)
                      dsimp only [Pt.U, Pt.locs, Pt.cells, Pt.slots] at X39 l39 y39 z39 st39 hQ39
                      subst y39 z39
                      refine Go.st st39 ?_
                      obtain ⟨rd_40, rfl, N39q, e39, q39_0⟩ := hQ39
                      have N39 : Fr n0 L39 := by rw [l39]; exact Fr.app Nj14 N39q
                      show Go _ _ _ _ (T39.setTop (mkF m 444 #[lJ p0, lS, lI p1, lI p2, lI p3, lI (Int32.ofNat nl), lI ((p2 &&& (2147483647 : Int32)) % (5 : Int32)), lI jU, lJ (Int64.ofNat nu), lS, lR b2, lJ (Int64.ofNat (own_val jx8)), lS, lI jd8, lU, lU, lU] [(.int rd_40)]))
                      refine Go.st (fun _ => XS.istore X39.here hx rfl (hb hby at_444) rfl (l' := #[.val (.long p0), .second, .val (.int p1), .val (.int p2), .val (.int p3), .val (.int (Int32.ofNat nl)), .val (.int ((p2 &&& (2147483647 : Int32)) % (5 : Int32))), .val (.int jU), .val (.long (Int64.ofNat nu)), .second, .val (.ref b2), .val (.long (Int64.ofNat (own_val jx8))), .second, .val (.int rd_40), .unset, .unset, .unset]) rfl) ?_
                      show Go _ _ _ _ (T39.setTop (mkF m 446 #[lJ p0, lS, lI p1, lI p2, lI p3, lI (Int32.ofNat nl), lI ((p2 &&& (2147483647 : Int32)) % (5 : Int32)), lI jU, lJ (Int64.ofNat nu), lS, lR b2, lJ (Int64.ofNat (own_val jx8)), lS, lI rd_40, lU, lU, lU] []))
                      refine Go.st (fun _ => XS.aload X39.here hx rfl (hb hby at_446) rfl rfl) ?_
                      refine Go.st (fun _ => XS.bipush X39.here hx rfl (hb hby at_448)) ?_
                      refine Go.st (fun _ => XS.bipush X39.here hx rfl (hb hby at_450)) ?_
                      refine Go.st (fun _ => XS.iload X39.here hx rfl (hb hby at_452) rfl) ?_
                      show Go _ _ _ _ (T39.setTop (mkF m 454 #[lJ p0, lS, lI p1, lI p2, lI p3, lI (Int32.ofNat nl), lI ((p2 &&& (2147483647 : Int32)) % (5 : Int32)), lI jU, lJ (Int64.ofNat nu), lS, lR b2, lJ (Int64.ofNat (own_val jx8)), lS, lI rd_40, lU, lU, lU] [(.int rd_40), (.int (48 : Int32)), (.int (9 : Int32)), (.ref b2)]))
                      refine Go.st (fun _ => XS.iadd X39.here hx rfl (hb hby at_454) rfl) ?_
                      show Go _ _ _ _ (T39.setTop (mkF m 455 #[lJ p0, lS, lI p1, lI p2, lI p3, lI (Int32.ofNat nl), lI ((p2 &&& (2147483647 : Int32)) % (5 : Int32)), lI jU, lJ (Int64.ofNat nu), lS, lR b2, lJ (Int64.ofNat (own_val jx8)), lS, lI rd_40, lU, lU, lU] [(.int ((48 : Int32) + rd_40)), (.int (9 : Int32)), (.ref b2)]))
                      refine Go.st (fun _ => XS.i2c X39.here hx rfl (hb hby at_455) rfl) ?_
                      show Go _ _ _ _ (T39.setTop (mkF m 456 #[lJ p0, lS, lI p1, lI p2, lI p3, lI (Int32.ofNat nl), lI ((p2 &&& (2147483647 : Int32)) % (5 : Int32)), lI jU, lJ (Int64.ofNat nu), lS, lR b2, lJ (Int64.ofNat (own_val jx8)), lS, lI rd_40, lU, lU, lU] [(.int (((48 : Int32) + rd_40).toUInt32.toUInt16.toUInt32.toInt32)), (.int (9 : Int32)), (.ref b2)]))
                      rw [show (((48 : Int32) + rd_40).toUInt32.toUInt16.toUInt32.toInt32) = ((48 : Int32) + rd_40) from own_i2c48 q39_0]
                      show Go _ _ _ _ (T39.setTop (mkF m 456 #[lJ p0, lS, lI p1, lI p2, lI p3, lI (Int32.ofNat nl), lI ((p2 &&& (2147483647 : Int32)) % (5 : Int32)), lI jU, lJ (Int64.ofNat nu), lS, lR b2, lJ (Int64.ofNat (own_val jx8)), lS, lI rd_40, lU, lU, lU] [(.int ((48 : Int32) + rd_40)), (.int (9 : Int32)), (.ref b2)]))
                      have P41 : Arv Z hj14 b2 k2 .char (Int32.ofNat (nl + 1)) ((jx8 ++ [0]).map Value.int) (.int (0 : Int32)) := Arv.pad hA8 (own_pad0 jx8)
                      obtain ⟨T41, h41, X41, e41, W41, V41, st41⟩ := own_stC X39 hx hZj14 e39 P41 (j := (9 : Int32)) (i := jx8.length) ⟨by decide, own_ltN (i := 9) (by omega) (by omega)⟩ (by rw [show jx8.length = 9 from by omega]; rfl) (own_pad1 jx8) (g := (mkF m 456 #[.val (.long p0), .second, .val (.int p1), .val (.int p2), .val (.int p3), .val (.int (Int32.ofNat nl)), .val (.int ((p2 &&& (2147483647 : Int32)) % (5 : Int32))), .val (.int jU), .val (.long (Int64.ofNat nu)), .second, .val (.ref b2), .val (.long (Int64.ofNat (own_val jx8))), .second, .val (.int rd_40), .unset, .unset, .unset] [(.int ((48 : Int32) + rd_40)), (.int (9 : Int32)), (.ref b2)])) rfl rfl (hb hby at_456)
                      refine Go.st st41 ?_
                      rw [show nar .char ((48 : Int32) + rd_40) = ((48 : Int32) + rd_40) from own_nar48 q39_0] at V41
                      have K41 : Keep h0 h41 [] := Kj14.wr W41 (Or.inr sz_b2)
                      have O41 := Oj14.wr W41 g_b2
                      have N41 := Fr.snoc X41 N39 g_b2
                      have V41' : Arv Z h41 b2 k2 .char (Int32.ofNat (nl + 1)) ((jx8 ++ [((48 : Int32) + rd_40)]).map Value.int) (.int (0 : Int32)) := by rw [← own_setlast]; exact V41
                      show Go _ _ _ _ (T41.setTop (mkF m 457 #[lJ p0, lS, lI p1, lI p2, lI p3, lI (Int32.ofNat nl), lI ((p2 &&& (2147483647 : Int32)) % (5 : Int32)), lI jU, lJ (Int64.ofNat nu), lS, lR b2, lJ (Int64.ofNat (own_val jx8)), lS, lI rd_40, lU, lU, lU] []))
                      refine Go.st (fun _ => XS.lload X41.here hx rfl (hb hby at_457) rfl) ?_
                      show Go _ _ _ _ (T41.setTop (mkF m 459 #[lJ p0, lS, lI p1, lI p2, lI p3, lI (Int32.ofNat nl), lI ((p2 &&& (2147483647 : Int32)) % (5 : Int32)), lI jU, lJ (Int64.ofNat nu), lS, lR b2, lJ (Int64.ofNat (own_val jx8)), lS, lI rd_40, lU, lU, lU] [(.long (Int64.ofNat (own_val jx8)))]))
                      refine Go.st (fun _ => X41.ldc2Long hx hownj14 (mvT hZj14 (ow hw 8 rfl)) (g := (mkF m 459 #[.val (.long p0), .second, .val (.int p1), .val (.int p2), .val (.int p3), .val (.int (Int32.ofNat nl)), .val (.int ((p2 &&& (2147483647 : Int32)) % (5 : Int32))), .val (.int jU), .val (.long (Int64.ofNat nu)), .second, .val (.ref b2), .val (.long (Int64.ofNat (own_val jx8))), .second, .val (.int rd_40), .unset, .unset, .unset] [(.long (Int64.ofNat (own_val jx8)))])) rfl (hb hby at_459) _) ?_
                      show Go _ _ _ _ (T41.setTop (mkF m 462 #[lJ p0, lS, lI p1, lI p2, lI p3, lI (Int32.ofNat nl), lI ((p2 &&& (2147483647 : Int32)) % (5 : Int32)), lI jU, lJ (Int64.ofNat nu), lS, lR b2, lJ (Int64.ofNat (own_val jx8)), lS, lI rd_40, lU, lU, lU] [(.long (10 : Int64)), (.long (Int64.ofNat (own_val jx8)))]))
                      refine Go.st (fun _ => XS.lmul X41.here hx rfl (hb hby at_462) rfl) ?_
                      show Go _ _ _ _ (T41.setTop (mkF m 463 #[lJ p0, lS, lI p1, lI p2, lI p3, lI (Int32.ofNat nl), lI ((p2 &&& (2147483647 : Int32)) % (5 : Int32)), lI jU, lJ (Int64.ofNat nu), lS, lR b2, lJ (Int64.ofNat (own_val jx8)), lS, lI rd_40, lU, lU, lU] [(.long ((Int64.ofNat (own_val jx8)) * (10 : Int64)))]))
                      refine Go.st (fun _ => XS.iload X41.here hx rfl (hb hby at_463) rfl) ?_
                      show Go _ _ _ _ (T41.setTop (mkF m 465 #[lJ p0, lS, lI p1, lI p2, lI p3, lI (Int32.ofNat nl), lI ((p2 &&& (2147483647 : Int32)) % (5 : Int32)), lI jU, lJ (Int64.ofNat nu), lS, lR b2, lJ (Int64.ofNat (own_val jx8)), lS, lI rd_40, lU, lU, lU] [(.int rd_40), (.long ((Int64.ofNat (own_val jx8)) * (10 : Int64)))]))
                      refine Go.st (fun _ => XS.i2l X41.here hx rfl (hb hby at_465) rfl) ?_
                      show Go _ _ _ _ (T41.setTop (mkF m 466 #[lJ p0, lS, lI p1, lI p2, lI p3, lI (Int32.ofNat nl), lI ((p2 &&& (2147483647 : Int32)) % (5 : Int32)), lI jU, lJ (Int64.ofNat nu), lS, lR b2, lJ (Int64.ofNat (own_val jx8)), lS, lI rd_40, lU, lU, lU] [(.long (rd_40.toInt64)), (.long ((Int64.ofNat (own_val jx8)) * (10 : Int64)))]))
                      refine Go.st (fun _ => XS.ladd X41.here hx rfl (hb hby at_466) rfl) ?_
                      show Go _ _ _ _ (T41.setTop (mkF m 467 #[lJ p0, lS, lI p1, lI p2, lI p3, lI (Int32.ofNat nl), lI ((p2 &&& (2147483647 : Int32)) % (5 : Int32)), lI jU, lJ (Int64.ofNat nu), lS, lR b2, lJ (Int64.ofNat (own_val jx8)), lS, lI rd_40, lU, lU, lU] [(.long (((Int64.ofNat (own_val jx8)) * (10 : Int64)) + (rd_40.toInt64)))]))
                      refine Go.st (fun _ => XS.lstore X41.here hx rfl (hb hby at_467) rfl (l' := #[.val (.long p0), .second, .val (.int p1), .val (.int p2), .val (.int p3), .val (.int (Int32.ofNat nl)), .val (.int ((p2 &&& (2147483647 : Int32)) % (5 : Int32))), .val (.int jU), .val (.long (Int64.ofNat nu)), .second, .val (.ref b2), .val (.long (((Int64.ofNat (own_val jx8)) * (10 : Int64)) + (rd_40.toInt64))), .second, .val (.int rd_40), .unset, .unset, .unset]) rfl) ?_
                      show Go _ _ _ _ (T41.setTop (mkF m 469 #[lJ p0, lS, lI p1, lI p2, lI p3, lI (Int32.ofNat nl), lI ((p2 &&& (2147483647 : Int32)) % (5 : Int32)), lI jU, lJ (Int64.ofNat nu), lS, lR b2, lJ (((Int64.ofNat (own_val jx8)) * (10 : Int64)) + (rd_40.toInt64)), lS, lI rd_40, lU, lU, lU] []))
                      exact J15 T41 h41 _ _ _ (X41.more (by decide) (by decide)) e41 K41 O41 N41 hSj14 (Nat.le_trans hkj14 (Keep.of_wr W41).1) hZj14 hownj14  (((Int64.ofNat (own_val jx8)) * (10 : Int64)) + (rd_40.toInt64)) rd_40 (jx8 ++ [((48 : Int32) + rd_40)])  V41' (by simp only [List.length_append, List.length_singleton, List.length_nil]; omega) (own_D_snoc hdig8 ⟨(own_48 q39_0).1, (own_48 q39_0).2.1⟩) (own_cnt q39_0)
                    · skip
                      have hb9 : nl ≤ 9 := own_nltN' (i := 9) hc38 (by decide) (by omega)
                      refine Go.st (fun _ => XS.icmpYes Xj14.here hx rfl (pc0 := 435) (pc' := 469) rfl (hb hby at_435) rfl (flt hc38).2.2.2 (by decide) (by decide)) ?_
                      show Go _ _ _ _ (Tj14.setTop (mkF m 469 #[lJ p0, lS, lI p1, lI p2, lI p3, lI (Int32.ofNat nl), lI ((p2 &&& (2147483647 : Int32)) % (5 : Int32)), lI jU, lJ (Int64.ofNat nu), lS, lR b2, lJ (Int64.ofNat (own_val jx8)), lS, lI jd8, lU, lU, lU] []))
                      exact J15 Tj14 hj14 _ _ _ (Xj14.more (by decide) (by decide)) ej14 Kj14 Oj14 Nj14 hSj14 hkj14 hZj14 hownj14  (Int64.ofNat (own_val jx8)) jd8 jx8  hA8 (by omega) hdig8 rfl
                  by_cases hc42 : (8 : Int32) < (Int32.ofNat nl)
                  · skip
                    have hb8 : 8 < nl := own_ltN' (i := 8) hc42 (by decide) (by omega)
                    refine Go.st (fun _ => XS.icmpNo Xj13.here hx rfl (hb hby at_397) rfl (tlt hc42).2.2.2) ?_
                    show Go _ _ _ _ (Tj13.setTop (mkF m 400 #[lJ p0, lS, lI p1, lI p2, lI p3, lI (Int32.ofNat nl), lI ((p2 &&& (2147483647 : Int32)) % (5 : Int32)), lI jU, lJ (Int64.ofNat nu), lS, lR b2, lJ (Int64.ofNat (own_val jx7)), lS, lI jd7, lU, lU, lU] []))
                    refine Go.st (fun _ => XS.lloadN Xj13.here hx rfl (hb hby at_400) rfl) ?_
                    refine Go.st (fun _ => XS.bipush Xj13.here hx rfl (hb hby at_401)) ?_
                    show Go _ _ _ _ (Tj13.setTop (mkF m 403 #[lJ p0, lS, lI p1, lI p2, lI p3, lI (Int32.ofNat nl), lI ((p2 &&& (2147483647 : Int32)) % (5 : Int32)), lI jU, lJ (Int64.ofNat nu), lS, lR b2, lJ (Int64.ofNat (own_val jx7)), lS, lI jd7, lU, lU, lU] [(.int (8 : Int32)), (.long p0)]))
                    obtain ⟨_, _, ⟨T43, L43, k43, n43⟩, -, X43, ⟨Lc43, hQ43, l43, y43, z43⟩, st43⟩ := Jvm.LawKit.callS Xj13 hx (y := (⟨"com/example/vacuum/vacuum/settings/DurationsParsePinLaw", "digit", "(JI)I"⟩ : MethodName)) hownj13 (mvT hZj13 (ow hw 3 rfl)) (mvT hZj13 (ow hw 4 rfl)) (mvT hZj13 (ow hw 5 rfl)) (mvT hZj13 (ow hw 6 rfl)) (by decide) (backOf (W := 0) (rm_digit l Z a0 hw [] p0 (8 : Int32) hj13 n0 Oj13 ) hZj13 (ow hw 6 rfl) (ow hw 5 rfl) (by decide) (by decide)) (g := (mkF m 403 #[.val (.long p0), .second, .val (.int p1), .val (.int p2), .val (.int p3), .val (.int (Int32.ofNat nl)), .val (.int ((p2 &&& (2147483647 : Int32)) % (5 : Int32))), .val (.int jU), .val (.long (Int64.ofNat nu)), .second, .val (.ref b2), .val (.long (Int64.ofNat (own_val jx7))), .second, .val (.int jd7), .unset, .unset, .unset] [(.int (8 : Int32)), (.long p0)])) rfl (by rw [hml]; rfl) (argsL := [(.long p0), (.int (8 : Int32))]) (rest := []) (lenOf own_pd11 rfl) rfl (by show 2 * 0 + _ ≤ _; exact Nat.le_of_eq rfl) (hb hby at_403) (fun _ _ => ⟨rfl, ej13, (by decide : 1 + 0 ≤ _), (by decide : 11 + 0 ≤ _)⟩)
                    dsimp only [Pt.U, Pt.locs, Pt.cells, Pt.slots] at X43 l43 y43 z43 st43 hQ43
                    subst y43 z43
                    refine Go.st st43 ?_
                    obtain ⟨rd_44, rfl, N43q, e43, q43_0⟩ := hQ43
                    have N43 : Fr n0 L43 := by rw [l43]; exact Fr.app Nj13 N43q
                    show Go _ _ _ _ (T43.setTop (mkF m 406 #[lJ p0, lS, lI p1, lI p2, lI p3, lI (Int32.ofNat nl), lI ((p2 &&& (2147483647 : Int32)) % (5 : Int32)), lI jU, lJ (Int64.ofNat nu), lS, lR b2, lJ (Int64.ofNat (own_val jx7)), lS, lI jd7, lU, lU, lU] [(.int rd_44)]))
                    refine Go.st (fun _ => XS.istore X43.here hx rfl (hb hby at_406) rfl (l' := #[.val (.long p0), .second, .val (.int p1), .val (.int p2), .val (.int p3), .val (.int (Int32.ofNat nl)), .val (.int ((p2 &&& (2147483647 : Int32)) % (5 : Int32))), .val (.int jU), .val (.long (Int64.ofNat nu)), .second, .val (.ref b2), .val (.long (Int64.ofNat (own_val jx7))), .second, .val (.int rd_44), .unset, .unset, .unset]) rfl) ?_
                    show Go _ _ _ _ (T43.setTop (mkF m 408 #[lJ p0, lS, lI p1, lI p2, lI p3, lI (Int32.ofNat nl), lI ((p2 &&& (2147483647 : Int32)) % (5 : Int32)), lI jU, lJ (Int64.ofNat nu), lS, lR b2, lJ (Int64.ofNat (own_val jx7)), lS, lI rd_44, lU, lU, lU] []))
                    refine Go.st (fun _ => XS.aload X43.here hx rfl (hb hby at_408) rfl rfl) ?_
                    refine Go.st (fun _ => XS.bipush X43.here hx rfl (hb hby at_410)) ?_
                    refine Go.st (fun _ => XS.bipush X43.here hx rfl (hb hby at_412)) ?_
                    refine Go.st (fun _ => XS.iload X43.here hx rfl (hb hby at_414) rfl) ?_
                    show Go _ _ _ _ (T43.setTop (mkF m 416 #[lJ p0, lS, lI p1, lI p2, lI p3, lI (Int32.ofNat nl), lI ((p2 &&& (2147483647 : Int32)) % (5 : Int32)), lI jU, lJ (Int64.ofNat nu), lS, lR b2, lJ (Int64.ofNat (own_val jx7)), lS, lI rd_44, lU, lU, lU] [(.int rd_44), (.int (48 : Int32)), (.int (8 : Int32)), (.ref b2)]))
                    refine Go.st (fun _ => XS.iadd X43.here hx rfl (hb hby at_416) rfl) ?_
                    show Go _ _ _ _ (T43.setTop (mkF m 417 #[lJ p0, lS, lI p1, lI p2, lI p3, lI (Int32.ofNat nl), lI ((p2 &&& (2147483647 : Int32)) % (5 : Int32)), lI jU, lJ (Int64.ofNat nu), lS, lR b2, lJ (Int64.ofNat (own_val jx7)), lS, lI rd_44, lU, lU, lU] [(.int ((48 : Int32) + rd_44)), (.int (8 : Int32)), (.ref b2)]))
                    refine Go.st (fun _ => XS.i2c X43.here hx rfl (hb hby at_417) rfl) ?_
                    show Go _ _ _ _ (T43.setTop (mkF m 418 #[lJ p0, lS, lI p1, lI p2, lI p3, lI (Int32.ofNat nl), lI ((p2 &&& (2147483647 : Int32)) % (5 : Int32)), lI jU, lJ (Int64.ofNat nu), lS, lR b2, lJ (Int64.ofNat (own_val jx7)), lS, lI rd_44, lU, lU, lU] [(.int (((48 : Int32) + rd_44).toUInt32.toUInt16.toUInt32.toInt32)), (.int (8 : Int32)), (.ref b2)]))
                    rw [show (((48 : Int32) + rd_44).toUInt32.toUInt16.toUInt32.toInt32) = ((48 : Int32) + rd_44) from own_i2c48 q43_0]
                    show Go _ _ _ _ (T43.setTop (mkF m 418 #[lJ p0, lS, lI p1, lI p2, lI p3, lI (Int32.ofNat nl), lI ((p2 &&& (2147483647 : Int32)) % (5 : Int32)), lI jU, lJ (Int64.ofNat nu), lS, lR b2, lJ (Int64.ofNat (own_val jx7)), lS, lI rd_44, lU, lU, lU] [(.int ((48 : Int32) + rd_44)), (.int (8 : Int32)), (.ref b2)]))
                    have P45 : Arv Z hj13 b2 k2 .char (Int32.ofNat (nl + 1)) ((jx7 ++ [0]).map Value.int) (.int (0 : Int32)) := Arv.pad hA7 (own_pad0 jx7)
                    obtain ⟨T45, h45, X45, e45, W45, V45, st45⟩ := own_stC X43 hx hZj13 e43 P45 (j := (8 : Int32)) (i := jx7.length) ⟨by decide, own_ltN (i := 8) (by omega) (by omega)⟩ (by rw [show jx7.length = 8 from by omega]; rfl) (own_pad1 jx7) (g := (mkF m 418 #[.val (.long p0), .second, .val (.int p1), .val (.int p2), .val (.int p3), .val (.int (Int32.ofNat nl)), .val (.int ((p2 &&& (2147483647 : Int32)) % (5 : Int32))), .val (.int jU), .val (.long (Int64.ofNat nu)), .second, .val (.ref b2), .val (.long (Int64.ofNat (own_val jx7))), .second, .val (.int rd_44), .unset, .unset, .unset] [(.int ((48 : Int32) + rd_44)), (.int (8 : Int32)), (.ref b2)])) rfl rfl (hb hby at_418)
                    refine Go.st st45 ?_
                    rw [show nar .char ((48 : Int32) + rd_44) = ((48 : Int32) + rd_44) from own_nar48 q43_0] at V45
                    have K45 : Keep h0 h45 [] := Kj13.wr W45 (Or.inr sz_b2)
                    have O45 := Oj13.wr W45 g_b2
                    have N45 := Fr.snoc X45 N43 g_b2
                    have V45' : Arv Z h45 b2 k2 .char (Int32.ofNat (nl + 1)) ((jx7 ++ [((48 : Int32) + rd_44)]).map Value.int) (.int (0 : Int32)) := by rw [← own_setlast]; exact V45
                    show Go _ _ _ _ (T45.setTop (mkF m 419 #[lJ p0, lS, lI p1, lI p2, lI p3, lI (Int32.ofNat nl), lI ((p2 &&& (2147483647 : Int32)) % (5 : Int32)), lI jU, lJ (Int64.ofNat nu), lS, lR b2, lJ (Int64.ofNat (own_val jx7)), lS, lI rd_44, lU, lU, lU] []))
                    refine Go.st (fun _ => XS.lload X45.here hx rfl (hb hby at_419) rfl) ?_
                    show Go _ _ _ _ (T45.setTop (mkF m 421 #[lJ p0, lS, lI p1, lI p2, lI p3, lI (Int32.ofNat nl), lI ((p2 &&& (2147483647 : Int32)) % (5 : Int32)), lI jU, lJ (Int64.ofNat nu), lS, lR b2, lJ (Int64.ofNat (own_val jx7)), lS, lI rd_44, lU, lU, lU] [(.long (Int64.ofNat (own_val jx7)))]))
                    refine Go.st (fun _ => X45.ldc2Long hx hownj13 (mvT hZj13 (ow hw 8 rfl)) (g := (mkF m 421 #[.val (.long p0), .second, .val (.int p1), .val (.int p2), .val (.int p3), .val (.int (Int32.ofNat nl)), .val (.int ((p2 &&& (2147483647 : Int32)) % (5 : Int32))), .val (.int jU), .val (.long (Int64.ofNat nu)), .second, .val (.ref b2), .val (.long (Int64.ofNat (own_val jx7))), .second, .val (.int rd_44), .unset, .unset, .unset] [(.long (Int64.ofNat (own_val jx7)))])) rfl (hb hby at_421) _) ?_
                    show Go _ _ _ _ (T45.setTop (mkF m 424 #[lJ p0, lS, lI p1, lI p2, lI p3, lI (Int32.ofNat nl), lI ((p2 &&& (2147483647 : Int32)) % (5 : Int32)), lI jU, lJ (Int64.ofNat nu), lS, lR b2, lJ (Int64.ofNat (own_val jx7)), lS, lI rd_44, lU, lU, lU] [(.long (10 : Int64)), (.long (Int64.ofNat (own_val jx7)))]))
                    refine Go.st (fun _ => XS.lmul X45.here hx rfl (hb hby at_424) rfl) ?_
                    show Go _ _ _ _ (T45.setTop (mkF m 425 #[lJ p0, lS, lI p1, lI p2, lI p3, lI (Int32.ofNat nl), lI ((p2 &&& (2147483647 : Int32)) % (5 : Int32)), lI jU, lJ (Int64.ofNat nu), lS, lR b2, lJ (Int64.ofNat (own_val jx7)), lS, lI rd_44, lU, lU, lU] [(.long ((Int64.ofNat (own_val jx7)) * (10 : Int64)))]))
                    refine Go.st (fun _ => XS.iload X45.here hx rfl (hb hby at_425) rfl) ?_
                    show Go _ _ _ _ (T45.setTop (mkF m 427 #[lJ p0, lS, lI p1, lI p2, lI p3, lI (Int32.ofNat nl), lI ((p2 &&& (2147483647 : Int32)) % (5 : Int32)), lI jU, lJ (Int64.ofNat nu), lS, lR b2, lJ (Int64.ofNat (own_val jx7)), lS, lI rd_44, lU, lU, lU] [(.int rd_44), (.long ((Int64.ofNat (own_val jx7)) * (10 : Int64)))]))
                    refine Go.st (fun _ => XS.i2l X45.here hx rfl (hb hby at_427) rfl) ?_
                    show Go _ _ _ _ (T45.setTop (mkF m 428 #[lJ p0, lS, lI p1, lI p2, lI p3, lI (Int32.ofNat nl), lI ((p2 &&& (2147483647 : Int32)) % (5 : Int32)), lI jU, lJ (Int64.ofNat nu), lS, lR b2, lJ (Int64.ofNat (own_val jx7)), lS, lI rd_44, lU, lU, lU] [(.long (rd_44.toInt64)), (.long ((Int64.ofNat (own_val jx7)) * (10 : Int64)))]))
                    refine Go.st (fun _ => XS.ladd X45.here hx rfl (hb hby at_428) rfl) ?_
                    show Go _ _ _ _ (T45.setTop (mkF m 429 #[lJ p0, lS, lI p1, lI p2, lI p3, lI (Int32.ofNat nl), lI ((p2 &&& (2147483647 : Int32)) % (5 : Int32)), lI jU, lJ (Int64.ofNat nu), lS, lR b2, lJ (Int64.ofNat (own_val jx7)), lS, lI rd_44, lU, lU, lU] [(.long (((Int64.ofNat (own_val jx7)) * (10 : Int64)) + (rd_44.toInt64)))]))
                    refine Go.st (fun _ => XS.lstore X45.here hx rfl (hb hby at_429) rfl (l' := #[.val (.long p0), .second, .val (.int p1), .val (.int p2), .val (.int p3), .val (.int (Int32.ofNat nl)), .val (.int ((p2 &&& (2147483647 : Int32)) % (5 : Int32))), .val (.int jU), .val (.long (Int64.ofNat nu)), .second, .val (.ref b2), .val (.long (((Int64.ofNat (own_val jx7)) * (10 : Int64)) + (rd_44.toInt64))), .second, .val (.int rd_44), .unset, .unset, .unset]) rfl) ?_
                    show Go _ _ _ _ (T45.setTop (mkF m 431 #[lJ p0, lS, lI p1, lI p2, lI p3, lI (Int32.ofNat nl), lI ((p2 &&& (2147483647 : Int32)) % (5 : Int32)), lI jU, lJ (Int64.ofNat nu), lS, lR b2, lJ (((Int64.ofNat (own_val jx7)) * (10 : Int64)) + (rd_44.toInt64)), lS, lI rd_44, lU, lU, lU] []))
                    exact J14 T45 h45 _ _ _ (X45.more (by decide) (by decide)) e45 K45 O45 N45 hSj13 (Nat.le_trans hkj13 (Keep.of_wr W45).1) hZj13 hownj13  (((Int64.ofNat (own_val jx7)) * (10 : Int64)) + (rd_44.toInt64)) rd_44 (jx7 ++ [((48 : Int32) + rd_44)])  V45' (by simp only [List.length_append, List.length_singleton, List.length_nil]; omega) (own_D_snoc hdig7 ⟨(own_48 q43_0).1, (own_48 q43_0).2.1⟩) (own_cnt q43_0)
                  · skip
                    have hb8 : nl ≤ 8 := own_nltN' (i := 8) hc42 (by decide) (by omega)
                    refine Go.st (fun _ => XS.icmpYes Xj13.here hx rfl (pc0 := 397) (pc' := 431) rfl (hb hby at_397) rfl (flt hc42).2.2.2 (by decide) (by decide)) ?_
                    show Go _ _ _ _ (Tj13.setTop (mkF m 431 #[lJ p0, lS, lI p1, lI p2, lI p3, lI (Int32.ofNat nl), lI ((p2 &&& (2147483647 : Int32)) % (5 : Int32)), lI jU, lJ (Int64.ofNat nu), lS, lR b2, lJ (Int64.ofNat (own_val jx7)), lS, lI jd7, lU, lU, lU] []))
                    exact J14 Tj13 hj13 _ _ _ (Xj13.more (by decide) (by decide)) ej13 Kj13 Oj13 Nj13 hSj13 hkj13 hZj13 hownj13  (Int64.ofNat (own_val jx7)) jd7 jx7  hA7 (by omega) hdig7 rfl
                by_cases hc46 : (7 : Int32) < (Int32.ofNat nl)
                · skip
                  have hb7 : 7 < nl := own_ltN' (i := 7) hc46 (by decide) (by omega)
                  refine Go.st (fun _ => XS.icmpNo Xj12.here hx rfl (hb hby at_359) rfl (tlt hc46).2.2.2) ?_
                  show Go _ _ _ _ (Tj12.setTop (mkF m 362 #[lJ p0, lS, lI p1, lI p2, lI p3, lI (Int32.ofNat nl), lI ((p2 &&& (2147483647 : Int32)) % (5 : Int32)), lI jU, lJ (Int64.ofNat nu), lS, lR b2, lJ (Int64.ofNat (own_val jx6)), lS, lI jd6, lU, lU, lU] []))
                  refine Go.st (fun _ => XS.lloadN Xj12.here hx rfl (hb hby at_362) rfl) ?_
                  refine Go.st (fun _ => XS.bipush Xj12.here hx rfl (hb hby at_363)) ?_
                  show Go _ _ _ _ (Tj12.setTop (mkF m 365 #[lJ p0, lS, lI p1, lI p2, lI p3, lI (Int32.ofNat nl), lI ((p2 &&& (2147483647 : Int32)) % (5 : Int32)), lI jU, lJ (Int64.ofNat nu), lS, lR b2, lJ (Int64.ofNat (own_val jx6)), lS, lI jd6, lU, lU, lU] [(.int (7 : Int32)), (.long p0)]))
                  obtain ⟨_, _, ⟨T47, L47, k47, n47⟩, -, X47, ⟨Lc47, hQ47, l47, y47, z47⟩, st47⟩ := Jvm.LawKit.callS Xj12 hx (y := (⟨"com/example/vacuum/vacuum/settings/DurationsParsePinLaw", "digit", "(JI)I"⟩ : MethodName)) hownj12 (mvT hZj12 (ow hw 3 rfl)) (mvT hZj12 (ow hw 4 rfl)) (mvT hZj12 (ow hw 5 rfl)) (mvT hZj12 (ow hw 6 rfl)) (by decide) (backOf (W := 0) (rm_digit l Z a0 hw [] p0 (7 : Int32) hj12 n0 Oj12 ) hZj12 (ow hw 6 rfl) (ow hw 5 rfl) (by decide) (by decide)) (g := (mkF m 365 #[.val (.long p0), .second, .val (.int p1), .val (.int p2), .val (.int p3), .val (.int (Int32.ofNat nl)), .val (.int ((p2 &&& (2147483647 : Int32)) % (5 : Int32))), .val (.int jU), .val (.long (Int64.ofNat nu)), .second, .val (.ref b2), .val (.long (Int64.ofNat (own_val jx6))), .second, .val (.int jd6), .unset, .unset, .unset] [(.int (7 : Int32)), (.long p0)])) rfl (by rw [hml]; rfl) (argsL := [(.long p0), (.int (7 : Int32))]) (rest := []) (lenOf own_pd11 rfl) rfl (by show 2 * 0 + _ ≤ _; exact Nat.le_of_eq rfl) (hb hby at_365) (fun _ _ => ⟨rfl, ej12, (by decide : 1 + 0 ≤ _), (by decide : 11 + 0 ≤ _)⟩)
                  dsimp only [Pt.U, Pt.locs, Pt.cells, Pt.slots] at X47 l47 y47 z47 st47 hQ47
                  subst y47 z47
                  refine Go.st st47 ?_
                  obtain ⟨rd_48, rfl, N47q, e47, q47_0⟩ := hQ47
                  have N47 : Fr n0 L47 := by rw [l47]; exact Fr.app Nj12 N47q
                  show Go _ _ _ _ (T47.setTop (mkF m 368 #[lJ p0, lS, lI p1, lI p2, lI p3, lI (Int32.ofNat nl), lI ((p2 &&& (2147483647 : Int32)) % (5 : Int32)), lI jU, lJ (Int64.ofNat nu), lS, lR b2, lJ (Int64.ofNat (own_val jx6)), lS, lI jd6, lU, lU, lU] [(.int rd_48)]))
                  refine Go.st (fun _ => XS.istore X47.here hx rfl (hb hby at_368) rfl (l' := #[.val (.long p0), .second, .val (.int p1), .val (.int p2), .val (.int p3), .val (.int (Int32.ofNat nl)), .val (.int ((p2 &&& (2147483647 : Int32)) % (5 : Int32))), .val (.int jU), .val (.long (Int64.ofNat nu)), .second, .val (.ref b2), .val (.long (Int64.ofNat (own_val jx6))), .second, .val (.int rd_48), .unset, .unset, .unset]) rfl) ?_
                  show Go _ _ _ _ (T47.setTop (mkF m 370 #[lJ p0, lS, lI p1, lI p2, lI p3, lI (Int32.ofNat nl), lI ((p2 &&& (2147483647 : Int32)) % (5 : Int32)), lI jU, lJ (Int64.ofNat nu), lS, lR b2, lJ (Int64.ofNat (own_val jx6)), lS, lI rd_48, lU, lU, lU] []))
                  refine Go.st (fun _ => XS.aload X47.here hx rfl (hb hby at_370) rfl rfl) ?_
                  refine Go.st (fun _ => XS.bipush X47.here hx rfl (hb hby at_372)) ?_
                  refine Go.st (fun _ => XS.bipush X47.here hx rfl (hb hby at_374)) ?_
                  refine Go.st (fun _ => XS.iload X47.here hx rfl (hb hby at_376) rfl) ?_
                  show Go _ _ _ _ (T47.setTop (mkF m 378 #[lJ p0, lS, lI p1, lI p2, lI p3, lI (Int32.ofNat nl), lI ((p2 &&& (2147483647 : Int32)) % (5 : Int32)), lI jU, lJ (Int64.ofNat nu), lS, lR b2, lJ (Int64.ofNat (own_val jx6)), lS, lI rd_48, lU, lU, lU] [(.int rd_48), (.int (48 : Int32)), (.int (7 : Int32)), (.ref b2)]))
                  refine Go.st (fun _ => XS.iadd X47.here hx rfl (hb hby at_378) rfl) ?_
                  show Go _ _ _ _ (T47.setTop (mkF m 379 #[lJ p0, lS, lI p1, lI p2, lI p3, lI (Int32.ofNat nl), lI ((p2 &&& (2147483647 : Int32)) % (5 : Int32)), lI jU, lJ (Int64.ofNat nu), lS, lR b2, lJ (Int64.ofNat (own_val jx6)), lS, lI rd_48, lU, lU, lU] [(.int ((48 : Int32) + rd_48)), (.int (7 : Int32)), (.ref b2)]))
                  refine Go.st (fun _ => XS.i2c X47.here hx rfl (hb hby at_379) rfl) ?_
                  show Go _ _ _ _ (T47.setTop (mkF m 380 #[lJ p0, lS, lI p1, lI p2, lI p3, lI (Int32.ofNat nl), lI ((p2 &&& (2147483647 : Int32)) % (5 : Int32)), lI jU, lJ (Int64.ofNat nu), lS, lR b2, lJ (Int64.ofNat (own_val jx6)), lS, lI rd_48, lU, lU, lU] [(.int (((48 : Int32) + rd_48).toUInt32.toUInt16.toUInt32.toInt32)), (.int (7 : Int32)), (.ref b2)]))
                  rw [show (((48 : Int32) + rd_48).toUInt32.toUInt16.toUInt32.toInt32) = ((48 : Int32) + rd_48) from own_i2c48 q47_0]
                  show Go _ _ _ _ (T47.setTop (mkF m 380 #[lJ p0, lS, lI p1, lI p2, lI p3, lI (Int32.ofNat nl), lI ((p2 &&& (2147483647 : Int32)) % (5 : Int32)), lI jU, lJ (Int64.ofNat nu), lS, lR b2, lJ (Int64.ofNat (own_val jx6)), lS, lI rd_48, lU, lU, lU] [(.int ((48 : Int32) + rd_48)), (.int (7 : Int32)), (.ref b2)]))
                  have P49 : Arv Z hj12 b2 k2 .char (Int32.ofNat (nl + 1)) ((jx6 ++ [0]).map Value.int) (.int (0 : Int32)) := Arv.pad hA6 (own_pad0 jx6)
                  obtain ⟨T49, h49, X49, e49, W49, V49, st49⟩ := own_stC X47 hx hZj12 e47 P49 (j := (7 : Int32)) (i := jx6.length) ⟨by decide, own_ltN (i := 7) (by omega) (by omega)⟩ (by rw [show jx6.length = 7 from by omega]; rfl) (own_pad1 jx6) (g := (mkF m 380 #[.val (.long p0), .second, .val (.int p1), .val (.int p2), .val (.int p3), .val (.int (Int32.ofNat nl)), .val (.int ((p2 &&& (2147483647 : Int32)) % (5 : Int32))), .val (.int jU), .val (.long (Int64.ofNat nu)), .second, .val (.ref b2), .val (.long (Int64.ofNat (own_val jx6))), .second, .val (.int rd_48), .unset, .unset, .unset] [(.int ((48 : Int32) + rd_48)), (.int (7 : Int32)), (.ref b2)])) rfl rfl (hb hby at_380)
                  refine Go.st st49 ?_
                  rw [show nar .char ((48 : Int32) + rd_48) = ((48 : Int32) + rd_48) from own_nar48 q47_0] at V49
                  have K49 : Keep h0 h49 [] := Kj12.wr W49 (Or.inr sz_b2)
                  have O49 := Oj12.wr W49 g_b2
                  have N49 := Fr.snoc X49 N47 g_b2
                  have V49' : Arv Z h49 b2 k2 .char (Int32.ofNat (nl + 1)) ((jx6 ++ [((48 : Int32) + rd_48)]).map Value.int) (.int (0 : Int32)) := by rw [← own_setlast]; exact V49
                  show Go _ _ _ _ (T49.setTop (mkF m 381 #[lJ p0, lS, lI p1, lI p2, lI p3, lI (Int32.ofNat nl), lI ((p2 &&& (2147483647 : Int32)) % (5 : Int32)), lI jU, lJ (Int64.ofNat nu), lS, lR b2, lJ (Int64.ofNat (own_val jx6)), lS, lI rd_48, lU, lU, lU] []))
                  refine Go.st (fun _ => XS.lload X49.here hx rfl (hb hby at_381) rfl) ?_
                  show Go _ _ _ _ (T49.setTop (mkF m 383 #[lJ p0, lS, lI p1, lI p2, lI p3, lI (Int32.ofNat nl), lI ((p2 &&& (2147483647 : Int32)) % (5 : Int32)), lI jU, lJ (Int64.ofNat nu), lS, lR b2, lJ (Int64.ofNat (own_val jx6)), lS, lI rd_48, lU, lU, lU] [(.long (Int64.ofNat (own_val jx6)))]))
                  refine Go.st (fun _ => X49.ldc2Long hx hownj12 (mvT hZj12 (ow hw 8 rfl)) (g := (mkF m 383 #[.val (.long p0), .second, .val (.int p1), .val (.int p2), .val (.int p3), .val (.int (Int32.ofNat nl)), .val (.int ((p2 &&& (2147483647 : Int32)) % (5 : Int32))), .val (.int jU), .val (.long (Int64.ofNat nu)), .second, .val (.ref b2), .val (.long (Int64.ofNat (own_val jx6))), .second, .val (.int rd_48), .unset, .unset, .unset] [(.long (Int64.ofNat (own_val jx6)))])) rfl (hb hby at_383) _) ?_
                  show Go _ _ _ _ (T49.setTop (mkF m 386 #[lJ p0, lS, lI p1, lI p2, lI p3, lI (Int32.ofNat nl), lI ((p2 &&& (2147483647 : Int32)) % (5 : Int32)), lI jU, lJ (Int64.ofNat nu), lS, lR b2, lJ (Int64.ofNat (own_val jx6)), lS, lI rd_48, lU, lU, lU] [(.long (10 : Int64)), (.long (Int64.ofNat (own_val jx6)))]))
                  refine Go.st (fun _ => XS.lmul X49.here hx rfl (hb hby at_386) rfl) ?_
                  show Go _ _ _ _ (T49.setTop (mkF m 387 #[lJ p0, lS, lI p1, lI p2, lI p3, lI (Int32.ofNat nl), lI ((p2 &&& (2147483647 : Int32)) % (5 : Int32)), lI jU, lJ (Int64.ofNat nu), lS, lR b2, lJ (Int64.ofNat (own_val jx6)), lS, lI rd_48, lU, lU, lU] [(.long ((Int64.ofNat (own_val jx6)) * (10 : Int64)))]))
                  refine Go.st (fun _ => XS.iload X49.here hx rfl (hb hby at_387) rfl) ?_
                  show Go _ _ _ _ (T49.setTop (mkF m 389 #[lJ p0, lS, lI p1, lI p2, lI p3, lI (Int32.ofNat nl), lI ((p2 &&& (2147483647 : Int32)) % (5 : Int32)), lI jU, lJ (Int64.ofNat nu), lS, lR b2, lJ (Int64.ofNat (own_val jx6)), lS, lI rd_48, lU, lU, lU] [(.int rd_48), (.long ((Int64.ofNat (own_val jx6)) * (10 : Int64)))]))
                  refine Go.st (fun _ => XS.i2l X49.here hx rfl (hb hby at_389) rfl) ?_
                  show Go _ _ _ _ (T49.setTop (mkF m 390 #[lJ p0, lS, lI p1, lI p2, lI p3, lI (Int32.ofNat nl), lI ((p2 &&& (2147483647 : Int32)) % (5 : Int32)), lI jU, lJ (Int64.ofNat nu), lS, lR b2, lJ (Int64.ofNat (own_val jx6)), lS, lI rd_48, lU, lU, lU] [(.long (rd_48.toInt64)), (.long ((Int64.ofNat (own_val jx6)) * (10 : Int64)))]))
                  refine Go.st (fun _ => XS.ladd X49.here hx rfl (hb hby at_390) rfl) ?_
                  show Go _ _ _ _ (T49.setTop (mkF m 391 #[lJ p0, lS, lI p1, lI p2, lI p3, lI (Int32.ofNat nl), lI ((p2 &&& (2147483647 : Int32)) % (5 : Int32)), lI jU, lJ (Int64.ofNat nu), lS, lR b2, lJ (Int64.ofNat (own_val jx6)), lS, lI rd_48, lU, lU, lU] [(.long (((Int64.ofNat (own_val jx6)) * (10 : Int64)) + (rd_48.toInt64)))]))
                  refine Go.st (fun _ => XS.lstore X49.here hx rfl (hb hby at_391) rfl (l' := #[.val (.long p0), .second, .val (.int p1), .val (.int p2), .val (.int p3), .val (.int (Int32.ofNat nl)), .val (.int ((p2 &&& (2147483647 : Int32)) % (5 : Int32))), .val (.int jU), .val (.long (Int64.ofNat nu)), .second, .val (.ref b2), .val (.long (((Int64.ofNat (own_val jx6)) * (10 : Int64)) + (rd_48.toInt64))), .second, .val (.int rd_48), .unset, .unset, .unset]) rfl) ?_
                  show Go _ _ _ _ (T49.setTop (mkF m 393 #[lJ p0, lS, lI p1, lI p2, lI p3, lI (Int32.ofNat nl), lI ((p2 &&& (2147483647 : Int32)) % (5 : Int32)), lI jU, lJ (Int64.ofNat nu), lS, lR b2, lJ (((Int64.ofNat (own_val jx6)) * (10 : Int64)) + (rd_48.toInt64)), lS, lI rd_48, lU, lU, lU] []))
                  exact J13 T49 h49 _ _ _ (X49.more (by decide) (by decide)) e49 K49 O49 N49 hSj12 (Nat.le_trans hkj12 (Keep.of_wr W49).1) hZj12 hownj12  (((Int64.ofNat (own_val jx6)) * (10 : Int64)) + (rd_48.toInt64)) rd_48 (jx6 ++ [((48 : Int32) + rd_48)])  V49' (by simp only [List.length_append, List.length_singleton, List.length_nil]; omega) (own_D_snoc hdig6 ⟨(own_48 q47_0).1, (own_48 q47_0).2.1⟩) (own_cnt q47_0)
                · skip
                  have hb7 : nl ≤ 7 := own_nltN' (i := 7) hc46 (by decide) (by omega)
                  refine Go.st (fun _ => XS.icmpYes Xj12.here hx rfl (pc0 := 359) (pc' := 393) rfl (hb hby at_359) rfl (flt hc46).2.2.2 (by decide) (by decide)) ?_
                  show Go _ _ _ _ (Tj12.setTop (mkF m 393 #[lJ p0, lS, lI p1, lI p2, lI p3, lI (Int32.ofNat nl), lI ((p2 &&& (2147483647 : Int32)) % (5 : Int32)), lI jU, lJ (Int64.ofNat nu), lS, lR b2, lJ (Int64.ofNat (own_val jx6)), lS, lI jd6, lU, lU, lU] []))
                  exact J13 Tj12 hj12 _ _ _ (Xj12.more (by decide) (by decide)) ej12 Kj12 Oj12 Nj12 hSj12 hkj12 hZj12 hownj12  (Int64.ofNat (own_val jx6)) jd6 jx6  hA6 (by omega) hdig6 rfl
              by_cases hc50 : (6 : Int32) < (Int32.ofNat nl)
              · skip
                have hb6 : 6 < nl := own_ltN' (i := 6) hc50 (by decide) (by omega)
                refine Go.st (fun _ => XS.icmpNo Xj11.here hx rfl (hb hby at_321) rfl (tlt hc50).2.2.2) ?_
                show Go _ _ _ _ (Tj11.setTop (mkF m 324 #[lJ p0, lS, lI p1, lI p2, lI p3, lI (Int32.ofNat nl), lI ((p2 &&& (2147483647 : Int32)) % (5 : Int32)), lI jU, lJ (Int64.ofNat nu), lS, lR b2, lJ (Int64.ofNat (own_val jx5)), lS, lI jd5, lU, lU, lU] []))
                refine Go.st (fun _ => XS.lloadN Xj11.here hx rfl (hb hby at_324) rfl) ?_
                refine Go.st (fun _ => XS.bipush Xj11.here hx rfl (hb hby at_325)) ?_
                show Go _ _ _ _ (Tj11.setTop (mkF m 327 #[lJ p0, lS, lI p1, lI p2, lI p3, lI (Int32.ofNat nl), lI ((p2 &&& (2147483647 : Int32)) % (5 : Int32)), lI jU, lJ (Int64.ofNat nu), lS, lR b2, lJ (Int64.ofNat (own_val jx5)), lS, lI jd5, lU, lU, lU] [(.int (6 : Int32)), (.long p0)]))
                obtain ⟨_, _, ⟨T51, L51, k51, n51⟩, -, X51, ⟨Lc51, hQ51, l51, y51, z51⟩, st51⟩ := Jvm.LawKit.callS Xj11 hx (y := (⟨"com/example/vacuum/vacuum/settings/DurationsParsePinLaw", "digit", "(JI)I"⟩ : MethodName)) hownj11 (mvT hZj11 (ow hw 3 rfl)) (mvT hZj11 (ow hw 4 rfl)) (mvT hZj11 (ow hw 5 rfl)) (mvT hZj11 (ow hw 6 rfl)) (by decide) (backOf (W := 0) (rm_digit l Z a0 hw [] p0 (6 : Int32) hj11 n0 Oj11 ) hZj11 (ow hw 6 rfl) (ow hw 5 rfl) (by decide) (by decide)) (g := (mkF m 327 #[.val (.long p0), .second, .val (.int p1), .val (.int p2), .val (.int p3), .val (.int (Int32.ofNat nl)), .val (.int ((p2 &&& (2147483647 : Int32)) % (5 : Int32))), .val (.int jU), .val (.long (Int64.ofNat nu)), .second, .val (.ref b2), .val (.long (Int64.ofNat (own_val jx5))), .second, .val (.int jd5), .unset, .unset, .unset] [(.int (6 : Int32)), (.long p0)])) rfl (by rw [hml]; rfl) (argsL := [(.long p0), (.int (6 : Int32))]) (rest := []) (lenOf own_pd11 rfl) rfl (by show 2 * 0 + _ ≤ _; exact Nat.le_of_eq rfl) (hb hby at_327) (fun _ _ => ⟨rfl, ej11, (by decide : 1 + 0 ≤ _), (by decide : 11 + 0 ≤ _)⟩)
                dsimp only [Pt.U, Pt.locs, Pt.cells, Pt.slots] at X51 l51 y51 z51 st51 hQ51
                subst y51 z51
                refine Go.st st51 ?_
                obtain ⟨rd_52, rfl, N51q, e51, q51_0⟩ := hQ51
                have N51 : Fr n0 L51 := by rw [l51]; exact Fr.app Nj11 N51q
                show Go _ _ _ _ (T51.setTop (mkF m 330 #[lJ p0, lS, lI p1, lI p2, lI p3, lI (Int32.ofNat nl), lI ((p2 &&& (2147483647 : Int32)) % (5 : Int32)), lI jU, lJ (Int64.ofNat nu), lS, lR b2, lJ (Int64.ofNat (own_val jx5)), lS, lI jd5, lU, lU, lU] [(.int rd_52)]))
                refine Go.st (fun _ => XS.istore X51.here hx rfl (hb hby at_330) rfl (l' := #[.val (.long p0), .second, .val (.int p1), .val (.int p2), .val (.int p3), .val (.int (Int32.ofNat nl)), .val (.int ((p2 &&& (2147483647 : Int32)) % (5 : Int32))), .val (.int jU), .val (.long (Int64.ofNat nu)), .second, .val (.ref b2), .val (.long (Int64.ofNat (own_val jx5))), .second, .val (.int rd_52), .unset, .unset, .unset]) rfl) ?_
                show Go _ _ _ _ (T51.setTop (mkF m 332 #[lJ p0, lS, lI p1, lI p2, lI p3, lI (Int32.ofNat nl), lI ((p2 &&& (2147483647 : Int32)) % (5 : Int32)), lI jU, lJ (Int64.ofNat nu), lS, lR b2, lJ (Int64.ofNat (own_val jx5)), lS, lI rd_52, lU, lU, lU] []))
                refine Go.st (fun _ => XS.aload X51.here hx rfl (hb hby at_332) rfl rfl) ?_
                refine Go.st (fun _ => XS.bipush X51.here hx rfl (hb hby at_334)) ?_
                refine Go.st (fun _ => XS.bipush X51.here hx rfl (hb hby at_336)) ?_
                refine Go.st (fun _ => XS.iload X51.here hx rfl (hb hby at_338) rfl) ?_
                show Go _ _ _ _ (T51.setTop (mkF m 340 #[lJ p0, lS, lI p1, lI p2, lI p3, lI (Int32.ofNat nl), lI ((p2 &&& (2147483647 : Int32)) % (5 : Int32)), lI jU, lJ (Int64.ofNat nu), lS, lR b2, lJ (Int64.ofNat (own_val jx5)), lS, lI rd_52, lU, lU, lU] [(.int rd_52), (.int (48 : Int32)), (.int (6 : Int32)), (.ref b2)]))
                refine Go.st (fun _ => XS.iadd X51.here hx rfl (hb hby at_340) rfl) ?_
                show Go _ _ _ _ (T51.setTop (mkF m 341 #[lJ p0, lS, lI p1, lI p2, lI p3, lI (Int32.ofNat nl), lI ((p2 &&& (2147483647 : Int32)) % (5 : Int32)), lI jU, lJ (Int64.ofNat nu), lS, lR b2, lJ (Int64.ofNat (own_val jx5)), lS, lI rd_52, lU, lU, lU] [(.int ((48 : Int32) + rd_52)), (.int (6 : Int32)), (.ref b2)]))
                refine Go.st (fun _ => XS.i2c X51.here hx rfl (hb hby at_341) rfl) ?_
                show Go _ _ _ _ (T51.setTop (mkF m 342 #[lJ p0, lS, lI p1, lI p2, lI p3, lI (Int32.ofNat nl), lI ((p2 &&& (2147483647 : Int32)) % (5 : Int32)), lI jU, lJ (Int64.ofNat nu), lS, lR b2, lJ (Int64.ofNat (own_val jx5)), lS, lI rd_52, lU, lU, lU] [(.int (((48 : Int32) + rd_52).toUInt32.toUInt16.toUInt32.toInt32)), (.int (6 : Int32)), (.ref b2)]))
                rw [show (((48 : Int32) + rd_52).toUInt32.toUInt16.toUInt32.toInt32) = ((48 : Int32) + rd_52) from own_i2c48 q51_0]
                show Go _ _ _ _ (T51.setTop (mkF m 342 #[lJ p0, lS, lI p1, lI p2, lI p3, lI (Int32.ofNat nl), lI ((p2 &&& (2147483647 : Int32)) % (5 : Int32)), lI jU, lJ (Int64.ofNat nu), lS, lR b2, lJ (Int64.ofNat (own_val jx5)), lS, lI rd_52, lU, lU, lU] [(.int ((48 : Int32) + rd_52)), (.int (6 : Int32)), (.ref b2)]))
                have P53 : Arv Z hj11 b2 k2 .char (Int32.ofNat (nl + 1)) ((jx5 ++ [0]).map Value.int) (.int (0 : Int32)) := Arv.pad hA5 (own_pad0 jx5)
                obtain ⟨T53, h53, X53, e53, W53, V53, st53⟩ := own_stC X51 hx hZj11 e51 P53 (j := (6 : Int32)) (i := jx5.length) ⟨by decide, own_ltN (i := 6) (by omega) (by omega)⟩ (by rw [show jx5.length = 6 from by omega]; rfl) (own_pad1 jx5) (g := (mkF m 342 #[.val (.long p0), .second, .val (.int p1), .val (.int p2), .val (.int p3), .val (.int (Int32.ofNat nl)), .val (.int ((p2 &&& (2147483647 : Int32)) % (5 : Int32))), .val (.int jU), .val (.long (Int64.ofNat nu)), .second, .val (.ref b2), .val (.long (Int64.ofNat (own_val jx5))), .second, .val (.int rd_52), .unset, .unset, .unset] [(.int ((48 : Int32) + rd_52)), (.int (6 : Int32)), (.ref b2)])) rfl rfl (hb hby at_342)
                refine Go.st st53 ?_
                rw [show nar .char ((48 : Int32) + rd_52) = ((48 : Int32) + rd_52) from own_nar48 q51_0] at V53
                have K53 : Keep h0 h53 [] := Kj11.wr W53 (Or.inr sz_b2)
                have O53 := Oj11.wr W53 g_b2
                have N53 := Fr.snoc X53 N51 g_b2
                have V53' : Arv Z h53 b2 k2 .char (Int32.ofNat (nl + 1)) ((jx5 ++ [((48 : Int32) + rd_52)]).map Value.int) (.int (0 : Int32)) := by rw [← own_setlast]; exact V53
                show Go _ _ _ _ (T53.setTop (mkF m 343 #[lJ p0, lS, lI p1, lI p2, lI p3, lI (Int32.ofNat nl), lI ((p2 &&& (2147483647 : Int32)) % (5 : Int32)), lI jU, lJ (Int64.ofNat nu), lS, lR b2, lJ (Int64.ofNat (own_val jx5)), lS, lI rd_52, lU, lU, lU] []))
                refine Go.st (fun _ => XS.lload X53.here hx rfl (hb hby at_343) rfl) ?_
                show Go _ _ _ _ (T53.setTop (mkF m 345 #[lJ p0, lS, lI p1, lI p2, lI p3, lI (Int32.ofNat nl), lI ((p2 &&& (2147483647 : Int32)) % (5 : Int32)), lI jU, lJ (Int64.ofNat nu), lS, lR b2, lJ (Int64.ofNat (own_val jx5)), lS, lI rd_52, lU, lU, lU] [(.long (Int64.ofNat (own_val jx5)))]))
                refine Go.st (fun _ => X53.ldc2Long hx hownj11 (mvT hZj11 (ow hw 8 rfl)) (g := (mkF m 345 #[.val (.long p0), .second, .val (.int p1), .val (.int p2), .val (.int p3), .val (.int (Int32.ofNat nl)), .val (.int ((p2 &&& (2147483647 : Int32)) % (5 : Int32))), .val (.int jU), .val (.long (Int64.ofNat nu)), .second, .val (.ref b2), .val (.long (Int64.ofNat (own_val jx5))), .second, .val (.int rd_52), .unset, .unset, .unset] [(.long (Int64.ofNat (own_val jx5)))])) rfl (hb hby at_345) _) ?_
                show Go _ _ _ _ (T53.setTop (mkF m 348 #[lJ p0, lS, lI p1, lI p2, lI p3, lI (Int32.ofNat nl), lI ((p2 &&& (2147483647 : Int32)) % (5 : Int32)), lI jU, lJ (Int64.ofNat nu), lS, lR b2, lJ (Int64.ofNat (own_val jx5)), lS, lI rd_52, lU, lU, lU] [(.long (10 : Int64)), (.long (Int64.ofNat (own_val jx5)))]))
                refine Go.st (fun _ => XS.lmul X53.here hx rfl (hb hby at_348) rfl) ?_
                show Go _ _ _ _ (T53.setTop (mkF m 349 #[lJ p0, lS, lI p1, lI p2, lI p3, lI (Int32.ofNat nl), lI ((p2 &&& (2147483647 : Int32)) % (5 : Int32)), lI jU, lJ (Int64.ofNat nu), lS, lR b2, lJ (Int64.ofNat (own_val jx5)), lS, lI rd_52, lU, lU, lU] [(.long ((Int64.ofNat (own_val jx5)) * (10 : Int64)))]))
                refine Go.st (fun _ => XS.iload X53.here hx rfl (hb hby at_349) rfl) ?_
                show Go _ _ _ _ (T53.setTop (mkF m 351 #[lJ p0, lS, lI p1, lI p2, lI p3, lI (Int32.ofNat nl), lI ((p2 &&& (2147483647 : Int32)) % (5 : Int32)), lI jU, lJ (Int64.ofNat nu), lS, lR b2, lJ (Int64.ofNat (own_val jx5)), lS, lI rd_52, lU, lU, lU] [(.int rd_52), (.long ((Int64.ofNat (own_val jx5)) * (10 : Int64)))]))
                refine Go.st (fun _ => XS.i2l X53.here hx rfl (hb hby at_351) rfl) ?_
                show Go _ _ _ _ (T53.setTop (mkF m 352 #[lJ p0, lS, lI p1, lI p2, lI p3, lI (Int32.ofNat nl), lI ((p2 &&& (2147483647 : Int32)) % (5 : Int32)), lI jU, lJ (Int64.ofNat nu), lS, lR b2, lJ (Int64.ofNat (own_val jx5)), lS, lI rd_52, lU, lU, lU] [(.long (rd_52.toInt64)), (.long ((Int64.ofNat (own_val jx5)) * (10 : Int64)))]))
                refine Go.st (fun _ => XS.ladd X53.here hx rfl (hb hby at_352) rfl) ?_
                show Go _ _ _ _ (T53.setTop (mkF m 353 #[lJ p0, lS, lI p1, lI p2, lI p3, lI (Int32.ofNat nl), lI ((p2 &&& (2147483647 : Int32)) % (5 : Int32)), lI jU, lJ (Int64.ofNat nu), lS, lR b2, lJ (Int64.ofNat (own_val jx5)), lS, lI rd_52, lU, lU, lU] [(.long (((Int64.ofNat (own_val jx5)) * (10 : Int64)) + (rd_52.toInt64)))]))
                refine Go.st (fun _ => XS.lstore X53.here hx rfl (hb hby at_353) rfl (l' := #[.val (.long p0), .second, .val (.int p1), .val (.int p2), .val (.int p3), .val (.int (Int32.ofNat nl)), .val (.int ((p2 &&& (2147483647 : Int32)) % (5 : Int32))), .val (.int jU), .val (.long (Int64.ofNat nu)), .second, .val (.ref b2), .val (.long (((Int64.ofNat (own_val jx5)) * (10 : Int64)) + (rd_52.toInt64))), .second, .val (.int rd_52), .unset, .unset, .unset]) rfl) ?_
                show Go _ _ _ _ (T53.setTop (mkF m 355 #[lJ p0, lS, lI p1, lI p2, lI p3, lI (Int32.ofNat nl), lI ((p2 &&& (2147483647 : Int32)) % (5 : Int32)), lI jU, lJ (Int64.ofNat nu), lS, lR b2, lJ (((Int64.ofNat (own_val jx5)) * (10 : Int64)) + (rd_52.toInt64)), lS, lI rd_52, lU, lU, lU] []))
                exact J12 T53 h53 _ _ _ (X53.more (by decide) (by decide)) e53 K53 O53 N53 hSj11 (Nat.le_trans hkj11 (Keep.of_wr W53).1) hZj11 hownj11  (((Int64.ofNat (own_val jx5)) * (10 : Int64)) + (rd_52.toInt64)) rd_52 (jx5 ++ [((48 : Int32) + rd_52)])  V53' (by simp only [List.length_append, List.length_singleton, List.length_nil]; omega) (own_D_snoc hdig5 ⟨(own_48 q51_0).1, (own_48 q51_0).2.1⟩) (own_cnt q51_0)
              · skip
                have hb6 : nl ≤ 6 := own_nltN' (i := 6) hc50 (by decide) (by omega)
                refine Go.st (fun _ => XS.icmpYes Xj11.here hx rfl (pc0 := 321) (pc' := 355) rfl (hb hby at_321) rfl (flt hc50).2.2.2 (by decide) (by decide)) ?_
                show Go _ _ _ _ (Tj11.setTop (mkF m 355 #[lJ p0, lS, lI p1, lI p2, lI p3, lI (Int32.ofNat nl), lI ((p2 &&& (2147483647 : Int32)) % (5 : Int32)), lI jU, lJ (Int64.ofNat nu), lS, lR b2, lJ (Int64.ofNat (own_val jx5)), lS, lI jd5, lU, lU, lU] []))
                exact J12 Tj11 hj11 _ _ _ (Xj11.more (by decide) (by decide)) ej11 Kj11 Oj11 Nj11 hSj11 hkj11 hZj11 hownj11  (Int64.ofNat (own_val jx5)) jd5 jx5  hA5 (by omega) hdig5 rfl
            by_cases hc54 : (5 : Int32) < (Int32.ofNat nl)
            · skip
              have hb5 : 5 < nl := own_ltN' (i := 5) hc54 (by decide) (by omega)
              refine Go.st (fun _ => XS.icmpNo Xj10.here hx rfl (hb hby at_285) rfl (tlt hc54).2.2.2) ?_
              show Go _ _ _ _ (Tj10.setTop (mkF m 288 #[lJ p0, lS, lI p1, lI p2, lI p3, lI (Int32.ofNat nl), lI ((p2 &&& (2147483647 : Int32)) % (5 : Int32)), lI jU, lJ (Int64.ofNat nu), lS, lR b2, lJ (Int64.ofNat (own_val jx4)), lS, lI jd4, lU, lU, lU] []))
              refine Go.st (fun _ => XS.lloadN Xj10.here hx rfl (hb hby at_288) rfl) ?_
              refine Go.st (fun _ => XS.iconst Xj10.here hx rfl (hb hby at_289)) ?_
              show Go _ _ _ _ (Tj10.setTop (mkF m 290 #[lJ p0, lS, lI p1, lI p2, lI p3, lI (Int32.ofNat nl), lI ((p2 &&& (2147483647 : Int32)) % (5 : Int32)), lI jU, lJ (Int64.ofNat nu), lS, lR b2, lJ (Int64.ofNat (own_val jx4)), lS, lI jd4, lU, lU, lU] [(.int (5 : Int32)), (.long p0)]))
              obtain ⟨_, _, ⟨T55, L55, k55, n55⟩, -, X55, ⟨Lc55, hQ55, l55, y55, z55⟩, st55⟩ := Jvm.LawKit.callS Xj10 hx (y := (⟨"com/example/vacuum/vacuum/settings/DurationsParsePinLaw", "digit", "(JI)I"⟩ : MethodName)) hownj10 (mvT hZj10 (ow hw 3 rfl)) (mvT hZj10 (ow hw 4 rfl)) (mvT hZj10 (ow hw 5 rfl)) (mvT hZj10 (ow hw 6 rfl)) (by decide) (backOf (W := 0) (rm_digit l Z a0 hw [] p0 (5 : Int32) hj10 n0 Oj10 ) hZj10 (ow hw 6 rfl) (ow hw 5 rfl) (by decide) (by decide)) (g := (mkF m 290 #[.val (.long p0), .second, .val (.int p1), .val (.int p2), .val (.int p3), .val (.int (Int32.ofNat nl)), .val (.int ((p2 &&& (2147483647 : Int32)) % (5 : Int32))), .val (.int jU), .val (.long (Int64.ofNat nu)), .second, .val (.ref b2), .val (.long (Int64.ofNat (own_val jx4))), .second, .val (.int jd4), .unset, .unset, .unset] [(.int (5 : Int32)), (.long p0)])) rfl (by rw [hml]; rfl) (argsL := [(.long p0), (.int (5 : Int32))]) (rest := []) (lenOf own_pd11 rfl) rfl (by show 2 * 0 + _ ≤ _; exact Nat.le_of_eq rfl) (hb hby at_290) (fun _ _ => ⟨rfl, ej10, (by decide : 1 + 0 ≤ _), (by decide : 11 + 0 ≤ _)⟩)
              dsimp only [Pt.U, Pt.locs, Pt.cells, Pt.slots] at X55 l55 y55 z55 st55 hQ55
              subst y55 z55
              refine Go.st st55 ?_
              obtain ⟨rd_56, rfl, N55q, e55, q55_0⟩ := hQ55
              have N55 : Fr n0 L55 := by rw [l55]; exact Fr.app Nj10 N55q
              show Go _ _ _ _ (T55.setTop (mkF m 293 #[lJ p0, lS, lI p1, lI p2, lI p3, lI (Int32.ofNat nl), lI ((p2 &&& (2147483647 : Int32)) % (5 : Int32)), lI jU, lJ (Int64.ofNat nu), lS, lR b2, lJ (Int64.ofNat (own_val jx4)), lS, lI jd4, lU, lU, lU] [(.int rd_56)]))
              refine Go.st (fun _ => XS.istore X55.here hx rfl (hb hby at_293) rfl (l' := #[.val (.long p0), .second, .val (.int p1), .val (.int p2), .val (.int p3), .val (.int (Int32.ofNat nl)), .val (.int ((p2 &&& (2147483647 : Int32)) % (5 : Int32))), .val (.int jU), .val (.long (Int64.ofNat nu)), .second, .val (.ref b2), .val (.long (Int64.ofNat (own_val jx4))), .second, .val (.int rd_56), .unset, .unset, .unset]) rfl) ?_
              show Go _ _ _ _ (T55.setTop (mkF m 295 #[lJ p0, lS, lI p1, lI p2, lI p3, lI (Int32.ofNat nl), lI ((p2 &&& (2147483647 : Int32)) % (5 : Int32)), lI jU, lJ (Int64.ofNat nu), lS, lR b2, lJ (Int64.ofNat (own_val jx4)), lS, lI rd_56, lU, lU, lU] []))
              refine Go.st (fun _ => XS.aload X55.here hx rfl (hb hby at_295) rfl rfl) ?_
              refine Go.st (fun _ => XS.iconst X55.here hx rfl (hb hby at_297)) ?_
              refine Go.st (fun _ => XS.bipush X55.here hx rfl (hb hby at_298)) ?_
              refine Go.st (fun _ => XS.iload X55.here hx rfl (hb hby at_300) rfl) ?_
              show Go _ _ _ _ (T55.setTop (mkF m 302 #[lJ p0, lS, lI p1, lI p2, lI p3, lI (Int32.ofNat nl), lI ((p2 &&& (2147483647 : Int32)) % (5 : Int32)), lI jU, lJ (Int64.ofNat nu), lS, lR b2, lJ (Int64.ofNat (own_val jx4)), lS, lI rd_56, lU, lU, lU] [(.int rd_56), (.int (48 : Int32)), (.int (5 : Int32)), (.ref b2)]))
              refine Go.st (fun _ => XS.iadd X55.here hx rfl (hb hby at_302) rfl) ?_
              show Go _ _ _ _ (T55.setTop (mkF m 303 #[lJ p0, lS, lI p1, lI p2, lI p3, lI (Int32.ofNat nl), lI ((p2 &&& (2147483647 : Int32)) % (5 : Int32)), lI jU, lJ (Int64.ofNat nu), lS, lR b2, lJ (Int64.ofNat (own_val jx4)), lS, lI rd_56, lU, lU, lU] [(.int ((48 : Int32) + rd_56)), (.int (5 : Int32)), (.ref b2)]))
              refine Go.st (fun _ => XS.i2c X55.here hx rfl (hb hby at_303) rfl) ?_
              show Go _ _ _ _ (T55.setTop (mkF m 304 #[lJ p0, lS, lI p1, lI p2, lI p3, lI (Int32.ofNat nl), lI ((p2 &&& (2147483647 : Int32)) % (5 : Int32)), lI jU, lJ (Int64.ofNat nu), lS, lR b2, lJ (Int64.ofNat (own_val jx4)), lS, lI rd_56, lU, lU, lU] [(.int (((48 : Int32) + rd_56).toUInt32.toUInt16.toUInt32.toInt32)), (.int (5 : Int32)), (.ref b2)]))
              rw [show (((48 : Int32) + rd_56).toUInt32.toUInt16.toUInt32.toInt32) = ((48 : Int32) + rd_56) from own_i2c48 q55_0]
              show Go _ _ _ _ (T55.setTop (mkF m 304 #[lJ p0, lS, lI p1, lI p2, lI p3, lI (Int32.ofNat nl), lI ((p2 &&& (2147483647 : Int32)) % (5 : Int32)), lI jU, lJ (Int64.ofNat nu), lS, lR b2, lJ (Int64.ofNat (own_val jx4)), lS, lI rd_56, lU, lU, lU] [(.int ((48 : Int32) + rd_56)), (.int (5 : Int32)), (.ref b2)]))
              have P57 : Arv Z hj10 b2 k2 .char (Int32.ofNat (nl + 1)) ((jx4 ++ [0]).map Value.int) (.int (0 : Int32)) := Arv.pad hA4 (own_pad0 jx4)
              obtain ⟨T57, h57, X57, e57, W57, V57, st57⟩ := own_stC X55 hx hZj10 e55 P57 (j := (5 : Int32)) (i := jx4.length) ⟨by decide, own_ltN (i := 5) (by omega) (by omega)⟩ (by rw [show jx4.length = 5 from by omega]; rfl) (own_pad1 jx4) (g := (mkF m 304 #[.val (.long p0), .second, .val (.int p1), .val (.int p2), .val (.int p3), .val (.int (Int32.ofNat nl)), .val (.int ((p2 &&& (2147483647 : Int32)) % (5 : Int32))), .val (.int jU), .val (.long (Int64.ofNat nu)), .second, .val (.ref b2), .val (.long (Int64.ofNat (own_val jx4))), .second, .val (.int rd_56), .unset, .unset, .unset] [(.int ((48 : Int32) + rd_56)), (.int (5 : Int32)), (.ref b2)])) rfl rfl (hb hby at_304)
              refine Go.st st57 ?_
              rw [show nar .char ((48 : Int32) + rd_56) = ((48 : Int32) + rd_56) from own_nar48 q55_0] at V57
              have K57 : Keep h0 h57 [] := Kj10.wr W57 (Or.inr sz_b2)
              have O57 := Oj10.wr W57 g_b2
              have N57 := Fr.snoc X57 N55 g_b2
              have V57' : Arv Z h57 b2 k2 .char (Int32.ofNat (nl + 1)) ((jx4 ++ [((48 : Int32) + rd_56)]).map Value.int) (.int (0 : Int32)) := by rw [← own_setlast]; exact V57
              show Go _ _ _ _ (T57.setTop (mkF m 305 #[lJ p0, lS, lI p1, lI p2, lI p3, lI (Int32.ofNat nl), lI ((p2 &&& (2147483647 : Int32)) % (5 : Int32)), lI jU, lJ (Int64.ofNat nu), lS, lR b2, lJ (Int64.ofNat (own_val jx4)), lS, lI rd_56, lU, lU, lU] []))
              refine Go.st (fun _ => XS.lload X57.here hx rfl (hb hby at_305) rfl) ?_
              show Go _ _ _ _ (T57.setTop (mkF m 307 #[lJ p0, lS, lI p1, lI p2, lI p3, lI (Int32.ofNat nl), lI ((p2 &&& (2147483647 : Int32)) % (5 : Int32)), lI jU, lJ (Int64.ofNat nu), lS, lR b2, lJ (Int64.ofNat (own_val jx4)), lS, lI rd_56, lU, lU, lU] [(.long (Int64.ofNat (own_val jx4)))]))
              refine Go.st (fun _ => X57.ldc2Long hx hownj10 (mvT hZj10 (ow hw 8 rfl)) (g := (mkF m 307 #[.val (.long p0), .second, .val (.int p1), .val (.int p2), .val (.int p3), .val (.int (Int32.ofNat nl)), .val (.int ((p2 &&& (2147483647 : Int32)) % (5 : Int32))), .val (.int jU), .val (.long (Int64.ofNat nu)), .second, .val (.ref b2), .val (.long (Int64.ofNat (own_val jx4))), .second, .val (.int rd_56), .unset, .unset, .unset] [(.long (Int64.ofNat (own_val jx4)))])) rfl (hb hby at_307) _) ?_
              show Go _ _ _ _ (T57.setTop (mkF m 310 #[lJ p0, lS, lI p1, lI p2, lI p3, lI (Int32.ofNat nl), lI ((p2 &&& (2147483647 : Int32)) % (5 : Int32)), lI jU, lJ (Int64.ofNat nu), lS, lR b2, lJ (Int64.ofNat (own_val jx4)), lS, lI rd_56, lU, lU, lU] [(.long (10 : Int64)), (.long (Int64.ofNat (own_val jx4)))]))
              refine Go.st (fun _ => XS.lmul X57.here hx rfl (hb hby at_310) rfl) ?_
              show Go _ _ _ _ (T57.setTop (mkF m 311 #[lJ p0, lS, lI p1, lI p2, lI p3, lI (Int32.ofNat nl), lI ((p2 &&& (2147483647 : Int32)) % (5 : Int32)), lI jU, lJ (Int64.ofNat nu), lS, lR b2, lJ (Int64.ofNat (own_val jx4)), lS, lI rd_56, lU, lU, lU] [(.long ((Int64.ofNat (own_val jx4)) * (10 : Int64)))]))
              refine Go.st (fun _ => XS.iload X57.here hx rfl (hb hby at_311) rfl) ?_
              show Go _ _ _ _ (T57.setTop (mkF m 313 #[lJ p0, lS, lI p1, lI p2, lI p3, lI (Int32.ofNat nl), lI ((p2 &&& (2147483647 : Int32)) % (5 : Int32)), lI jU, lJ (Int64.ofNat nu), lS, lR b2, lJ (Int64.ofNat (own_val jx4)), lS, lI rd_56, lU, lU, lU] [(.int rd_56), (.long ((Int64.ofNat (own_val jx4)) * (10 : Int64)))]))
              refine Go.st (fun _ => XS.i2l X57.here hx rfl (hb hby at_313) rfl) ?_
              show Go _ _ _ _ (T57.setTop (mkF m 314 #[lJ p0, lS, lI p1, lI p2, lI p3, lI (Int32.ofNat nl), lI ((p2 &&& (2147483647 : Int32)) % (5 : Int32)), lI jU, lJ (Int64.ofNat nu), lS, lR b2, lJ (Int64.ofNat (own_val jx4)), lS, lI rd_56, lU, lU, lU] [(.long (rd_56.toInt64)), (.long ((Int64.ofNat (own_val jx4)) * (10 : Int64)))]))
              refine Go.st (fun _ => XS.ladd X57.here hx rfl (hb hby at_314) rfl) ?_
              show Go _ _ _ _ (T57.setTop (mkF m 315 #[lJ p0, lS, lI p1, lI p2, lI p3, lI (Int32.ofNat nl), lI ((p2 &&& (2147483647 : Int32)) % (5 : Int32)), lI jU, lJ (Int64.ofNat nu), lS, lR b2, lJ (Int64.ofNat (own_val jx4)), lS, lI rd_56, lU, lU, lU] [(.long (((Int64.ofNat (own_val jx4)) * (10 : Int64)) + (rd_56.toInt64)))]))
              refine Go.st (fun _ => XS.lstore X57.here hx rfl (hb hby at_315) rfl (l' := #[.val (.long p0), .second, .val (.int p1), .val (.int p2), .val (.int p3), .val (.int (Int32.ofNat nl)), .val (.int ((p2 &&& (2147483647 : Int32)) % (5 : Int32))), .val (.int jU), .val (.long (Int64.ofNat nu)), .second, .val (.ref b2), .val (.long (((Int64.ofNat (own_val jx4)) * (10 : Int64)) + (rd_56.toInt64))), .second, .val (.int rd_56), .unset, .unset, .unset]) rfl) ?_
              show Go _ _ _ _ (T57.setTop (mkF m 317 #[lJ p0, lS, lI p1, lI p2, lI p3, lI (Int32.ofNat nl), lI ((p2 &&& (2147483647 : Int32)) % (5 : Int32)), lI jU, lJ (Int64.ofNat nu), lS, lR b2, lJ (((Int64.ofNat (own_val jx4)) * (10 : Int64)) + (rd_56.toInt64)), lS, lI rd_56, lU, lU, lU] []))
              exact J11 T57 h57 _ _ _ (X57.more (by decide) (by decide)) e57 K57 O57 N57 hSj10 (Nat.le_trans hkj10 (Keep.of_wr W57).1) hZj10 hownj10  (((Int64.ofNat (own_val jx4)) * (10 : Int64)) + (rd_56.toInt64)) rd_56 (jx4 ++ [((48 : Int32) + rd_56)])  V57' (by simp only [List.length_append, List.length_singleton, List.length_nil]; omega) (own_D_snoc hdig4 ⟨(own_48 q55_0).1, (own_48 q55_0).2.1⟩) (own_cnt q55_0)
            · skip
              have hb5 : nl ≤ 5 := own_nltN' (i := 5) hc54 (by decide) (by omega)
              refine Go.st (fun _ => XS.icmpYes Xj10.here hx rfl (pc0 := 285) (pc' := 317) rfl (hb hby at_285) rfl (flt hc54).2.2.2 (by decide) (by decide)) ?_
              show Go _ _ _ _ (Tj10.setTop (mkF m 317 #[lJ p0, lS, lI p1, lI p2, lI p3, lI (Int32.ofNat nl), lI ((p2 &&& (2147483647 : Int32)) % (5 : Int32)), lI jU, lJ (Int64.ofNat nu), lS, lR b2, lJ (Int64.ofNat (own_val jx4)), lS, lI jd4, lU, lU, lU] []))
              exact J11 Tj10 hj10 _ _ _ (Xj10.more (by decide) (by decide)) ej10 Kj10 Oj10 Nj10 hSj10 hkj10 hZj10 hownj10  (Int64.ofNat (own_val jx4)) jd4 jx4  hA4 (by omega) hdig4 rfl
          by_cases hc58 : (4 : Int32) < (Int32.ofNat nl)
          · skip
            have hb4 : 4 < nl := own_ltN' (i := 4) hc58 (by decide) (by omega)
            refine Go.st (fun _ => XS.icmpNo Xj9.here hx rfl (hb hby at_250) rfl (tlt hc58).2.2.2) ?_
            show Go _ _ _ _ (Tj9.setTop (mkF m 253 #[lJ p0, lS, lI p1, lI p2, lI p3, lI (Int32.ofNat nl), lI ((p2 &&& (2147483647 : Int32)) % (5 : Int32)), lI jU, lJ (Int64.ofNat nu), lS, lR b2, lJ (Int64.ofNat (own_val jx3)), lS, lI jd3, lU, lU, lU] []))
            refine Go.st (fun _ => XS.lloadN Xj9.here hx rfl (hb hby at_253) rfl) ?_
            refine Go.st (fun _ => XS.iconst Xj9.here hx rfl (hb hby at_254)) ?_
            show Go _ _ _ _ (Tj9.setTop (mkF m 255 #[lJ p0, lS, lI p1, lI p2, lI p3, lI (Int32.ofNat nl), lI ((p2 &&& (2147483647 : Int32)) % (5 : Int32)), lI jU, lJ (Int64.ofNat nu), lS, lR b2, lJ (Int64.ofNat (own_val jx3)), lS, lI jd3, lU, lU, lU] [(.int (4 : Int32)), (.long p0)]))
            obtain ⟨_, _, ⟨T59, L59, k59, n59⟩, -, X59, ⟨Lc59, hQ59, l59, y59, z59⟩, st59⟩ := Jvm.LawKit.callS Xj9 hx (y := (⟨"com/example/vacuum/vacuum/settings/DurationsParsePinLaw", "digit", "(JI)I"⟩ : MethodName)) hownj9 (mvT hZj9 (ow hw 3 rfl)) (mvT hZj9 (ow hw 4 rfl)) (mvT hZj9 (ow hw 5 rfl)) (mvT hZj9 (ow hw 6 rfl)) (by decide) (backOf (W := 0) (rm_digit l Z a0 hw [] p0 (4 : Int32) hj9 n0 Oj9 ) hZj9 (ow hw 6 rfl) (ow hw 5 rfl) (by decide) (by decide)) (g := (mkF m 255 #[.val (.long p0), .second, .val (.int p1), .val (.int p2), .val (.int p3), .val (.int (Int32.ofNat nl)), .val (.int ((p2 &&& (2147483647 : Int32)) % (5 : Int32))), .val (.int jU), .val (.long (Int64.ofNat nu)), .second, .val (.ref b2), .val (.long (Int64.ofNat (own_val jx3))), .second, .val (.int jd3), .unset, .unset, .unset] [(.int (4 : Int32)), (.long p0)])) rfl (by rw [hml]; rfl) (argsL := [(.long p0), (.int (4 : Int32))]) (rest := []) (lenOf own_pd11 rfl) rfl (by show 2 * 0 + _ ≤ _; exact Nat.le_of_eq rfl) (hb hby at_255) (fun _ _ => ⟨rfl, ej9, (by decide : 1 + 0 ≤ _), (by decide : 11 + 0 ≤ _)⟩)
            dsimp only [Pt.U, Pt.locs, Pt.cells, Pt.slots] at X59 l59 y59 z59 st59 hQ59
            subst y59 z59
            refine Go.st st59 ?_
            obtain ⟨rd_60, rfl, N59q, e59, q59_0⟩ := hQ59
            have N59 : Fr n0 L59 := by rw [l59]; exact Fr.app Nj9 N59q
            show Go _ _ _ _ (T59.setTop (mkF m 258 #[lJ p0, lS, lI p1, lI p2, lI p3, lI (Int32.ofNat nl), lI ((p2 &&& (2147483647 : Int32)) % (5 : Int32)), lI jU, lJ (Int64.ofNat nu), lS, lR b2, lJ (Int64.ofNat (own_val jx3)), lS, lI jd3, lU, lU, lU] [(.int rd_60)]))
            refine Go.st (fun _ => XS.istore X59.here hx rfl (hb hby at_258) rfl (l' := #[.val (.long p0), .second, .val (.int p1), .val (.int p2), .val (.int p3), .val (.int (Int32.ofNat nl)), .val (.int ((p2 &&& (2147483647 : Int32)) % (5 : Int32))), .val (.int jU), .val (.long (Int64.ofNat nu)), .second, .val (.ref b2), .val (.long (Int64.ofNat (own_val jx3))), .second, .val (.int rd_60), .unset, .unset, .unset]) rfl) ?_
            show Go _ _ _ _ (T59.setTop (mkF m 260 #[lJ p0, lS, lI p1, lI p2, lI p3, lI (Int32.ofNat nl), lI ((p2 &&& (2147483647 : Int32)) % (5 : Int32)), lI jU, lJ (Int64.ofNat nu), lS, lR b2, lJ (Int64.ofNat (own_val jx3)), lS, lI rd_60, lU, lU, lU] []))
            refine Go.st (fun _ => XS.aload X59.here hx rfl (hb hby at_260) rfl rfl) ?_
            refine Go.st (fun _ => XS.iconst X59.here hx rfl (hb hby at_262)) ?_
            refine Go.st (fun _ => XS.bipush X59.here hx rfl (hb hby at_263)) ?_
            refine Go.st (fun _ => XS.iload X59.here hx rfl (hb hby at_265) rfl) ?_
            show Go _ _ _ _ (T59.setTop (mkF m 267 #[lJ p0, lS, lI p1, lI p2, lI p3, lI (Int32.ofNat nl), lI ((p2 &&& (2147483647 : Int32)) % (5 : Int32)), lI jU, lJ (Int64.ofNat nu), lS, lR b2, lJ (Int64.ofNat (own_val jx3)), lS, lI rd_60, lU, lU, lU] [(.int rd_60), (.int (48 : Int32)), (.int (4 : Int32)), (.ref b2)]))
            refine Go.st (fun _ => XS.iadd X59.here hx rfl (hb hby at_267) rfl) ?_
            show Go _ _ _ _ (T59.setTop (mkF m 268 #[lJ p0, lS, lI p1, lI p2, lI p3, lI (Int32.ofNat nl), lI ((p2 &&& (2147483647 : Int32)) % (5 : Int32)), lI jU, lJ (Int64.ofNat nu), lS, lR b2, lJ (Int64.ofNat (own_val jx3)), lS, lI rd_60, lU, lU, lU] [(.int ((48 : Int32) + rd_60)), (.int (4 : Int32)), (.ref b2)]))
            refine Go.st (fun _ => XS.i2c X59.here hx rfl (hb hby at_268) rfl) ?_
            show Go _ _ _ _ (T59.setTop (mkF m 269 #[lJ p0, lS, lI p1, lI p2, lI p3, lI (Int32.ofNat nl), lI ((p2 &&& (2147483647 : Int32)) % (5 : Int32)), lI jU, lJ (Int64.ofNat nu), lS, lR b2, lJ (Int64.ofNat (own_val jx3)), lS, lI rd_60, lU, lU, lU] [(.int (((48 : Int32) + rd_60).toUInt32.toUInt16.toUInt32.toInt32)), (.int (4 : Int32)), (.ref b2)]))
            rw [show (((48 : Int32) + rd_60).toUInt32.toUInt16.toUInt32.toInt32) = ((48 : Int32) + rd_60) from own_i2c48 q59_0]
            show Go _ _ _ _ (T59.setTop (mkF m 269 #[lJ p0, lS, lI p1, lI p2, lI p3, lI (Int32.ofNat nl), lI ((p2 &&& (2147483647 : Int32)) % (5 : Int32)), lI jU, lJ (Int64.ofNat nu), lS, lR b2, lJ (Int64.ofNat (own_val jx3)), lS, lI rd_60, lU, lU, lU] [(.int ((48 : Int32) + rd_60)), (.int (4 : Int32)), (.ref b2)]))
            have P61 : Arv Z hj9 b2 k2 .char (Int32.ofNat (nl + 1)) ((jx3 ++ [0]).map Value.int) (.int (0 : Int32)) := Arv.pad hA3 (own_pad0 jx3)
            obtain ⟨T61, h61, X61, e61, W61, V61, st61⟩ := own_stC X59 hx hZj9 e59 P61 (j := (4 : Int32)) (i := jx3.length) ⟨by decide, own_ltN (i := 4) (by omega) (by omega)⟩ (by rw [show jx3.length = 4 from by omega]; rfl) (own_pad1 jx3) (g := (mkF m 269 #[.val (.long p0), .second, .val (.int p1), .val (.int p2), .val (.int p3), .val (.int (Int32.ofNat nl)), .val (.int ((p2 &&& (2147483647 : Int32)) % (5 : Int32))), .val (.int jU), .val (.long (Int64.ofNat nu)), .second, .val (.ref b2), .val (.long (Int64.ofNat (own_val jx3))), .second, .val (.int rd_60), .unset, .unset, .unset] [(.int ((48 : Int32) + rd_60)), (.int (4 : Int32)), (.ref b2)])) rfl rfl (hb hby at_269)
            refine Go.st st61 ?_
            rw [show nar .char ((48 : Int32) + rd_60) = ((48 : Int32) + rd_60) from own_nar48 q59_0] at V61
            have K61 : Keep h0 h61 [] := Kj9.wr W61 (Or.inr sz_b2)
            have O61 := Oj9.wr W61 g_b2
            have N61 := Fr.snoc X61 N59 g_b2
            have V61' : Arv Z h61 b2 k2 .char (Int32.ofNat (nl + 1)) ((jx3 ++ [((48 : Int32) + rd_60)]).map Value.int) (.int (0 : Int32)) := by rw [← own_setlast]; exact V61
            show Go _ _ _ _ (T61.setTop (mkF m 270 #[lJ p0, lS, lI p1, lI p2, lI p3, lI (Int32.ofNat nl), lI ((p2 &&& (2147483647 : Int32)) % (5 : Int32)), lI jU, lJ (Int64.ofNat nu), lS, lR b2, lJ (Int64.ofNat (own_val jx3)), lS, lI rd_60, lU, lU, lU] []))
            refine Go.st (fun _ => XS.lload X61.here hx rfl (hb hby at_270) rfl) ?_
            show Go _ _ _ _ (T61.setTop (mkF m 272 #[lJ p0, lS, lI p1, lI p2, lI p3, lI (Int32.ofNat nl), lI ((p2 &&& (2147483647 : Int32)) % (5 : Int32)), lI jU, lJ (Int64.ofNat nu), lS, lR b2, lJ (Int64.ofNat (own_val jx3)), lS, lI rd_60, lU, lU, lU] [(.long (Int64.ofNat (own_val jx3)))]))
            refine Go.st (fun _ => X61.ldc2Long hx hownj9 (mvT hZj9 (ow hw 8 rfl)) (g := (mkF m 272 #[.val (.long p0), .second, .val (.int p1), .val (.int p2), .val (.int p3), .val (.int (Int32.ofNat nl)), .val (.int ((p2 &&& (2147483647 : Int32)) % (5 : Int32))), .val (.int jU), .val (.long (Int64.ofNat nu)), .second, .val (.ref b2), .val (.long (Int64.ofNat (own_val jx3))), .second, .val (.int rd_60), .unset, .unset, .unset] [(.long (Int64.ofNat (own_val jx3)))])) rfl (hb hby at_272) _) ?_
            show Go _ _ _ _ (T61.setTop (mkF m 275 #[lJ p0, lS, lI p1, lI p2, lI p3, lI (Int32.ofNat nl), lI ((p2 &&& (2147483647 : Int32)) % (5 : Int32)), lI jU, lJ (Int64.ofNat nu), lS, lR b2, lJ (Int64.ofNat (own_val jx3)), lS, lI rd_60, lU, lU, lU] [(.long (10 : Int64)), (.long (Int64.ofNat (own_val jx3)))]))
            refine Go.st (fun _ => XS.lmul X61.here hx rfl (hb hby at_275) rfl) ?_
            show Go _ _ _ _ (T61.setTop (mkF m 276 #[lJ p0, lS, lI p1, lI p2, lI p3, lI (Int32.ofNat nl), lI ((p2 &&& (2147483647 : Int32)) % (5 : Int32)), lI jU, lJ (Int64.ofNat nu), lS, lR b2, lJ (Int64.ofNat (own_val jx3)), lS, lI rd_60, lU, lU, lU] [(.long ((Int64.ofNat (own_val jx3)) * (10 : Int64)))]))
            refine Go.st (fun _ => XS.iload X61.here hx rfl (hb hby at_276) rfl) ?_
            show Go _ _ _ _ (T61.setTop (mkF m 278 #[lJ p0, lS, lI p1, lI p2, lI p3, lI (Int32.ofNat nl), lI ((p2 &&& (2147483647 : Int32)) % (5 : Int32)), lI jU, lJ (Int64.ofNat nu), lS, lR b2, lJ (Int64.ofNat (own_val jx3)), lS, lI rd_60, lU, lU, lU] [(.int rd_60), (.long ((Int64.ofNat (own_val jx3)) * (10 : Int64)))]))
            refine Go.st (fun _ => XS.i2l X61.here hx rfl (hb hby at_278) rfl) ?_
            show Go _ _ _ _ (T61.setTop (mkF m 279 #[lJ p0, lS, lI p1, lI p2, lI p3, lI (Int32.ofNat nl), lI ((p2 &&& (2147483647 : Int32)) % (5 : Int32)), lI jU, lJ (Int64.ofNat nu), lS, lR b2, lJ (Int64.ofNat (own_val jx3)), lS, lI rd_60, lU, lU, lU] [(.long (rd_60.toInt64)), (.long ((Int64.ofNat (own_val jx3)) * (10 : Int64)))]))
            refine Go.st (fun _ => XS.ladd X61.here hx rfl (hb hby at_279) rfl) ?_
            show Go _ _ _ _ (T61.setTop (mkF m 280 #[lJ p0, lS, lI p1, lI p2, lI p3, lI (Int32.ofNat nl), lI ((p2 &&& (2147483647 : Int32)) % (5 : Int32)), lI jU, lJ (Int64.ofNat nu), lS, lR b2, lJ (Int64.ofNat (own_val jx3)), lS, lI rd_60, lU, lU, lU] [(.long (((Int64.ofNat (own_val jx3)) * (10 : Int64)) + (rd_60.toInt64)))]))
            refine Go.st (fun _ => XS.lstore X61.here hx rfl (hb hby at_280) rfl (l' := #[.val (.long p0), .second, .val (.int p1), .val (.int p2), .val (.int p3), .val (.int (Int32.ofNat nl)), .val (.int ((p2 &&& (2147483647 : Int32)) % (5 : Int32))), .val (.int jU), .val (.long (Int64.ofNat nu)), .second, .val (.ref b2), .val (.long (((Int64.ofNat (own_val jx3)) * (10 : Int64)) + (rd_60.toInt64))), .second, .val (.int rd_60), .unset, .unset, .unset]) rfl) ?_
            show Go _ _ _ _ (T61.setTop (mkF m 282 #[lJ p0, lS, lI p1, lI p2, lI p3, lI (Int32.ofNat nl), lI ((p2 &&& (2147483647 : Int32)) % (5 : Int32)), lI jU, lJ (Int64.ofNat nu), lS, lR b2, lJ (((Int64.ofNat (own_val jx3)) * (10 : Int64)) + (rd_60.toInt64)), lS, lI rd_60, lU, lU, lU] []))
            exact J10 T61 h61 _ _ _ (X61.more (by decide) (by decide)) e61 K61 O61 N61 hSj9 (Nat.le_trans hkj9 (Keep.of_wr W61).1) hZj9 hownj9  (((Int64.ofNat (own_val jx3)) * (10 : Int64)) + (rd_60.toInt64)) rd_60 (jx3 ++ [((48 : Int32) + rd_60)])  V61' (by simp only [List.length_append, List.length_singleton, List.length_nil]; omega) (own_D_snoc hdig3 ⟨(own_48 q59_0).1, (own_48 q59_0).2.1⟩) (own_cnt q59_0)
          · skip
            have hb4 : nl ≤ 4 := own_nltN' (i := 4) hc58 (by decide) (by omega)
            refine Go.st (fun _ => XS.icmpYes Xj9.here hx rfl (pc0 := 250) (pc' := 282) rfl (hb hby at_250) rfl (flt hc58).2.2.2 (by decide) (by decide)) ?_
            show Go _ _ _ _ (Tj9.setTop (mkF m 282 #[lJ p0, lS, lI p1, lI p2, lI p3, lI (Int32.ofNat nl), lI ((p2 &&& (2147483647 : Int32)) % (5 : Int32)), lI jU, lJ (Int64.ofNat nu), lS, lR b2, lJ (Int64.ofNat (own_val jx3)), lS, lI jd3, lU, lU, lU] []))
            exact J10 Tj9 hj9 _ _ _ (Xj9.more (by decide) (by decide)) ej9 Kj9 Oj9 Nj9 hSj9 hkj9 hZj9 hownj9  (Int64.ofNat (own_val jx3)) jd3 jx3  hA3 (by omega) hdig3 rfl
        by_cases hc62 : (3 : Int32) < (Int32.ofNat nl)
        · skip
          have hb3 : 3 < nl := own_ltN' (i := 3) hc62 (by decide) (by omega)
          refine Go.st (fun _ => XS.icmpNo Xj8.here hx rfl (hb hby at_215) rfl (tlt hc62).2.2.2) ?_
          show Go _ _ _ _ (Tj8.setTop (mkF m 218 #[lJ p0, lS, lI p1, lI p2, lI p3, lI (Int32.ofNat nl), lI ((p2 &&& (2147483647 : Int32)) % (5 : Int32)), lI jU, lJ (Int64.ofNat nu), lS, lR b2, lJ (Int64.ofNat (own_val jx2)), lS, lI jd2, lU, lU, lU] []))
          refine Go.st (fun _ => XS.lloadN Xj8.here hx rfl (hb hby at_218) rfl) ?_
          refine Go.st (fun _ => XS.iconst Xj8.here hx rfl (hb hby at_219)) ?_
          show Go _ _ _ _ (Tj8.setTop (mkF m 220 #[lJ p0, lS, lI p1, lI p2, lI p3, lI (Int32.ofNat nl), lI ((p2 &&& (2147483647 : Int32)) % (5 : Int32)), lI jU, lJ (Int64.ofNat nu), lS, lR b2, lJ (Int64.ofNat (own_val jx2)), lS, lI jd2, lU, lU, lU] [(.int (3 : Int32)), (.long p0)]))
          obtain ⟨_, _, ⟨T63, L63, k63, n63⟩, -, X63, ⟨Lc63, hQ63, l63, y63, z63⟩, st63⟩ := Jvm.LawKit.callS Xj8 hx (y := (⟨"com/example/vacuum/vacuum/settings/DurationsParsePinLaw", "digit", "(JI)I"⟩ : MethodName)) hownj8 (mvT hZj8 (ow hw 3 rfl)) (mvT hZj8 (ow hw 4 rfl)) (mvT hZj8 (ow hw 5 rfl)) (mvT hZj8 (ow hw 6 rfl)) (by decide) (backOf (W := 0) (rm_digit l Z a0 hw [] p0 (3 : Int32) hj8 n0 Oj8 ) hZj8 (ow hw 6 rfl) (ow hw 5 rfl) (by decide) (by decide)) (g := (mkF m 220 #[.val (.long p0), .second, .val (.int p1), .val (.int p2), .val (.int p3), .val (.int (Int32.ofNat nl)), .val (.int ((p2 &&& (2147483647 : Int32)) % (5 : Int32))), .val (.int jU), .val (.long (Int64.ofNat nu)), .second, .val (.ref b2), .val (.long (Int64.ofNat (own_val jx2))), .second, .val (.int jd2), .unset, .unset, .unset] [(.int (3 : Int32)), (.long p0)])) rfl (by rw [hml]; rfl) (argsL := [(.long p0), (.int (3 : Int32))]) (rest := []) (lenOf own_pd11 rfl) rfl (by show 2 * 0 + _ ≤ _; exact Nat.le_of_eq rfl) (hb hby at_220) (fun _ _ => ⟨rfl, ej8, (by decide : 1 + 0 ≤ _), (by decide : 11 + 0 ≤ _)⟩)
          dsimp only [Pt.U, Pt.locs, Pt.cells, Pt.slots] at X63 l63 y63 z63 st63 hQ63
          subst y63 z63
          refine Go.st st63 ?_
          obtain ⟨rd_64, rfl, N63q, e63, q63_0⟩ := hQ63
          have N63 : Fr n0 L63 := by rw [l63]; exact Fr.app Nj8 N63q
          show Go _ _ _ _ (T63.setTop (mkF m 223 #[lJ p0, lS, lI p1, lI p2, lI p3, lI (Int32.ofNat nl), lI ((p2 &&& (2147483647 : Int32)) % (5 : Int32)), lI jU, lJ (Int64.ofNat nu), lS, lR b2, lJ (Int64.ofNat (own_val jx2)), lS, lI jd2, lU, lU, lU] [(.int rd_64)]))
          refine Go.st (fun _ => XS.istore X63.here hx rfl (hb hby at_223) rfl (l' := #[.val (.long p0), .second, .val (.int p1), .val (.int p2), .val (.int p3), .val (.int (Int32.ofNat nl)), .val (.int ((p2 &&& (2147483647 : Int32)) % (5 : Int32))), .val (.int jU), .val (.long (Int64.ofNat nu)), .second, .val (.ref b2), .val (.long (Int64.ofNat (own_val jx2))), .second, .val (.int rd_64), .unset, .unset, .unset]) rfl) ?_
          show Go _ _ _ _ (T63.setTop (mkF m 225 #[lJ p0, lS, lI p1, lI p2, lI p3, lI (Int32.ofNat nl), lI ((p2 &&& (2147483647 : Int32)) % (5 : Int32)), lI jU, lJ (Int64.ofNat nu), lS, lR b2, lJ (Int64.ofNat (own_val jx2)), lS, lI rd_64, lU, lU, lU] []))
          refine Go.st (fun _ => XS.aload X63.here hx rfl (hb hby at_225) rfl rfl) ?_
          refine Go.st (fun _ => XS.iconst X63.here hx rfl (hb hby at_227)) ?_
          refine Go.st (fun _ => XS.bipush X63.here hx rfl (hb hby at_228)) ?_
          refine Go.st (fun _ => XS.iload X63.here hx rfl (hb hby at_230) rfl) ?_
          show Go _ _ _ _ (T63.setTop (mkF m 232 #[lJ p0, lS, lI p1, lI p2, lI p3, lI (Int32.ofNat nl), lI ((p2 &&& (2147483647 : Int32)) % (5 : Int32)), lI jU, lJ (Int64.ofNat nu), lS, lR b2, lJ (Int64.ofNat (own_val jx2)), lS, lI rd_64, lU, lU, lU] [(.int rd_64), (.int (48 : Int32)), (.int (3 : Int32)), (.ref b2)]))
          refine Go.st (fun _ => XS.iadd X63.here hx rfl (hb hby at_232) rfl) ?_
          show Go _ _ _ _ (T63.setTop (mkF m 233 #[lJ p0, lS, lI p1, lI p2, lI p3, lI (Int32.ofNat nl), lI ((p2 &&& (2147483647 : Int32)) % (5 : Int32)), lI jU, lJ (Int64.ofNat nu), lS, lR b2, lJ (Int64.ofNat (own_val jx2)), lS, lI rd_64, lU, lU, lU] [(.int ((48 : Int32) + rd_64)), (.int (3 : Int32)), (.ref b2)]))
          refine Go.st (fun _ => XS.i2c X63.here hx rfl (hb hby at_233) rfl) ?_
          show Go _ _ _ _ (T63.setTop (mkF m 234 #[lJ p0, lS, lI p1, lI p2, lI p3, lI (Int32.ofNat nl), lI ((p2 &&& (2147483647 : Int32)) % (5 : Int32)), lI jU, lJ (Int64.ofNat nu), lS, lR b2, lJ (Int64.ofNat (own_val jx2)), lS, lI rd_64, lU, lU, lU] [(.int (((48 : Int32) + rd_64).toUInt32.toUInt16.toUInt32.toInt32)), (.int (3 : Int32)), (.ref b2)]))
          rw [show (((48 : Int32) + rd_64).toUInt32.toUInt16.toUInt32.toInt32) = ((48 : Int32) + rd_64) from own_i2c48 q63_0]
          show Go _ _ _ _ (T63.setTop (mkF m 234 #[lJ p0, lS, lI p1, lI p2, lI p3, lI (Int32.ofNat nl), lI ((p2 &&& (2147483647 : Int32)) % (5 : Int32)), lI jU, lJ (Int64.ofNat nu), lS, lR b2, lJ (Int64.ofNat (own_val jx2)), lS, lI rd_64, lU, lU, lU] [(.int ((48 : Int32) + rd_64)), (.int (3 : Int32)), (.ref b2)]))
          have P65 : Arv Z hj8 b2 k2 .char (Int32.ofNat (nl + 1)) ((jx2 ++ [0]).map Value.int) (.int (0 : Int32)) := Arv.pad hA2 (own_pad0 jx2)
          obtain ⟨T65, h65, X65, e65, W65, V65, st65⟩ := own_stC X63 hx hZj8 e63 P65 (j := (3 : Int32)) (i := jx2.length) ⟨by decide, own_ltN (i := 3) (by omega) (by omega)⟩ (by rw [show jx2.length = 3 from by omega]; rfl) (own_pad1 jx2) (g := (mkF m 234 #[.val (.long p0), .second, .val (.int p1), .val (.int p2), .val (.int p3), .val (.int (Int32.ofNat nl)), .val (.int ((p2 &&& (2147483647 : Int32)) % (5 : Int32))), .val (.int jU), .val (.long (Int64.ofNat nu)), .second, .val (.ref b2), .val (.long (Int64.ofNat (own_val jx2))), .second, .val (.int rd_64), .unset, .unset, .unset] [(.int ((48 : Int32) + rd_64)), (.int (3 : Int32)), (.ref b2)])) rfl rfl (hb hby at_234)
          refine Go.st st65 ?_
          rw [show nar .char ((48 : Int32) + rd_64) = ((48 : Int32) + rd_64) from own_nar48 q63_0] at V65
          have K65 : Keep h0 h65 [] := Kj8.wr W65 (Or.inr sz_b2)
          have O65 := Oj8.wr W65 g_b2
          have N65 := Fr.snoc X65 N63 g_b2
          have V65' : Arv Z h65 b2 k2 .char (Int32.ofNat (nl + 1)) ((jx2 ++ [((48 : Int32) + rd_64)]).map Value.int) (.int (0 : Int32)) := by rw [← own_setlast]; exact V65
          show Go _ _ _ _ (T65.setTop (mkF m 235 #[lJ p0, lS, lI p1, lI p2, lI p3, lI (Int32.ofNat nl), lI ((p2 &&& (2147483647 : Int32)) % (5 : Int32)), lI jU, lJ (Int64.ofNat nu), lS, lR b2, lJ (Int64.ofNat (own_val jx2)), lS, lI rd_64, lU, lU, lU] []))
          refine Go.st (fun _ => XS.lload X65.here hx rfl (hb hby at_235) rfl) ?_
          show Go _ _ _ _ (T65.setTop (mkF m 237 #[lJ p0, lS, lI p1, lI p2, lI p3, lI (Int32.ofNat nl), lI ((p2 &&& (2147483647 : Int32)) % (5 : Int32)), lI jU, lJ (Int64.ofNat nu), lS, lR b2, lJ (Int64.ofNat (own_val jx2)), lS, lI rd_64, lU, lU, lU] [(.long (Int64.ofNat (own_val jx2)))]))
          refine Go.st (fun _ => X65.ldc2Long hx hownj8 (mvT hZj8 (ow hw 8 rfl)) (g := (mkF m 237 #[.val (.long p0), .second, .val (.int p1), .val (.int p2), .val (.int p3), .val (.int (Int32.ofNat nl)), .val (.int ((p2 &&& (2147483647 : Int32)) % (5 : Int32))), .val (.int jU), .val (.long (Int64.ofNat nu)), .second, .val (.ref b2), .val (.long (Int64.ofNat (own_val jx2))), .second, .val (.int rd_64), .unset, .unset, .unset] [(.long (Int64.ofNat (own_val jx2)))])) rfl (hb hby at_237) _) ?_
          show Go _ _ _ _ (T65.setTop (mkF m 240 #[lJ p0, lS, lI p1, lI p2, lI p3, lI (Int32.ofNat nl), lI ((p2 &&& (2147483647 : Int32)) % (5 : Int32)), lI jU, lJ (Int64.ofNat nu), lS, lR b2, lJ (Int64.ofNat (own_val jx2)), lS, lI rd_64, lU, lU, lU] [(.long (10 : Int64)), (.long (Int64.ofNat (own_val jx2)))]))
          refine Go.st (fun _ => XS.lmul X65.here hx rfl (hb hby at_240) rfl) ?_
          show Go _ _ _ _ (T65.setTop (mkF m 241 #[lJ p0, lS, lI p1, lI p2, lI p3, lI (Int32.ofNat nl), lI ((p2 &&& (2147483647 : Int32)) % (5 : Int32)), lI jU, lJ (Int64.ofNat nu), lS, lR b2, lJ (Int64.ofNat (own_val jx2)), lS, lI rd_64, lU, lU, lU] [(.long ((Int64.ofNat (own_val jx2)) * (10 : Int64)))]))
          refine Go.st (fun _ => XS.iload X65.here hx rfl (hb hby at_241) rfl) ?_
          show Go _ _ _ _ (T65.setTop (mkF m 243 #[lJ p0, lS, lI p1, lI p2, lI p3, lI (Int32.ofNat nl), lI ((p2 &&& (2147483647 : Int32)) % (5 : Int32)), lI jU, lJ (Int64.ofNat nu), lS, lR b2, lJ (Int64.ofNat (own_val jx2)), lS, lI rd_64, lU, lU, lU] [(.int rd_64), (.long ((Int64.ofNat (own_val jx2)) * (10 : Int64)))]))
          refine Go.st (fun _ => XS.i2l X65.here hx rfl (hb hby at_243) rfl) ?_
          show Go _ _ _ _ (T65.setTop (mkF m 244 #[lJ p0, lS, lI p1, lI p2, lI p3, lI (Int32.ofNat nl), lI ((p2 &&& (2147483647 : Int32)) % (5 : Int32)), lI jU, lJ (Int64.ofNat nu), lS, lR b2, lJ (Int64.ofNat (own_val jx2)), lS, lI rd_64, lU, lU, lU] [(.long (rd_64.toInt64)), (.long ((Int64.ofNat (own_val jx2)) * (10 : Int64)))]))
          refine Go.st (fun _ => XS.ladd X65.here hx rfl (hb hby at_244) rfl) ?_
          show Go _ _ _ _ (T65.setTop (mkF m 245 #[lJ p0, lS, lI p1, lI p2, lI p3, lI (Int32.ofNat nl), lI ((p2 &&& (2147483647 : Int32)) % (5 : Int32)), lI jU, lJ (Int64.ofNat nu), lS, lR b2, lJ (Int64.ofNat (own_val jx2)), lS, lI rd_64, lU, lU, lU] [(.long (((Int64.ofNat (own_val jx2)) * (10 : Int64)) + (rd_64.toInt64)))]))
          refine Go.st (fun _ => XS.lstore X65.here hx rfl (hb hby at_245) rfl (l' := #[.val (.long p0), .second, .val (.int p1), .val (.int p2), .val (.int p3), .val (.int (Int32.ofNat nl)), .val (.int ((p2 &&& (2147483647 : Int32)) % (5 : Int32))), .val (.int jU), .val (.long (Int64.ofNat nu)), .second, .val (.ref b2), .val (.long (((Int64.ofNat (own_val jx2)) * (10 : Int64)) + (rd_64.toInt64))), .second, .val (.int rd_64), .unset, .unset, .unset]) rfl) ?_
          show Go _ _ _ _ (T65.setTop (mkF m 247 #[lJ p0, lS, lI p1, lI p2, lI p3, lI (Int32.ofNat nl), lI ((p2 &&& (2147483647 : Int32)) % (5 : Int32)), lI jU, lJ (Int64.ofNat nu), lS, lR b2, lJ (((Int64.ofNat (own_val jx2)) * (10 : Int64)) + (rd_64.toInt64)), lS, lI rd_64, lU, lU, lU] []))
          exact J9 T65 h65 _ _ _ (X65.more (by decide) (by decide)) e65 K65 O65 N65 hSj8 (Nat.le_trans hkj8 (Keep.of_wr W65).1) hZj8 hownj8  (((Int64.ofNat (own_val jx2)) * (10 : Int64)) + (rd_64.toInt64)) rd_64 (jx2 ++ [((48 : Int32) + rd_64)])  V65' (by simp only [List.length_append, List.length_singleton, List.length_nil]; omega) (own_D_snoc hdig2 ⟨(own_48 q63_0).1, (own_48 q63_0).2.1⟩) (own_cnt q63_0)
        · skip
          have hb3 : nl ≤ 3 := own_nltN' (i := 3) hc62 (by decide) (by omega)
          refine Go.st (fun _ => XS.icmpYes Xj8.here hx rfl (pc0 := 215) (pc' := 247) rfl (hb hby at_215) rfl (flt hc62).2.2.2 (by decide) (by decide)) ?_
          show Go _ _ _ _ (Tj8.setTop (mkF m 247 #[lJ p0, lS, lI p1, lI p2, lI p3, lI (Int32.ofNat nl), lI ((p2 &&& (2147483647 : Int32)) % (5 : Int32)), lI jU, lJ (Int64.ofNat nu), lS, lR b2, lJ (Int64.ofNat (own_val jx2)), lS, lI jd2, lU, lU, lU] []))
          exact J9 Tj8 hj8 _ _ _ (Xj8.more (by decide) (by decide)) ej8 Kj8 Oj8 Nj8 hSj8 hkj8 hZj8 hownj8  (Int64.ofNat (own_val jx2)) jd2 jx2  hA2 (by omega) hdig2 rfl
      by_cases hc66 : (2 : Int32) < (Int32.ofNat nl)
      · skip
        have hb2 : 2 < nl := own_ltN' (i := 2) hc66 (by decide) (by omega)
        refine Go.st (fun _ => XS.icmpNo Xj7.here hx rfl (hb hby at_180) rfl (tlt hc66).2.2.2) ?_
        show Go _ _ _ _ (Tj7.setTop (mkF m 183 #[lJ p0, lS, lI p1, lI p2, lI p3, lI (Int32.ofNat nl), lI ((p2 &&& (2147483647 : Int32)) % (5 : Int32)), lI jU, lJ (Int64.ofNat nu), lS, lR b2, lJ (Int64.ofNat (own_val jx1)), lS, lI jd1, lU, lU, lU] []))
        refine Go.st (fun _ => XS.lloadN Xj7.here hx rfl (hb hby at_183) rfl) ?_
        refine Go.st (fun _ => XS.iconst Xj7.here hx rfl (hb hby at_184)) ?_
        show Go _ _ _ _ (Tj7.setTop (mkF m 185 #[lJ p0, lS, lI p1, lI p2, lI p3, lI (Int32.ofNat nl), lI ((p2 &&& (2147483647 : Int32)) % (5 : Int32)), lI jU, lJ (Int64.ofNat nu), lS, lR b2, lJ (Int64.ofNat (own_val jx1)), lS, lI jd1, lU, lU, lU] [(.int (2 : Int32)), (.long p0)]))
        obtain ⟨_, _, ⟨T67, L67, k67, n67⟩, -, X67, ⟨Lc67, hQ67, l67, y67, z67⟩, st67⟩ := Jvm.LawKit.callS Xj7 hx (y := (⟨"com/example/vacuum/vacuum/settings/DurationsParsePinLaw", "digit", "(JI)I"⟩ : MethodName)) hownj7 (mvT hZj7 (ow hw 3 rfl)) (mvT hZj7 (ow hw 4 rfl)) (mvT hZj7 (ow hw 5 rfl)) (mvT hZj7 (ow hw 6 rfl)) (by decide) (backOf (W := 0) (rm_digit l Z a0 hw [] p0 (2 : Int32) hj7 n0 Oj7 ) hZj7 (ow hw 6 rfl) (ow hw 5 rfl) (by decide) (by decide)) (g := (mkF m 185 #[.val (.long p0), .second, .val (.int p1), .val (.int p2), .val (.int p3), .val (.int (Int32.ofNat nl)), .val (.int ((p2 &&& (2147483647 : Int32)) % (5 : Int32))), .val (.int jU), .val (.long (Int64.ofNat nu)), .second, .val (.ref b2), .val (.long (Int64.ofNat (own_val jx1))), .second, .val (.int jd1), .unset, .unset, .unset] [(.int (2 : Int32)), (.long p0)])) rfl (by rw [hml]; rfl) (argsL := [(.long p0), (.int (2 : Int32))]) (rest := []) (lenOf own_pd11 rfl) rfl (by show 2 * 0 + _ ≤ _; exact Nat.le_of_eq rfl) (hb hby at_185) (fun _ _ => ⟨rfl, ej7, (by decide : 1 + 0 ≤ _), (by decide : 11 + 0 ≤ _)⟩)
        dsimp only [Pt.U, Pt.locs, Pt.cells, Pt.slots] at X67 l67 y67 z67 st67 hQ67
        subst y67 z67
        refine Go.st st67 ?_
        obtain ⟨rd_68, rfl, N67q, e67, q67_0⟩ := hQ67
        have N67 : Fr n0 L67 := by rw [l67]; exact Fr.app Nj7 N67q
        show Go _ _ _ _ (T67.setTop (mkF m 188 #[lJ p0, lS, lI p1, lI p2, lI p3, lI (Int32.ofNat nl), lI ((p2 &&& (2147483647 : Int32)) % (5 : Int32)), lI jU, lJ (Int64.ofNat nu), lS, lR b2, lJ (Int64.ofNat (own_val jx1)), lS, lI jd1, lU, lU, lU] [(.int rd_68)]))
        refine Go.st (fun _ => XS.istore X67.here hx rfl (hb hby at_188) rfl (l' := #[.val (.long p0), .second, .val (.int p1), .val (.int p2), .val (.int p3), .val (.int (Int32.ofNat nl)), .val (.int ((p2 &&& (2147483647 : Int32)) % (5 : Int32))), .val (.int jU), .val (.long (Int64.ofNat nu)), .second, .val (.ref b2), .val (.long (Int64.ofNat (own_val jx1))), .second, .val (.int rd_68), .unset, .unset, .unset]) rfl) ?_
        show Go _ _ _ _ (T67.setTop (mkF m 190 #[lJ p0, lS, lI p1, lI p2, lI p3, lI (Int32.ofNat nl), lI ((p2 &&& (2147483647 : Int32)) % (5 : Int32)), lI jU, lJ (Int64.ofNat nu), lS, lR b2, lJ (Int64.ofNat (own_val jx1)), lS, lI rd_68, lU, lU, lU] []))
        refine Go.st (fun _ => XS.aload X67.here hx rfl (hb hby at_190) rfl rfl) ?_
        refine Go.st (fun _ => XS.iconst X67.here hx rfl (hb hby at_192)) ?_
        refine Go.st (fun _ => XS.bipush X67.here hx rfl (hb hby at_193)) ?_
        refine Go.st (fun _ => XS.iload X67.here hx rfl (hb hby at_195) rfl) ?_
        show Go _ _ _ _ (T67.setTop (mkF m 197 #[lJ p0, lS, lI p1, lI p2, lI p3, lI (Int32.ofNat nl), lI ((p2 &&& (2147483647 : Int32)) % (5 : Int32)), lI jU, lJ (Int64.ofNat nu), lS, lR b2, lJ (Int64.ofNat (own_val jx1)), lS, lI rd_68, lU, lU, lU] [(.int rd_68), (.int (48 : Int32)), (.int (2 : Int32)), (.ref b2)]))
        refine Go.st (fun _ => XS.iadd X67.here hx rfl (hb hby at_197) rfl) ?_
        show Go _ _ _ _ (T67.setTop (mkF m 198 #[lJ p0, lS, lI p1, lI p2, lI p3, lI (Int32.ofNat nl), lI ((p2 &&& (2147483647 : Int32)) % (5 : Int32)), lI jU, lJ (Int64.ofNat nu), lS, lR b2, lJ (Int64.ofNat (own_val jx1)), lS, lI rd_68, lU, lU, lU] [(.int ((48 : Int32) + rd_68)), (.int (2 : Int32)), (.ref b2)]))
        refine Go.st (fun _ => XS.i2c X67.here hx rfl (hb hby at_198) rfl) ?_
        show Go _ _ _ _ (T67.setTop (mkF m 199 #[lJ p0, lS, lI p1, lI p2, lI p3, lI (Int32.ofNat nl), lI ((p2 &&& (2147483647 : Int32)) % (5 : Int32)), lI jU, lJ (Int64.ofNat nu), lS, lR b2, lJ (Int64.ofNat (own_val jx1)), lS, lI rd_68, lU, lU, lU] [(.int (((48 : Int32) + rd_68).toUInt32.toUInt16.toUInt32.toInt32)), (.int (2 : Int32)), (.ref b2)]))
        rw [show (((48 : Int32) + rd_68).toUInt32.toUInt16.toUInt32.toInt32) = ((48 : Int32) + rd_68) from own_i2c48 q67_0]
        show Go _ _ _ _ (T67.setTop (mkF m 199 #[lJ p0, lS, lI p1, lI p2, lI p3, lI (Int32.ofNat nl), lI ((p2 &&& (2147483647 : Int32)) % (5 : Int32)), lI jU, lJ (Int64.ofNat nu), lS, lR b2, lJ (Int64.ofNat (own_val jx1)), lS, lI rd_68, lU, lU, lU] [(.int ((48 : Int32) + rd_68)), (.int (2 : Int32)), (.ref b2)]))
        have P69 : Arv Z hj7 b2 k2 .char (Int32.ofNat (nl + 1)) ((jx1 ++ [0]).map Value.int) (.int (0 : Int32)) := Arv.pad hA1 (own_pad0 jx1)
        obtain ⟨T69, h69, X69, e69, W69, V69, st69⟩ := own_stC X67 hx hZj7 e67 P69 (j := (2 : Int32)) (i := jx1.length) ⟨by decide, own_ltN (i := 2) (by omega) (by omega)⟩ (by rw [show jx1.length = 2 from by omega]; rfl) (own_pad1 jx1) (g := (mkF m 199 #[.val (.long p0), .second, .val (.int p1), .val (.int p2), .val (.int p3), .val (.int (Int32.ofNat nl)), .val (.int ((p2 &&& (2147483647 : Int32)) % (5 : Int32))), .val (.int jU), .val (.long (Int64.ofNat nu)), .second, .val (.ref b2), .val (.long (Int64.ofNat (own_val jx1))), .second, .val (.int rd_68), .unset, .unset, .unset] [(.int ((48 : Int32) + rd_68)), (.int (2 : Int32)), (.ref b2)])) rfl rfl (hb hby at_199)
        refine Go.st st69 ?_
        rw [show nar .char ((48 : Int32) + rd_68) = ((48 : Int32) + rd_68) from own_nar48 q67_0] at V69
        have K69 : Keep h0 h69 [] := Kj7.wr W69 (Or.inr sz_b2)
        have O69 := Oj7.wr W69 g_b2
        have N69 := Fr.snoc X69 N67 g_b2
        have V69' : Arv Z h69 b2 k2 .char (Int32.ofNat (nl + 1)) ((jx1 ++ [((48 : Int32) + rd_68)]).map Value.int) (.int (0 : Int32)) := by rw [← own_setlast]; exact V69
        show Go _ _ _ _ (T69.setTop (mkF m 200 #[lJ p0, lS, lI p1, lI p2, lI p3, lI (Int32.ofNat nl), lI ((p2 &&& (2147483647 : Int32)) % (5 : Int32)), lI jU, lJ (Int64.ofNat nu), lS, lR b2, lJ (Int64.ofNat (own_val jx1)), lS, lI rd_68, lU, lU, lU] []))
        refine Go.st (fun _ => XS.lload X69.here hx rfl (hb hby at_200) rfl) ?_
        show Go _ _ _ _ (T69.setTop (mkF m 202 #[lJ p0, lS, lI p1, lI p2, lI p3, lI (Int32.ofNat nl), lI ((p2 &&& (2147483647 : Int32)) % (5 : Int32)), lI jU, lJ (Int64.ofNat nu), lS, lR b2, lJ (Int64.ofNat (own_val jx1)), lS, lI rd_68, lU, lU, lU] [(.long (Int64.ofNat (own_val jx1)))]))
        refine Go.st (fun _ => X69.ldc2Long hx hownj7 (mvT hZj7 (ow hw 8 rfl)) (g := (mkF m 202 #[.val (.long p0), .second, .val (.int p1), .val (.int p2), .val (.int p3), .val (.int (Int32.ofNat nl)), .val (.int ((p2 &&& (2147483647 : Int32)) % (5 : Int32))), .val (.int jU), .val (.long (Int64.ofNat nu)), .second, .val (.ref b2), .val (.long (Int64.ofNat (own_val jx1))), .second, .val (.int rd_68), .unset, .unset, .unset] [(.long (Int64.ofNat (own_val jx1)))])) rfl (hb hby at_202) _) ?_
        show Go _ _ _ _ (T69.setTop (mkF m 205 #[lJ p0, lS, lI p1, lI p2, lI p3, lI (Int32.ofNat nl), lI ((p2 &&& (2147483647 : Int32)) % (5 : Int32)), lI jU, lJ (Int64.ofNat nu), lS, lR b2, lJ (Int64.ofNat (own_val jx1)), lS, lI rd_68, lU, lU, lU] [(.long (10 : Int64)), (.long (Int64.ofNat (own_val jx1)))]))
        refine Go.st (fun _ => XS.lmul X69.here hx rfl (hb hby at_205) rfl) ?_
        show Go _ _ _ _ (T69.setTop (mkF m 206 #[lJ p0, lS, lI p1, lI p2, lI p3, lI (Int32.ofNat nl), lI ((p2 &&& (2147483647 : Int32)) % (5 : Int32)), lI jU, lJ (Int64.ofNat nu), lS, lR b2, lJ (Int64.ofNat (own_val jx1)), lS, lI rd_68, lU, lU, lU] [(.long ((Int64.ofNat (own_val jx1)) * (10 : Int64)))]))
        refine Go.st (fun _ => XS.iload X69.here hx rfl (hb hby at_206) rfl) ?_
        show Go _ _ _ _ (T69.setTop (mkF m 208 #[lJ p0, lS, lI p1, lI p2, lI p3, lI (Int32.ofNat nl), lI ((p2 &&& (2147483647 : Int32)) % (5 : Int32)), lI jU, lJ (Int64.ofNat nu), lS, lR b2, lJ (Int64.ofNat (own_val jx1)), lS, lI rd_68, lU, lU, lU] [(.int rd_68), (.long ((Int64.ofNat (own_val jx1)) * (10 : Int64)))]))
        refine Go.st (fun _ => XS.i2l X69.here hx rfl (hb hby at_208) rfl) ?_
        show Go _ _ _ _ (T69.setTop (mkF m 209 #[lJ p0, lS, lI p1, lI p2, lI p3, lI (Int32.ofNat nl), lI ((p2 &&& (2147483647 : Int32)) % (5 : Int32)), lI jU, lJ (Int64.ofNat nu), lS, lR b2, lJ (Int64.ofNat (own_val jx1)), lS, lI rd_68, lU, lU, lU] [(.long (rd_68.toInt64)), (.long ((Int64.ofNat (own_val jx1)) * (10 : Int64)))]))
        refine Go.st (fun _ => XS.ladd X69.here hx rfl (hb hby at_209) rfl) ?_
        show Go _ _ _ _ (T69.setTop (mkF m 210 #[lJ p0, lS, lI p1, lI p2, lI p3, lI (Int32.ofNat nl), lI ((p2 &&& (2147483647 : Int32)) % (5 : Int32)), lI jU, lJ (Int64.ofNat nu), lS, lR b2, lJ (Int64.ofNat (own_val jx1)), lS, lI rd_68, lU, lU, lU] [(.long (((Int64.ofNat (own_val jx1)) * (10 : Int64)) + (rd_68.toInt64)))]))
        refine Go.st (fun _ => XS.lstore X69.here hx rfl (hb hby at_210) rfl (l' := #[.val (.long p0), .second, .val (.int p1), .val (.int p2), .val (.int p3), .val (.int (Int32.ofNat nl)), .val (.int ((p2 &&& (2147483647 : Int32)) % (5 : Int32))), .val (.int jU), .val (.long (Int64.ofNat nu)), .second, .val (.ref b2), .val (.long (((Int64.ofNat (own_val jx1)) * (10 : Int64)) + (rd_68.toInt64))), .second, .val (.int rd_68), .unset, .unset, .unset]) rfl) ?_
        show Go _ _ _ _ (T69.setTop (mkF m 212 #[lJ p0, lS, lI p1, lI p2, lI p3, lI (Int32.ofNat nl), lI ((p2 &&& (2147483647 : Int32)) % (5 : Int32)), lI jU, lJ (Int64.ofNat nu), lS, lR b2, lJ (((Int64.ofNat (own_val jx1)) * (10 : Int64)) + (rd_68.toInt64)), lS, lI rd_68, lU, lU, lU] []))
        exact J8 T69 h69 _ _ _ (X69.more (by decide) (by decide)) e69 K69 O69 N69 hSj7 (Nat.le_trans hkj7 (Keep.of_wr W69).1) hZj7 hownj7  (((Int64.ofNat (own_val jx1)) * (10 : Int64)) + (rd_68.toInt64)) rd_68 (jx1 ++ [((48 : Int32) + rd_68)])  V69' (by simp only [List.length_append, List.length_singleton, List.length_nil]; omega) (own_D_snoc hdig1 ⟨(own_48 q67_0).1, (own_48 q67_0).2.1⟩) (own_cnt q67_0)
      · skip
        have hb2 : nl ≤ 2 := own_nltN' (i := 2) hc66 (by decide) (by omega)
        refine Go.st (fun _ => XS.icmpYes Xj7.here hx rfl (pc0 := 180) (pc' := 212) rfl (hb hby at_180) rfl (flt hc66).2.2.2 (by decide) (by decide)) ?_
        show Go _ _ _ _ (Tj7.setTop (mkF m 212 #[lJ p0, lS, lI p1, lI p2, lI p3, lI (Int32.ofNat nl), lI ((p2 &&& (2147483647 : Int32)) % (5 : Int32)), lI jU, lJ (Int64.ofNat nu), lS, lR b2, lJ (Int64.ofNat (own_val jx1)), lS, lI jd1, lU, lU, lU] []))
        exact J8 Tj7 hj7 _ _ _ (Xj7.more (by decide) (by decide)) ej7 Kj7 Oj7 Nj7 hSj7 hkj7 hZj7 hownj7  (Int64.ofNat (own_val jx1)) jd1 jx1  hA1 (by omega) hdig1 rfl
    by_cases hc70 : (1 : Int32) < (Int32.ofNat nl)
    · skip
      have hb1 : 1 < nl := own_ltN' (i := 1) hc70 (by decide) (by omega)
      refine Go.st (fun _ => XS.icmpNo X6.here hx rfl (hb hby at_145) rfl (tlt hc70).2.2.2) ?_
      show Go _ _ _ _ (T6.setTop (mkF m 148 #[lJ p0, lS, lI p1, lI p2, lI p3, lI (Int32.ofNat nl), lI ((p2 &&& (2147483647 : Int32)) % (5 : Int32)), lI jU, lJ (Int64.ofNat nu), lS, lR b2, lJ (Int64.ofNat (own_val (([] : List Int32) ++ [((48 : Int32) + rd_5)]))), lS, lI rd_5, lU, lU, lU] []))
      refine Go.st (fun _ => XS.lloadN X6.here hx rfl (hb hby at_148) rfl) ?_
      refine Go.st (fun _ => XS.iconst X6.here hx rfl (hb hby at_149)) ?_
      show Go _ _ _ _ (T6.setTop (mkF m 150 #[lJ p0, lS, lI p1, lI p2, lI p3, lI (Int32.ofNat nl), lI ((p2 &&& (2147483647 : Int32)) % (5 : Int32)), lI jU, lJ (Int64.ofNat nu), lS, lR b2, lJ (Int64.ofNat (own_val (([] : List Int32) ++ [((48 : Int32) + rd_5)]))), lS, lI rd_5, lU, lU, lU] [(.int (1 : Int32)), (.long p0)]))
      obtain ⟨_, _, ⟨T71, L71, k71, n71⟩, -, X71, ⟨Lc71, hQ71, l71, y71, z71⟩, st71⟩ := Jvm.LawKit.callS X6 hx (y := (⟨"com/example/vacuum/vacuum/settings/DurationsParsePinLaw", "digit", "(JI)I"⟩ : MethodName)) hown (mvT hZ (ow hw 3 rfl)) (mvT hZ (ow hw 4 rfl)) (mvT hZ (ow hw 5 rfl)) (mvT hZ (ow hw 6 rfl)) (by decide) (backOf (W := 0) (rm_digit l Z a0 hw [] p0 (1 : Int32) h6 n0 O6 ) hZ (ow hw 6 rfl) (ow hw 5 rfl) (by decide) (by decide)) (g := (mkF m 150 #[.val (.long p0), .second, .val (.int p1), .val (.int p2), .val (.int p3), .val (.int (Int32.ofNat nl)), .val (.int ((p2 &&& (2147483647 : Int32)) % (5 : Int32))), .val (.int jU), .val (.long (Int64.ofNat nu)), .second, .val (.ref b2), .val (.long (Int64.ofNat (own_val (([] : List Int32) ++ [((48 : Int32) + rd_5)])))), .second, .val (.int rd_5), .unset, .unset, .unset] [(.int (1 : Int32)), (.long p0)])) rfl (by rw [hml]; rfl) (argsL := [(.long p0), (.int (1 : Int32))]) (rest := []) (lenOf own_pd11 rfl) rfl (by show 2 * 0 + _ ≤ _; exact Nat.le_of_eq rfl) (hb hby at_150) (fun _ _ => ⟨rfl, e6, (by decide : 1 + 0 ≤ _), (by decide : 11 + 0 ≤ _)⟩)
      dsimp only [Pt.U, Pt.locs, Pt.cells, Pt.slots] at X71 l71 y71 z71 st71 hQ71
      subst y71 z71
      refine Go.st st71 ?_
      obtain ⟨rd_72, rfl, N71q, e71, q71_0⟩ := hQ71
      have N71 : Fr n0 L71 := by rw [l71]; exact Fr.app N6 N71q
      show Go _ _ _ _ (T71.setTop (mkF m 153 #[lJ p0, lS, lI p1, lI p2, lI p3, lI (Int32.ofNat nl), lI ((p2 &&& (2147483647 : Int32)) % (5 : Int32)), lI jU, lJ (Int64.ofNat nu), lS, lR b2, lJ (Int64.ofNat (own_val (([] : List Int32) ++ [((48 : Int32) + rd_5)]))), lS, lI rd_5, lU, lU, lU] [(.int rd_72)]))
      refine Go.st (fun _ => XS.istore X71.here hx rfl (hb hby at_153) rfl (l' := #[.val (.long p0), .second, .val (.int p1), .val (.int p2), .val (.int p3), .val (.int (Int32.ofNat nl)), .val (.int ((p2 &&& (2147483647 : Int32)) % (5 : Int32))), .val (.int jU), .val (.long (Int64.ofNat nu)), .second, .val (.ref b2), .val (.long (Int64.ofNat (own_val (([] : List Int32) ++ [((48 : Int32) + rd_5)])))), .second, .val (.int rd_72), .unset, .unset, .unset]) rfl) ?_
      show Go _ _ _ _ (T71.setTop (mkF m 155 #[lJ p0, lS, lI p1, lI p2, lI p3, lI (Int32.ofNat nl), lI ((p2 &&& (2147483647 : Int32)) % (5 : Int32)), lI jU, lJ (Int64.ofNat nu), lS, lR b2, lJ (Int64.ofNat (own_val (([] : List Int32) ++ [((48 : Int32) + rd_5)]))), lS, lI rd_72, lU, lU, lU] []))
      refine Go.st (fun _ => XS.aload X71.here hx rfl (hb hby at_155) rfl rfl) ?_
      refine Go.st (fun _ => XS.iconst X71.here hx rfl (hb hby at_157)) ?_
      refine Go.st (fun _ => XS.bipush X71.here hx rfl (hb hby at_158)) ?_
      refine Go.st (fun _ => XS.iload X71.here hx rfl (hb hby at_160) rfl) ?_
      show Go _ _ _ _ (T71.setTop (mkF m 162 #[lJ p0, lS, lI p1, lI p2, lI p3, lI (Int32.ofNat nl), lI ((p2 &&& (2147483647 : Int32)) % (5 : Int32)), lI jU, lJ (Int64.ofNat nu), lS, lR b2, lJ (Int64.ofNat (own_val (([] : List Int32) ++ [((48 : Int32) + rd_5)]))), lS, lI rd_72, lU, lU, lU] [(.int rd_72), (.int (48 : Int32)), (.int (1 : Int32)), (.ref b2)]))
      refine Go.st (fun _ => XS.iadd X71.here hx rfl (hb hby at_162) rfl) ?_
      show Go _ _ _ _ (T71.setTop (mkF m 163 #[lJ p0, lS, lI p1, lI p2, lI p3, lI (Int32.ofNat nl), lI ((p2 &&& (2147483647 : Int32)) % (5 : Int32)), lI jU, lJ (Int64.ofNat nu), lS, lR b2, lJ (Int64.ofNat (own_val (([] : List Int32) ++ [((48 : Int32) + rd_5)]))), lS, lI rd_72, lU, lU, lU] [(.int ((48 : Int32) + rd_72)), (.int (1 : Int32)), (.ref b2)]))
      refine Go.st (fun _ => XS.i2c X71.here hx rfl (hb hby at_163) rfl) ?_
      show Go _ _ _ _ (T71.setTop (mkF m 164 #[lJ p0, lS, lI p1, lI p2, lI p3, lI (Int32.ofNat nl), lI ((p2 &&& (2147483647 : Int32)) % (5 : Int32)), lI jU, lJ (Int64.ofNat nu), lS, lR b2, lJ (Int64.ofNat (own_val (([] : List Int32) ++ [((48 : Int32) + rd_5)]))), lS, lI rd_72, lU, lU, lU] [(.int (((48 : Int32) + rd_72).toUInt32.toUInt16.toUInt32.toInt32)), (.int (1 : Int32)), (.ref b2)]))
      rw [show (((48 : Int32) + rd_72).toUInt32.toUInt16.toUInt32.toInt32) = ((48 : Int32) + rd_72) from own_i2c48 q71_0]
      show Go _ _ _ _ (T71.setTop (mkF m 164 #[lJ p0, lS, lI p1, lI p2, lI p3, lI (Int32.ofNat nl), lI ((p2 &&& (2147483647 : Int32)) % (5 : Int32)), lI jU, lJ (Int64.ofNat nu), lS, lR b2, lJ (Int64.ofNat (own_val (([] : List Int32) ++ [((48 : Int32) + rd_5)]))), lS, lI rd_72, lU, lU, lU] [(.int ((48 : Int32) + rd_72)), (.int (1 : Int32)), (.ref b2)]))
      have P73 : Arv Z h6 b2 k2 .char (Int32.ofNat (nl + 1)) (((([] : List Int32) ++ [((48 : Int32) + rd_5)]) ++ [0]).map Value.int) (.int (0 : Int32)) := Arv.pad V6' (own_pad0 (([] : List Int32) ++ [((48 : Int32) + rd_5)]))
      obtain ⟨T73, h73, X73, e73, W73, V73, st73⟩ := own_stC X71 hx hZ e71 P73 (j := (1 : Int32)) (i := (([] : List Int32) ++ [((48 : Int32) + rd_5)]).length) ⟨by decide, own_ltN (i := 1) (by omega) (by omega)⟩ (by rw [show (([] : List Int32) ++ [((48 : Int32) + rd_5)]).length = 1 from by omega]; rfl) (own_pad1 (([] : List Int32) ++ [((48 : Int32) + rd_5)])) (g := (mkF m 164 #[.val (.long p0), .second, .val (.int p1), .val (.int p2), .val (.int p3), .val (.int (Int32.ofNat nl)), .val (.int ((p2 &&& (2147483647 : Int32)) % (5 : Int32))), .val (.int jU), .val (.long (Int64.ofNat nu)), .second, .val (.ref b2), .val (.long (Int64.ofNat (own_val (([] : List Int32) ++ [((48 : Int32) + rd_5)])))), .second, .val (.int rd_72), .unset, .unset, .unset] [(.int ((48 : Int32) + rd_72)), (.int (1 : Int32)), (.ref b2)])) rfl rfl (hb hby at_164)
      refine Go.st st73 ?_
      rw [show nar .char ((48 : Int32) + rd_72) = ((48 : Int32) + rd_72) from own_nar48 q71_0] at V73
      have K73 : Keep h0 h73 [] := K6.wr W73 (Or.inr sz_b2)
      have O73 := O6.wr W73 g_b2
      have N73 := Fr.snoc X73 N71 g_b2
      have V73' : Arv Z h73 b2 k2 .char (Int32.ofNat (nl + 1)) (((([] : List Int32) ++ [((48 : Int32) + rd_5)]) ++ [((48 : Int32) + rd_72)]).map Value.int) (.int (0 : Int32)) := by rw [← own_setlast]; exact V73
      show Go _ _ _ _ (T73.setTop (mkF m 165 #[lJ p0, lS, lI p1, lI p2, lI p3, lI (Int32.ofNat nl), lI ((p2 &&& (2147483647 : Int32)) % (5 : Int32)), lI jU, lJ (Int64.ofNat nu), lS, lR b2, lJ (Int64.ofNat (own_val (([] : List Int32) ++ [((48 : Int32) + rd_5)]))), lS, lI rd_72, lU, lU, lU] []))
      refine Go.st (fun _ => XS.lload X73.here hx rfl (hb hby at_165) rfl) ?_
      show Go _ _ _ _ (T73.setTop (mkF m 167 #[lJ p0, lS, lI p1, lI p2, lI p3, lI (Int32.ofNat nl), lI ((p2 &&& (2147483647 : Int32)) % (5 : Int32)), lI jU, lJ (Int64.ofNat nu), lS, lR b2, lJ (Int64.ofNat (own_val (([] : List Int32) ++ [((48 : Int32) + rd_5)]))), lS, lI rd_72, lU, lU, lU] [(.long (Int64.ofNat (own_val (([] : List Int32) ++ [((48 : Int32) + rd_5)]))))]))
      refine Go.st (fun _ => X73.ldc2Long hx hown (mvT hZ (ow hw 8 rfl)) (g := (mkF m 167 #[.val (.long p0), .second, .val (.int p1), .val (.int p2), .val (.int p3), .val (.int (Int32.ofNat nl)), .val (.int ((p2 &&& (2147483647 : Int32)) % (5 : Int32))), .val (.int jU), .val (.long (Int64.ofNat nu)), .second, .val (.ref b2), .val (.long (Int64.ofNat (own_val (([] : List Int32) ++ [((48 : Int32) + rd_5)])))), .second, .val (.int rd_72), .unset, .unset, .unset] [(.long (Int64.ofNat (own_val (([] : List Int32) ++ [((48 : Int32) + rd_5)]))))])) rfl (hb hby at_167) _) ?_
      show Go _ _ _ _ (T73.setTop (mkF m 170 #[lJ p0, lS, lI p1, lI p2, lI p3, lI (Int32.ofNat nl), lI ((p2 &&& (2147483647 : Int32)) % (5 : Int32)), lI jU, lJ (Int64.ofNat nu), lS, lR b2, lJ (Int64.ofNat (own_val (([] : List Int32) ++ [((48 : Int32) + rd_5)]))), lS, lI rd_72, lU, lU, lU] [(.long (10 : Int64)), (.long (Int64.ofNat (own_val (([] : List Int32) ++ [((48 : Int32) + rd_5)]))))]))
      refine Go.st (fun _ => XS.lmul X73.here hx rfl (hb hby at_170) rfl) ?_
      show Go _ _ _ _ (T73.setTop (mkF m 171 #[lJ p0, lS, lI p1, lI p2, lI p3, lI (Int32.ofNat nl), lI ((p2 &&& (2147483647 : Int32)) % (5 : Int32)), lI jU, lJ (Int64.ofNat nu), lS, lR b2, lJ (Int64.ofNat (own_val (([] : List Int32) ++ [((48 : Int32) + rd_5)]))), lS, lI rd_72, lU, lU, lU] [(.long ((Int64.ofNat (own_val (([] : List Int32) ++ [((48 : Int32) + rd_5)]))) * (10 : Int64)))]))
      refine Go.st (fun _ => XS.iload X73.here hx rfl (hb hby at_171) rfl) ?_
      show Go _ _ _ _ (T73.setTop (mkF m 173 #[lJ p0, lS, lI p1, lI p2, lI p3, lI (Int32.ofNat nl), lI ((p2 &&& (2147483647 : Int32)) % (5 : Int32)), lI jU, lJ (Int64.ofNat nu), lS, lR b2, lJ (Int64.ofNat (own_val (([] : List Int32) ++ [((48 : Int32) + rd_5)]))), lS, lI rd_72, lU, lU, lU] [(.int rd_72), (.long ((Int64.ofNat (own_val (([] : List Int32) ++ [((48 : Int32) + rd_5)]))) * (10 : Int64)))]))
      refine Go.st (fun _ => XS.i2l X73.here hx rfl (hb hby at_173) rfl) ?_
      show Go _ _ _ _ (T73.setTop (mkF m 174 #[lJ p0, lS, lI p1, lI p2, lI p3, lI (Int32.ofNat nl), lI ((p2 &&& (2147483647 : Int32)) % (5 : Int32)), lI jU, lJ (Int64.ofNat nu), lS, lR b2, lJ (Int64.ofNat (own_val (([] : List Int32) ++ [((48 : Int32) + rd_5)]))), lS, lI rd_72, lU, lU, lU] [(.long (rd_72.toInt64)), (.long ((Int64.ofNat (own_val (([] : List Int32) ++ [((48 : Int32) + rd_5)]))) * (10 : Int64)))]))
      refine Go.st (fun _ => XS.ladd X73.here hx rfl (hb hby at_174) rfl) ?_
      show Go _ _ _ _ (T73.setTop (mkF m 175 #[lJ p0, lS, lI p1, lI p2, lI p3, lI (Int32.ofNat nl), lI ((p2 &&& (2147483647 : Int32)) % (5 : Int32)), lI jU, lJ (Int64.ofNat nu), lS, lR b2, lJ (Int64.ofNat (own_val (([] : List Int32) ++ [((48 : Int32) + rd_5)]))), lS, lI rd_72, lU, lU, lU] [(.long (((Int64.ofNat (own_val (([] : List Int32) ++ [((48 : Int32) + rd_5)]))) * (10 : Int64)) + (rd_72.toInt64)))]))
      refine Go.st (fun _ => XS.lstore X73.here hx rfl (hb hby at_175) rfl (l' := #[.val (.long p0), .second, .val (.int p1), .val (.int p2), .val (.int p3), .val (.int (Int32.ofNat nl)), .val (.int ((p2 &&& (2147483647 : Int32)) % (5 : Int32))), .val (.int jU), .val (.long (Int64.ofNat nu)), .second, .val (.ref b2), .val (.long (((Int64.ofNat (own_val (([] : List Int32) ++ [((48 : Int32) + rd_5)]))) * (10 : Int64)) + (rd_72.toInt64))), .second, .val (.int rd_72), .unset, .unset, .unset]) rfl) ?_
      show Go _ _ _ _ (T73.setTop (mkF m 177 #[lJ p0, lS, lI p1, lI p2, lI p3, lI (Int32.ofNat nl), lI ((p2 &&& (2147483647 : Int32)) % (5 : Int32)), lI jU, lJ (Int64.ofNat nu), lS, lR b2, lJ (((Int64.ofNat (own_val (([] : List Int32) ++ [((48 : Int32) + rd_5)]))) * (10 : Int64)) + (rd_72.toInt64)), lS, lI rd_72, lU, lU, lU] []))
      exact J7 T73 h73 _ _ _ (X73.more (by decide) (by decide)) e73 K73 O73 N73 hS0 (Nat.le_trans (Nat.le_trans (Nat.le_trans hk0 E2.1) (Keep.of_wr W6).1) (Keep.of_wr W73).1) hZ hown  (((Int64.ofNat (own_val (([] : List Int32) ++ [((48 : Int32) + rd_5)]))) * (10 : Int64)) + (rd_72.toInt64)) rd_72 ((([] : List Int32) ++ [((48 : Int32) + rd_5)]) ++ [((48 : Int32) + rd_72)])  V73' (by simp only [List.length_append, List.length_singleton, List.length_nil]; omega) (own_D_snoc hdig0 ⟨(own_48 q71_0).1, (own_48 q71_0).2.1⟩) (own_cnt q71_0)
    · skip
      have hb1 : nl ≤ 1 := own_nltN' (i := 1) hc70 (by decide) (by omega)
      refine Go.st (fun _ => XS.icmpYes X6.here hx rfl (pc0 := 145) (pc' := 177) rfl (hb hby at_145) rfl (flt hc70).2.2.2 (by decide) (by decide)) ?_
      show Go _ _ _ _ (T6.setTop (mkF m 177 #[lJ p0, lS, lI p1, lI p2, lI p3, lI (Int32.ofNat nl), lI ((p2 &&& (2147483647 : Int32)) % (5 : Int32)), lI jU, lJ (Int64.ofNat nu), lS, lR b2, lJ (Int64.ofNat (own_val (([] : List Int32) ++ [((48 : Int32) + rd_5)]))), lS, lI rd_5, lU, lU, lU] []))
      exact J7 T6 h6 _ _ _ (X6.more (by decide) (by decide)) e6 K6 O6 N6 hS0 (Nat.le_trans (Nat.le_trans hk0 E2.1) (Keep.of_wr W6).1) hZ hown  (Int64.ofNat (own_val (([] : List Int32) ++ [((48 : Int32) + rd_5)]))) rd_5 (([] : List Int32) ++ [((48 : Int32) + rd_5)])  V6' (by omega) hdig0 rfl
  refine Go.st (fun _ => XS.iload X0.here hx rfl (hb hby at_19) rfl) ?_
  show Go _ _ _ _ (s₁.setTop (mkF m 21 #[lJ p0, lS, lI p1, lI p2, lI p3, lI (Int32.ofNat nl), lI ((p2 &&& (2147483647 : Int32)) % (5 : Int32)), lU, lU, lU, lU, lU, lU, lU, lU, lU, lU] [(.int ((p2 &&& (2147483647 : Int32)) % (5 : Int32)))]))
  by_cases hc74 : ((p2 &&& (2147483647 : Int32)) % (5 : Int32)) = (0 : Int32)
  · skip
    refine Go.st (fun _ => XS.ifNo X0.here hx rfl (hb hby at_21) rfl ((if0 _ _).trans (teq hc74).2)) ?_
    show Go _ _ _ _ (s₁.setTop (mkF m 24 #[lJ p0, lS, lI p1, lI p2, lI p3, lI (Int32.ofNat nl), lI ((p2 &&& (2147483647 : Int32)) % (5 : Int32)), lU, lU, lU, lU, lU, lU, lU, lU, lU, lU] []))
    refine Go.st (fun _ => XS.bipush X0.here hx rfl (hb hby at_24)) ?_
    show Go _ _ _ _ (s₁.setTop (mkF m 26 #[lJ p0, lS, lI p1, lI p2, lI p3, lI (Int32.ofNat nl), lI ((p2 &&& (2147483647 : Int32)) % (5 : Int32)), lU, lU, lU, lU, lU, lU, lU, lU, lU, lU] [(.int (115 : Int32))]))
    refine Go.st (fun _ => XS.istore X0.here hx rfl (hb hby at_26) rfl (l' := #[.val (.long p0), .second, .val (.int p1), .val (.int p2), .val (.int p3), .val (.int (Int32.ofNat nl)), .val (.int ((p2 &&& (2147483647 : Int32)) % (5 : Int32))), .val (.int (115 : Int32)), .unset, .unset, .unset, .unset, .unset, .unset, .unset, .unset, .unset]) rfl) ?_
    show Go _ _ _ _ (s₁.setTop (mkF m 28 #[lJ p0, lS, lI p1, lI p2, lI p3, lI (Int32.ofNat nl), lI ((p2 &&& (2147483647 : Int32)) % (5 : Int32)), lI (115 : Int32), lU, lU, lU, lU, lU, lU, lU, lU, lU] []))
    refine Go.st (fun _ => XS.lconst X0.here hx rfl (hb hby at_28)) ?_
    show Go _ _ _ _ (s₁.setTop (mkF m 29 #[lJ p0, lS, lI p1, lI p2, lI p3, lI (Int32.ofNat nl), lI ((p2 &&& (2147483647 : Int32)) % (5 : Int32)), lI (115 : Int32), lU, lU, lU, lU, lU, lU, lU, lU, lU] [(.long (1 : Int64))]))
    refine Go.st (fun _ => XS.lstore X0.here hx rfl (hb hby at_29) rfl (l' := #[.val (.long p0), .second, .val (.int p1), .val (.int p2), .val (.int p3), .val (.int (Int32.ofNat nl)), .val (.int ((p2 &&& (2147483647 : Int32)) % (5 : Int32))), .val (.int (115 : Int32)), .val (.long (1 : Int64)), .second, .unset, .unset, .unset, .unset, .unset, .unset, .unset]) rfl) ?_
    show Go _ _ _ _ (s₁.setTop (mkF m 31 #[lJ p0, lS, lI p1, lI p2, lI p3, lI (Int32.ofNat nl), lI ((p2 &&& (2147483647 : Int32)) % (5 : Int32)), lI (115 : Int32), lJ (1 : Int64), lS, lU, lU, lU, lU, lU, lU, lU] []))
    refine Go.st (fun _ => XS.goto X0.here hx rfl (pc0 := 31) (pc' := 97) rfl (hb hby at_31) (by decide) (by decide)) ?_
    show Go _ _ _ _ (s₁.setTop (mkF m 97 #[lJ p0, lS, lI p1, lI p2, lI p3, lI (Int32.ofNat nl), lI ((p2 &&& (2147483647 : Int32)) % (5 : Int32)), lI (115 : Int32), lJ (1 : Int64), lS, lU, lU, lU, lU, lU, lU, lU] []))
    exact J1 s₁ _ (X0.more (by decide) (by decide)) e0 N0 (115 : Int32) (1 : Int64) 1  (by unfold own_U; decide) rfl
  · skip
    refine Go.st (fun _ => XS.ifYes X0.here hx rfl (pc0 := 21) (pc' := 34) rfl (hb hby at_21) rfl ((if0 _ _).trans (feq hc74).2) (by decide) (by decide)) ?_
    show Go _ _ _ _ (s₁.setTop (mkF m 34 #[lJ p0, lS, lI p1, lI p2, lI p3, lI (Int32.ofNat nl), lI ((p2 &&& (2147483647 : Int32)) % (5 : Int32)), lU, lU, lU, lU, lU, lU, lU, lU, lU, lU] []))
    refine Go.st (fun _ => XS.iload X0.here hx rfl (hb hby at_34) rfl) ?_
    refine Go.st (fun _ => XS.iconst X0.here hx rfl (hb hby at_36)) ?_
    show Go _ _ _ _ (s₁.setTop (mkF m 37 #[lJ p0, lS, lI p1, lI p2, lI p3, lI (Int32.ofNat nl), lI ((p2 &&& (2147483647 : Int32)) % (5 : Int32)), lU, lU, lU, lU, lU, lU, lU, lU, lU, lU] [(.int (1 : Int32)), (.int ((p2 &&& (2147483647 : Int32)) % (5 : Int32)))]))
    by_cases hc75 : ((p2 &&& (2147483647 : Int32)) % (5 : Int32)) = (1 : Int32)
    · skip
      refine Go.st (fun _ => XS.icmpNo X0.here hx rfl (hb hby at_37) rfl (teq hc75).2) ?_
      show Go _ _ _ _ (s₁.setTop (mkF m 40 #[lJ p0, lS, lI p1, lI p2, lI p3, lI (Int32.ofNat nl), lI ((p2 &&& (2147483647 : Int32)) % (5 : Int32)), lU, lU, lU, lU, lU, lU, lU, lU, lU, lU] []))
      refine Go.st (fun _ => XS.bipush X0.here hx rfl (hb hby at_40)) ?_
      show Go _ _ _ _ (s₁.setTop (mkF m 42 #[lJ p0, lS, lI p1, lI p2, lI p3, lI (Int32.ofNat nl), lI ((p2 &&& (2147483647 : Int32)) % (5 : Int32)), lU, lU, lU, lU, lU, lU, lU, lU, lU, lU] [(.int (109 : Int32))]))
      refine Go.st (fun _ => XS.istore X0.here hx rfl (hb hby at_42) rfl (l' := #[.val (.long p0), .second, .val (.int p1), .val (.int p2), .val (.int p3), .val (.int (Int32.ofNat nl)), .val (.int ((p2 &&& (2147483647 : Int32)) % (5 : Int32))), .val (.int (109 : Int32)), .unset, .unset, .unset, .unset, .unset, .unset, .unset, .unset, .unset]) rfl) ?_
      show Go _ _ _ _ (s₁.setTop (mkF m 44 #[lJ p0, lS, lI p1, lI p2, lI p3, lI (Int32.ofNat nl), lI ((p2 &&& (2147483647 : Int32)) % (5 : Int32)), lI (109 : Int32), lU, lU, lU, lU, lU, lU, lU, lU, lU] []))
      refine Go.st (fun _ => X0.ldc2Long hx hown (mvT hZ (ow hw 1 rfl)) (g := (mkF m 44 #[.val (.long p0), .second, .val (.int p1), .val (.int p2), .val (.int p3), .val (.int (Int32.ofNat nl)), .val (.int ((p2 &&& (2147483647 : Int32)) % (5 : Int32))), .val (.int (109 : Int32)), .unset, .unset, .unset, .unset, .unset, .unset, .unset, .unset, .unset] [])) rfl (hb hby at_44) _) ?_
      show Go _ _ _ _ (s₁.setTop (mkF m 47 #[lJ p0, lS, lI p1, lI p2, lI p3, lI (Int32.ofNat nl), lI ((p2 &&& (2147483647 : Int32)) % (5 : Int32)), lI (109 : Int32), lU, lU, lU, lU, lU, lU, lU, lU, lU] [(.long (60 : Int64))]))
      refine Go.st (fun _ => XS.lstore X0.here hx rfl (hb hby at_47) rfl (l' := #[.val (.long p0), .second, .val (.int p1), .val (.int p2), .val (.int p3), .val (.int (Int32.ofNat nl)), .val (.int ((p2 &&& (2147483647 : Int32)) % (5 : Int32))), .val (.int (109 : Int32)), .val (.long (60 : Int64)), .second, .unset, .unset, .unset, .unset, .unset, .unset, .unset]) rfl) ?_
      show Go _ _ _ _ (s₁.setTop (mkF m 49 #[lJ p0, lS, lI p1, lI p2, lI p3, lI (Int32.ofNat nl), lI ((p2 &&& (2147483647 : Int32)) % (5 : Int32)), lI (109 : Int32), lJ (60 : Int64), lS, lU, lU, lU, lU, lU, lU, lU] []))
      refine Go.st (fun _ => XS.goto X0.here hx rfl (pc0 := 49) (pc' := 97) rfl (hb hby at_49) (by decide) (by decide)) ?_
      show Go _ _ _ _ (s₁.setTop (mkF m 97 #[lJ p0, lS, lI p1, lI p2, lI p3, lI (Int32.ofNat nl), lI ((p2 &&& (2147483647 : Int32)) % (5 : Int32)), lI (109 : Int32), lJ (60 : Int64), lS, lU, lU, lU, lU, lU, lU, lU] []))
      exact J1 s₁ _ (X0.more (by decide) (by decide)) e0 N0 (109 : Int32) (60 : Int64) 60  (by unfold own_U; decide) rfl
    · skip
      refine Go.st (fun _ => XS.icmpYes X0.here hx rfl (pc0 := 37) (pc' := 52) rfl (hb hby at_37) rfl (feq hc75).2 (by decide) (by decide)) ?_
      show Go _ _ _ _ (s₁.setTop (mkF m 52 #[lJ p0, lS, lI p1, lI p2, lI p3, lI (Int32.ofNat nl), lI ((p2 &&& (2147483647 : Int32)) % (5 : Int32)), lU, lU, lU, lU, lU, lU, lU, lU, lU, lU] []))
      refine Go.st (fun _ => XS.iload X0.here hx rfl (hb hby at_52) rfl) ?_
      refine Go.st (fun _ => XS.iconst X0.here hx rfl (hb hby at_54)) ?_
      show Go _ _ _ _ (s₁.setTop (mkF m 55 #[lJ p0, lS, lI p1, lI p2, lI p3, lI (Int32.ofNat nl), lI ((p2 &&& (2147483647 : Int32)) % (5 : Int32)), lU, lU, lU, lU, lU, lU, lU, lU, lU, lU] [(.int (2 : Int32)), (.int ((p2 &&& (2147483647 : Int32)) % (5 : Int32)))]))
      by_cases hc76 : ((p2 &&& (2147483647 : Int32)) % (5 : Int32)) = (2 : Int32)
      · skip
        refine Go.st (fun _ => XS.icmpNo X0.here hx rfl (hb hby at_55) rfl (teq hc76).2) ?_
        show Go _ _ _ _ (s₁.setTop (mkF m 58 #[lJ p0, lS, lI p1, lI p2, lI p3, lI (Int32.ofNat nl), lI ((p2 &&& (2147483647 : Int32)) % (5 : Int32)), lU, lU, lU, lU, lU, lU, lU, lU, lU, lU] []))
        refine Go.st (fun _ => XS.bipush X0.here hx rfl (hb hby at_58)) ?_
        show Go _ _ _ _ (s₁.setTop (mkF m 60 #[lJ p0, lS, lI p1, lI p2, lI p3, lI (Int32.ofNat nl), lI ((p2 &&& (2147483647 : Int32)) % (5 : Int32)), lU, lU, lU, lU, lU, lU, lU, lU, lU, lU] [(.int (104 : Int32))]))
        refine Go.st (fun _ => XS.istore X0.here hx rfl (hb hby at_60) rfl (l' := #[.val (.long p0), .second, .val (.int p1), .val (.int p2), .val (.int p3), .val (.int (Int32.ofNat nl)), .val (.int ((p2 &&& (2147483647 : Int32)) % (5 : Int32))), .val (.int (104 : Int32)), .unset, .unset, .unset, .unset, .unset, .unset, .unset, .unset, .unset]) rfl) ?_
        show Go _ _ _ _ (s₁.setTop (mkF m 62 #[lJ p0, lS, lI p1, lI p2, lI p3, lI (Int32.ofNat nl), lI ((p2 &&& (2147483647 : Int32)) % (5 : Int32)), lI (104 : Int32), lU, lU, lU, lU, lU, lU, lU, lU, lU] []))
        refine Go.st (fun _ => X0.ldc2Long hx hown (mvT hZ (ow hw 133 rfl)) (g := (mkF m 62 #[.val (.long p0), .second, .val (.int p1), .val (.int p2), .val (.int p3), .val (.int (Int32.ofNat nl)), .val (.int ((p2 &&& (2147483647 : Int32)) % (5 : Int32))), .val (.int (104 : Int32)), .unset, .unset, .unset, .unset, .unset, .unset, .unset, .unset, .unset] [])) rfl (hb hby at_62) _) ?_
        show Go _ _ _ _ (s₁.setTop (mkF m 65 #[lJ p0, lS, lI p1, lI p2, lI p3, lI (Int32.ofNat nl), lI ((p2 &&& (2147483647 : Int32)) % (5 : Int32)), lI (104 : Int32), lU, lU, lU, lU, lU, lU, lU, lU, lU] [(.long (3600 : Int64))]))
        refine Go.st (fun _ => XS.lstore X0.here hx rfl (hb hby at_65) rfl (l' := #[.val (.long p0), .second, .val (.int p1), .val (.int p2), .val (.int p3), .val (.int (Int32.ofNat nl)), .val (.int ((p2 &&& (2147483647 : Int32)) % (5 : Int32))), .val (.int (104 : Int32)), .val (.long (3600 : Int64)), .second, .unset, .unset, .unset, .unset, .unset, .unset, .unset]) rfl) ?_
        show Go _ _ _ _ (s₁.setTop (mkF m 67 #[lJ p0, lS, lI p1, lI p2, lI p3, lI (Int32.ofNat nl), lI ((p2 &&& (2147483647 : Int32)) % (5 : Int32)), lI (104 : Int32), lJ (3600 : Int64), lS, lU, lU, lU, lU, lU, lU, lU] []))
        refine Go.st (fun _ => XS.goto X0.here hx rfl (pc0 := 67) (pc' := 97) rfl (hb hby at_67) (by decide) (by decide)) ?_
        show Go _ _ _ _ (s₁.setTop (mkF m 97 #[lJ p0, lS, lI p1, lI p2, lI p3, lI (Int32.ofNat nl), lI ((p2 &&& (2147483647 : Int32)) % (5 : Int32)), lI (104 : Int32), lJ (3600 : Int64), lS, lU, lU, lU, lU, lU, lU, lU] []))
        exact J1 s₁ _ (X0.more (by decide) (by decide)) e0 N0 (104 : Int32) (3600 : Int64) 3600  (by unfold own_U; decide) rfl
      · skip
        refine Go.st (fun _ => XS.icmpYes X0.here hx rfl (pc0 := 55) (pc' := 70) rfl (hb hby at_55) rfl (feq hc76).2 (by decide) (by decide)) ?_
        show Go _ _ _ _ (s₁.setTop (mkF m 70 #[lJ p0, lS, lI p1, lI p2, lI p3, lI (Int32.ofNat nl), lI ((p2 &&& (2147483647 : Int32)) % (5 : Int32)), lU, lU, lU, lU, lU, lU, lU, lU, lU, lU] []))
        refine Go.st (fun _ => XS.iload X0.here hx rfl (hb hby at_70) rfl) ?_
        refine Go.st (fun _ => XS.iconst X0.here hx rfl (hb hby at_72)) ?_
        show Go _ _ _ _ (s₁.setTop (mkF m 73 #[lJ p0, lS, lI p1, lI p2, lI p3, lI (Int32.ofNat nl), lI ((p2 &&& (2147483647 : Int32)) % (5 : Int32)), lU, lU, lU, lU, lU, lU, lU, lU, lU, lU] [(.int (3 : Int32)), (.int ((p2 &&& (2147483647 : Int32)) % (5 : Int32)))]))
        by_cases hc77 : ((p2 &&& (2147483647 : Int32)) % (5 : Int32)) = (3 : Int32)
        · skip
          refine Go.st (fun _ => XS.icmpNo X0.here hx rfl (hb hby at_73) rfl (teq hc77).2) ?_
          show Go _ _ _ _ (s₁.setTop (mkF m 76 #[lJ p0, lS, lI p1, lI p2, lI p3, lI (Int32.ofNat nl), lI ((p2 &&& (2147483647 : Int32)) % (5 : Int32)), lU, lU, lU, lU, lU, lU, lU, lU, lU, lU] []))
          refine Go.st (fun _ => XS.bipush X0.here hx rfl (hb hby at_76)) ?_
          show Go _ _ _ _ (s₁.setTop (mkF m 78 #[lJ p0, lS, lI p1, lI p2, lI p3, lI (Int32.ofNat nl), lI ((p2 &&& (2147483647 : Int32)) % (5 : Int32)), lU, lU, lU, lU, lU, lU, lU, lU, lU, lU] [(.int (100 : Int32))]))
          refine Go.st (fun _ => XS.istore X0.here hx rfl (hb hby at_78) rfl (l' := #[.val (.long p0), .second, .val (.int p1), .val (.int p2), .val (.int p3), .val (.int (Int32.ofNat nl)), .val (.int ((p2 &&& (2147483647 : Int32)) % (5 : Int32))), .val (.int (100 : Int32)), .unset, .unset, .unset, .unset, .unset, .unset, .unset, .unset, .unset]) rfl) ?_
          show Go _ _ _ _ (s₁.setTop (mkF m 80 #[lJ p0, lS, lI p1, lI p2, lI p3, lI (Int32.ofNat nl), lI ((p2 &&& (2147483647 : Int32)) % (5 : Int32)), lI (100 : Int32), lU, lU, lU, lU, lU, lU, lU, lU, lU] []))
          refine Go.st (fun _ => X0.ldc2Long hx hown (mvT hZ (ow hw 135 rfl)) (g := (mkF m 80 #[.val (.long p0), .second, .val (.int p1), .val (.int p2), .val (.int p3), .val (.int (Int32.ofNat nl)), .val (.int ((p2 &&& (2147483647 : Int32)) % (5 : Int32))), .val (.int (100 : Int32)), .unset, .unset, .unset, .unset, .unset, .unset, .unset, .unset, .unset] [])) rfl (hb hby at_80) _) ?_
          show Go _ _ _ _ (s₁.setTop (mkF m 83 #[lJ p0, lS, lI p1, lI p2, lI p3, lI (Int32.ofNat nl), lI ((p2 &&& (2147483647 : Int32)) % (5 : Int32)), lI (100 : Int32), lU, lU, lU, lU, lU, lU, lU, lU, lU] [(.long (86400 : Int64))]))
          refine Go.st (fun _ => XS.lstore X0.here hx rfl (hb hby at_83) rfl (l' := #[.val (.long p0), .second, .val (.int p1), .val (.int p2), .val (.int p3), .val (.int (Int32.ofNat nl)), .val (.int ((p2 &&& (2147483647 : Int32)) % (5 : Int32))), .val (.int (100 : Int32)), .val (.long (86400 : Int64)), .second, .unset, .unset, .unset, .unset, .unset, .unset, .unset]) rfl) ?_
          show Go _ _ _ _ (s₁.setTop (mkF m 85 #[lJ p0, lS, lI p1, lI p2, lI p3, lI (Int32.ofNat nl), lI ((p2 &&& (2147483647 : Int32)) % (5 : Int32)), lI (100 : Int32), lJ (86400 : Int64), lS, lU, lU, lU, lU, lU, lU, lU] []))
          refine Go.st (fun _ => XS.goto X0.here hx rfl (pc0 := 85) (pc' := 97) rfl (hb hby at_85) (by decide) (by decide)) ?_
          show Go _ _ _ _ (s₁.setTop (mkF m 97 #[lJ p0, lS, lI p1, lI p2, lI p3, lI (Int32.ofNat nl), lI ((p2 &&& (2147483647 : Int32)) % (5 : Int32)), lI (100 : Int32), lJ (86400 : Int64), lS, lU, lU, lU, lU, lU, lU, lU] []))
          exact J1 s₁ _ (X0.more (by decide) (by decide)) e0 N0 (100 : Int32) (86400 : Int64) 86400  (by unfold own_U; decide) rfl
        · skip
          refine Go.st (fun _ => XS.icmpYes X0.here hx rfl (pc0 := 73) (pc' := 88) rfl (hb hby at_73) rfl (feq hc77).2 (by decide) (by decide)) ?_
          show Go _ _ _ _ (s₁.setTop (mkF m 88 #[lJ p0, lS, lI p1, lI p2, lI p3, lI (Int32.ofNat nl), lI ((p2 &&& (2147483647 : Int32)) % (5 : Int32)), lU, lU, lU, lU, lU, lU, lU, lU, lU, lU] []))
          refine Go.st (fun _ => XS.bipush X0.here hx rfl (hb hby at_88)) ?_
          show Go _ _ _ _ (s₁.setTop (mkF m 90 #[lJ p0, lS, lI p1, lI p2, lI p3, lI (Int32.ofNat nl), lI ((p2 &&& (2147483647 : Int32)) % (5 : Int32)), lU, lU, lU, lU, lU, lU, lU, lU, lU, lU] [(.int (119 : Int32))]))
          refine Go.st (fun _ => XS.istore X0.here hx rfl (hb hby at_90) rfl (l' := #[.val (.long p0), .second, .val (.int p1), .val (.int p2), .val (.int p3), .val (.int (Int32.ofNat nl)), .val (.int ((p2 &&& (2147483647 : Int32)) % (5 : Int32))), .val (.int (119 : Int32)), .unset, .unset, .unset, .unset, .unset, .unset, .unset, .unset, .unset]) rfl) ?_
          show Go _ _ _ _ (s₁.setTop (mkF m 92 #[lJ p0, lS, lI p1, lI p2, lI p3, lI (Int32.ofNat nl), lI ((p2 &&& (2147483647 : Int32)) % (5 : Int32)), lI (119 : Int32), lU, lU, lU, lU, lU, lU, lU, lU, lU] []))
          refine Go.st (fun _ => X0.ldc2Long hx hown (mvT hZ (ow hw 132 rfl)) (g := (mkF m 92 #[.val (.long p0), .second, .val (.int p1), .val (.int p2), .val (.int p3), .val (.int (Int32.ofNat nl)), .val (.int ((p2 &&& (2147483647 : Int32)) % (5 : Int32))), .val (.int (119 : Int32)), .unset, .unset, .unset, .unset, .unset, .unset, .unset, .unset, .unset] [])) rfl (hb hby at_92) _) ?_
          show Go _ _ _ _ (s₁.setTop (mkF m 95 #[lJ p0, lS, lI p1, lI p2, lI p3, lI (Int32.ofNat nl), lI ((p2 &&& (2147483647 : Int32)) % (5 : Int32)), lI (119 : Int32), lU, lU, lU, lU, lU, lU, lU, lU, lU] [(.long (604800 : Int64))]))
          refine Go.st (fun _ => XS.lstore X0.here hx rfl (hb hby at_95) rfl (l' := #[.val (.long p0), .second, .val (.int p1), .val (.int p2), .val (.int p3), .val (.int (Int32.ofNat nl)), .val (.int ((p2 &&& (2147483647 : Int32)) % (5 : Int32))), .val (.int (119 : Int32)), .val (.long (604800 : Int64)), .second, .unset, .unset, .unset, .unset, .unset, .unset, .unset]) rfl) ?_
          show Go _ _ _ _ (s₁.setTop (mkF m 97 #[lJ p0, lS, lI p1, lI p2, lI p3, lI (Int32.ofNat nl), lI ((p2 &&& (2147483647 : Int32)) % (5 : Int32)), lI (119 : Int32), lJ (604800 : Int64), lS, lU, lU, lU, lU, lU, lU, lU] []))
          exact J1 s₁ _ (X0.more (by decide) (by decide)) e0 N0 (119 : Int32) (604800 : Int64) 604800  (by unfold own_U; decide) rfl
set_option maxRecDepth 65536 in
set_option maxHeartbeats 40000000 in
theorem comes_1 {Post : Tables → Env → Array Value → State → Outcome → State → Prop} (hpost : ∀ tb e args s v u, (limb_1_1.after args s (.returned v) u = true ∧ limb_1_2.after args s (.returned v) u = true ∧ True) → ReturnedEndW s (.returned v) u (Jvm.fieldLocs frame_1_writes args s ++ Jvm.arrayLocs frame_1_arrays args s ++ Jvm.staticLocs frame_1_statics s) 24 2240 → Post tb e args s (.returned v) u) :
    ArmFor flags0 classFile x code maxLocals ret World_1 tables_1 room_1 Calls_1 rest_1 Pre_1 Post := by
  intro l hfl _ _ p e ha hc hk s m args below hf hA hF happ hP
  obtain ⟨hcalls, hrest, hpre⟩ := hP
  obtain ⟨-, -, -, hnamed, -, -, -, hat⟩ := (Spec.applies_iff hf).mp happ
  obtain ⟨hg, hn⟩ := and_e (Cond.before_iff.mp (show (Jvm.Cond.and given_1 narrow_1).before args s = true from hpre))
  obtain ⟨hc_1, hc_2⟩ := and_e hg
  obtain ⟨hc_3, hc_4⟩ := and_e hc_2
  obtain ⟨hc_5, hc_6⟩ := and_e hc_4
  obtain ⟨hc_7, hc_8⟩ := and_e hc_6
  obtain ⟨w0, w1, w2, w3, rfl⟩ : ∃ w0 w1 w2 w3 : Value, args = #[w0, w1, w2, w3] := by
    have hs : args.size = 4 := by simpa [Cond.value, given_1] using hc_1
    obtain ⟨L⟩ := args
    match L, hs with
    | [w0, w1, w2, w3], _ => exact ⟨w0, w1, w2, w3, rfl⟩
  have hw := fun d (hd : d ∈ tables_1) => atoms_spec (ws := Jvm.Cond.code x code maxLocals ret :: tables_1) hat d (List.mem_cons_of_mem _ hd)
  have hfit : Fit s := fun {y c} hc i hi => by
    obtain ⟨ha, rfl⟩ := Array.getElem?_eq_some_iff.mp hc
    have q := List.all_eq_true.mp ((Array.all_eq_true_iff_forall_mem.mp hF) _ (Array.getElem_mem ha)) i (List.mem_range.mpr hi)
    simpa [Array.getElem?_eq_getElem hi] using q
  obtain ⟨hsets, hown0⟩ := atoms_of _ (rest_1_c_eq ▸ (show rest_1_c.before _ s = true from hrest))
  have nCS := not_v (Cond.before_iff.mp (hsets _ (List.mem_of_getElem? (i := 2) rfl)))
  obtain ⟨g_CS, eCS⟩ := is_v (Cond.before_iff.mp (hsets _ (List.mem_of_getElem? (i := 1) rfl)))
  have S_CS := Sta.start eCS (Or.inl (hsets _ (List.mem_of_getElem? (i := 0) rfl)))
  have nz_CS : ¬ (g_CS = (0 : Int32)) := gotF (Cond.eq_ints eCS (Term.int_eval (0))) nCS
  obtain ⟨g_SF, eSF, r_SF⟩ := isR_v (Cond.before_iff.mp (hsets _ (List.mem_of_getElem? (i := 8) rfl)))
  have S_SF := Sta.start eSF (Or.inl (hsets _ (List.mem_of_getElem? (i := 7) rfl)))
  obtain ⟨i0, ea0⟩ := isL_v hc_3
  obtain rfl : w0 = (.long i0) := Option.some.inj ea0
  obtain ⟨i1, ea1⟩ := is_v hc_5
  obtain rfl : w1 = (.int i1) := Option.some.inj ea1
  obtain ⟨i2, ea2⟩ := is_v hc_7
  obtain rfl : w2 = (.int i2) := Option.some.inj ea2
  obtain ⟨i3, ea3⟩ := is_v hc_8
  obtain rfl : w3 = (.int i3) := Option.some.inj ea3
  obtain ⟨hc_9, hc_10⟩ := and_e hn
  obtain ⟨w_MX, ev_MX⟩ := exa_v hc_9
  have X_MX := Exa.start ev_MX hc_9
  have S_MX := Sta.start ev_MX (Or.inr ⟨(ow hw 55 rfl), (ow hw 101 rfl)⟩)
  have I_MX_seconds := Fld.start ((fld_at ev_MX).symm.trans (eqv_l (F := .long (3155760000)) rfl hc_10))
  obtain ⟨w_ZR, ev_ZR⟩ := exa_v (Cond.before_iff.mp (hsets _ (List.mem_of_getElem? (i := 11) rfl)))
  have X_ZR := Exa.start ev_ZR (Cond.before_iff.mp (hsets _ (List.mem_of_getElem? (i := 11) rfl)))
  have S_ZR := Sta.start ev_ZR (Or.inl (Cond.before_iff.mpr (Cond.before_iff.mp (hsets _ (List.mem_of_getElem? (i := 10) rfl)))))
  have I_ZR_seconds := Fld.start ((fld_at ev_ZR).symm.trans (eqv_l (F := .long (0)) rfl (Cond.before_iff.mp (hsets _ (List.mem_of_getElem? (i := 12) rfl)))))
  have I_ZR_nanos := Fld.start ((fld_at ev_ZR).symm.trans (eqv_i (Term.int_eval (0)) (Cond.before_iff.mp (hsets _ (List.mem_of_getElem? (i := 13) rfl)))))
  obtain ⟨n, o, h1, h2, h3, _, L, rfl, ⟨rfl, N, _⟩, hq⟩ := rm_law l s _ hw tables_1 w_MX S_MX X_MX I_MX_seconds w_ZR S_ZR X_ZR I_ZR_seconds I_ZR_nanos g_CS S_CS nz_CS g_SF S_SF r_SF i0 i1 i2 i3 s.heap s.heap.size (Old.start s) p e ha hc hk s m _ below hf ((Spec.applies_iff_loose hf).mp happ).1 ⟨rfl, State.Warmed39.refl s, rfl⟩ trivial
  refine ⟨n, _, h1, h2, h3, hpost _ _ _ _ _ _ ⟨Cond.after_iff.mpr rfl, Cond.after_iff.mpr (eq_i res_at (Term.int_eval (1)) rfl), trivial⟩ ⟨hq.1, hq.2.1, hq.2.2.1, (hq.2.2.2.sift fun y hy => Or.inr (N y hy)).mono (by decide) (by decide)⟩⟩
theorem main_1_1 : Claimed_1_1 := comes_1 fun _ _ _ _ _ _ h hF => ⟨h.1, hF⟩
theorem main_1_2 : Claimed_1_2 := comes_1 fun _ _ _ _ _ _ h hF => ⟨h.2.1, hF⟩
end Jvm.Pilot.@@N@@
namespace Jvm.Pilot.@@N@@
open Jvm Jvm.ClassFile Sem Op Lib Jvm.Free Jvm.Stand Jvm.Pilot.@@N@@.Jvm.D
/-! MADE BY PROGRAM (witnessworld.py) out of the Statement's table words and the real class files: 23 classes; the members and pool entries that the words name. The judged class is class 1, her method 2. -/
namespace start1
open Jvm.ClassFile
def u (s : String) : CpInfo := .utf8 (stringToUtf16 s)
/-- a pool by its gaps: so many unusable entries, then the entry; so many at the end -/
def gap : Nat → List CpInfo → List CpInfo
  | 0, r => r
  | n + 1, r => .unusable :: gap n r
def poolList (es : List (Nat × CpInfo)) (last : Nat) : List CpInfo := es.foldr (fun e r => gap e.1 (e.2 :: r)) (gap last [])
def pool (es : List (Nat × CpInfo)) (last : Nat) : Array CpInfo := ⟨poolList es last⟩
def fileOf (pool : Array CpInfo) (this : Nat) (attrs : Array Attribute := #[]) (ms : Array MethodInfo := #[]) (fl : Nat := 33) (sup : Nat := 0) (ifs : Array Nat := #[]) (fds : Array FieldInfo := #[]) : ClassFile where
  minorVersion := 0
  majorVersion := 65
  constantPool := pool
  accessFlags := fl
  thisClass := this
  superClass := sup
  interfaces := ifs
  fields := fds
  methods := ms
  attributes := attrs
def plain (name : String) (sup : Option ClassId) : Class where
  name := name
  kind := .ordinary
  loader := none
  accessFlags := 33
  super := sup
  interfaces := #[]
  cf := none
  fields := #[]
  methods := #[]
  instanceTypes := #[]
  staticTypes := #[]
  resolved := #[]
  callSites := []
  init := .initialized
  statics := none
  mirror := none

def pool0 : Array CpInfo := pool [(5, u "<init>"), (0, u "()V"), (1, .class_ 10), (1, u "java/lang/Object")] 113

def k0c0 : Code := { maxStack := 0, maxLocals := 1, code := object_method_1_code, exceptionTable := #[], attributes := #[] }
def k0m0 : Method := { name := "<init>", desc := "()V", sig := { parameters := [], returnType := none }, accessFlags := 1, code := some k0c0 }
/-- java/lang/Object -/
def k0 : Class := { plain "java/lang/Object" none with
  accessFlags := 33
  interfaces := #[]
  cf := some (fileOf pool0 8 #[] #[{ accessFlags := 1, nameIndex := 5, descriptorIndex := 6, attributes := #[] }] 33 0 #[] #[])
  fields := #[]
  methods := #[k0m0]
  instanceTypes := #[]
  staticTypes := #[]
  resolved := Array.replicate 124 none
  statics := none }

def pool1 : Array CpInfo := pool [(2, .class_ 4), (1, u "java/lang/Object"), (0, u "<init>"), (0, u "()V"), (0, .long 15), (1, .long 10), (1, .integer 2147483647), (0, .long 60), (1, .long 3600), (1, .long 86400), (1, .long 604800), (1, .methodref 21 22), (0, .class_ 23), (0, .nameAndType 24 25), (0, u "com/example/vacuum/vacuum/settings/DurationsParsePinLaw"), (0, u "digit"), (0, u "(JI)I"), (0, .long 3155760000), (1, .methodref 29 30), (0, .class_ 31), (0, .nameAndType 32 33), (0, u "java/lang/String"), (0, u "valueOf"), (0, u "(C)Ljava/lang/String;"), (0, .methodref 29 35), (0, .nameAndType 5 36), (0, u "([C)V"), (0, .methodref 38 39), (0, .class_ 40), (0, .nameAndType 41 42), (0, u "com/example/vacuum/vacuum/settings/Durations"), (0, u "parse"), (0, u "(Ljava/lang/String;Ljava/lang/String;)Ljava/time/Duration;"), (0, .methodref 44 45), (0, .class_ 46), (0, .nameAndType 47 48), (0, u "java/time/Duration"), (0, u "getSeconds"), (0, u "()J"), (0, .methodref 44 50), (0, .nameAndType 51 52), (0, u "getNano"), (0, u "()I"), (2, u "law"), (0, u "(JIII)Z")] 5

def k1m0 : Method := { name := "<init>", desc := "()V", sig := { parameters := [], returnType := none }, accessFlags := 2, code := none }
def k1c1 : Code := { maxStack := 4, maxLocals := 3, code := method_2_code, exceptionTable := #[], attributes := #[] }
def k1m1 : Method := { name := "digit", desc := "(JI)I", sig := { parameters := [.long, .int], returnType := some .int }, accessFlags := 10, code := some k1c1 }
def k1c2 : Code := { maxStack := 4, maxLocals := 17, code := code, exceptionTable := #[], attributes := #[] }
def k1m2 : Method := { name := "law", desc := "(JIII)Z", sig := { parameters := [.long, .int, .int, .int], returnType := some .boolean }, accessFlags := 9, code := some k1c2 }
/-- com/example/vacuum/vacuum/settings/DurationsParsePinLaw -/
def k1 : Class := { plain "com/example/vacuum/vacuum/settings/DurationsParsePinLaw" (some 0) with
  accessFlags := 49
  interfaces := #[]
  cf := some (fileOf pool1 21 #[] #[{ accessFlags := 2, nameIndex := 5, descriptorIndex := 6, attributes := #[] }, { accessFlags := 10, nameIndex := 24, descriptorIndex := 25, attributes := #[] }, { accessFlags := 9, nameIndex := 55, descriptorIndex := 56, attributes := #[] }] 49 2 #[] #[])
  fields := #[]
  methods := #[k1m0, k1m1, k1m2]
  instanceTypes := #[]
  staticTypes := #[]
  resolved := Array.replicate 62 none
  statics := none }

def pool2 : Array CpInfo := pool [(1, .class_ 2), (0, u "java/io/Serializable"), (0, .class_ 4), (0, u "java/lang/Object")] 2

/-- java/io/Serializable -/
def k2 : Class := { plain "java/io/Serializable" (some 0) with
  accessFlags := 1537
  interfaces := #[]
  cf := some (fileOf pool2 1 #[] #[] 1537 3 #[] #[])
  fields := #[]
  methods := #[]
  instanceTypes := #[]
  staticTypes := #[]
  resolved := Array.replicate 7 none
  statics := none }

def pool3 : Array CpInfo := pool [(1, .class_ 2), (0, u "java/lang/Comparable"), (0, .class_ 4), (0, u "java/lang/Object")] 7

/-- java/lang/Comparable -/
def k3 : Class := { plain "java/lang/Comparable" (some 0) with
  accessFlags := 1537
  interfaces := #[]
  cf := some (fileOf pool3 1 #[] #[] 1537 3 #[] #[])
  fields := #[]
  methods := #[]
  instanceTypes := #[]
  staticTypes := #[]
  resolved := Array.replicate 12 none
  statics := none }

def pool4 : Array CpInfo := pool [(2, .class_ 4), (1, u "java/lang/CharSequence"), (42, .class_ 48), (0, u "java/lang/CharSequence$1CodePointIterator"), (10, .class_ 60), (0, u "java/lang/CharSequence$1CharIterator"), (5, .class_ 67), (0, u "java/lang/Object")] 63

/-- java/lang/CharSequence -/
def k4 : Class := { plain "java/lang/CharSequence" (some 0) with
  accessFlags := 1537
  interfaces := #[]
  cf := some (fileOf pool4 2 #[.nestMembers #[47, 59]] #[] 1537 66 #[] #[])
  fields := #[]
  methods := #[]
  instanceTypes := #[]
  staticTypes := #[]
  resolved := Array.replicate 131 none
  statics := none }

def pool5 : Array CpInfo := pool [(1, .class_ 2), (0, u "java/lang/constant/Constable"), (0, .class_ 4), (0, u "java/lang/Object")] 6

/-- java/lang/constant/Constable -/
def k5 : Class := { plain "java/lang/constant/Constable" (some 0) with
  accessFlags := 1537
  interfaces := #[]
  cf := some (fileOf pool5 1 #[] #[] 1537 3 #[] #[])
  fields := #[]
  methods := #[]
  instanceTypes := #[]
  staticTypes := #[]
  resolved := Array.replicate 11 none
  statics := none }

def pool6 : Array CpInfo := pool [(1, .class_ 2), (0, u "java/lang/constant/ConstantDesc"), (0, .class_ 4), (0, u "java/lang/Object")] 32

/-- java/lang/constant/ConstantDesc -/
def k6 : Class := { plain "java/lang/constant/ConstantDesc" (some 0) with
  accessFlags := 1537
  interfaces := #[]
  cf := some (fileOf pool6 1 #[] #[] 1537 3 #[] #[])
  fields := #[]
  methods := #[]
  instanceTypes := #[]
  staticTypes := #[]
  resolved := Array.replicate 37 none
  statics := none }

def pool7 : Array CpInfo := pool [(1, .methodref 2 3), (0, .class_ 4), (0, .nameAndType 5 6), (0, u "java/lang/Object"), (0, u "<init>"), (0, u "()V"), (2, .fieldref 10 11), (0, .class_ 12), (0, .nameAndType 13 14), (0, u "java/lang/String"), (0, u "value"), (0, u "[B"), (0, .fieldref 10 16), (0, .nameAndType 17 18), (0, u "coder"), (0, u "B"), (2, u "hash"), (0, u "I"), (2, u "hashIsZero"), (0, u "Z"), (0, .methodref 10 28), (0, .nameAndType 5 29), (0, u "([CIILjava/lang/Void;)V"), (8, .fieldref 10 39), (0, .nameAndType 40 26), (0, u "COMPACT_STRINGS"), (1, .class_ 44), (1, u "java/lang/StringUTF16"), (0, u "compress"), (1, .methodref 42 48), (0, .nameAndType 49 50), (0, u "coderFromArrayLen"), (0, u "([BI)B"), (2, u "toBytes"), (53, .class_ 109), (1, u "java/lang/StringLatin1"), (32, u "()Z"), (34, .methodref 42 178), (0, .nameAndType 45 179), (0, u "([CII)[B"), (29, .methodref 10 210), (0, .nameAndType 5 211), (0, u "([BB)V"), (122, u "()I"), (0, .methodref 10 336), (0, .nameAndType 17 337), (0, u "()B"), (25, u "([BI)C"), (5, u "(C)Z"), (21, u "(II)V"), (35, u "(I)C"), (64, .methodref 10 493), (0, .nameAndType 494 142), (0, u "isLatin1"), (0, .methodref 107 496), (0, .nameAndType 497 363), (0, u "charAt"), (3, u "checkIndex"), (5, u "length"), (67, .class_ 576), (0, u "java/lang/CharSequence"), (22, u "CASE_INSENSITIVE_ORDER"), (0, u "Ljava/util/Comparator;"), (181, u "valueOf"), (0, u "(C)Ljava/lang/String;"), (226, u "([C)V"), (4, .methodref 107 1016), (0, .nameAndType 1017 369), (0, u "canEncode"), (0, .methodref 107 1019), (0, .nameAndType 53 1020), (0, u "(C)[B"), (32, .fieldref 1054 1055), (0, .class_ 1056), (0, .nameAndType 1057 1058), (0, u "jdk/internal/util/Preconditions"), (0, u "SIOOBE_FORMATTER"), (0, u "Ljava/util/function/BiFunction;"), (0, .methodref 1054 1060), (0, .nameAndType 501 1061), (0, u "(IILjava/util/function/BiFunction;)I"), (39, u "serialPersistentFields"), (0, u "[Ljava/io/ObjectStreamField;"), (0, .class_ 1104), (0, u "java/lang/String$CaseInsensitiveComparator"), (1, .class_ 1107), (0, u "java/io/Serializable"), (0, .class_ 1109), (0, u "java/lang/Comparable"), (0, .class_ 1111), (0, u "java/lang/constant/Constable"), (0, .class_ 1113), (0, u "java/lang/constant/ConstantDesc"), (2, u "serialVersionUID"), (0, u "J"), (3, u "REPL"), (0, u "C"), (2, u "LATIN1"), (1, u "UTF16")] 323

def k7m0 : Method := { name := "<init>", desc := "()V", sig := { parameters := [], returnType := none }, accessFlags := 1, code := none }
def k7c1 : Code := { maxStack := 5, maxLocals := 2, code := jdk_42_method_3_code, exceptionTable := #[], attributes := #[] }
def k7m1 : Method := { name := "<init>", desc := "([C)V", sig := { parameters := [(.array .char)], returnType := none }, accessFlags := 1, code := some k7c1 }
def k7c2 : Code := { maxStack := 2, maxLocals := 1, code := jdk_42_method_54_code, exceptionTable := #[], attributes := #[] }
def k7m2 : Method := { name := "length", desc := "()I", sig := { parameters := [], returnType := some .int }, accessFlags := 1, code := some k7c2 }
def k7c3 : Code := { maxStack := 2, maxLocals := 2, code := jdk_42_method_56_code, exceptionTable := #[], attributes := #[] }
def k7m3 : Method := { name := "charAt", desc := "(I)C", sig := { parameters := [.int], returnType := some .char }, accessFlags := 1, code := some k7c3 }
def k7c4 : Code := { maxStack := 4, maxLocals := 1, code := jdk_42_method_139_code, exceptionTable := #[], attributes := #[] }
def k7m4 : Method := { name := "valueOf", desc := "(C)Ljava/lang/String;", sig := { parameters := [.char], returnType := some (.object "java/lang/String") }, accessFlags := 9, code := some k7c4 }
def k7c5 : Code := { maxStack := 4, maxLocals := 6, code := jdk_42_method_149_code, exceptionTable := #[], attributes := #[] }
def k7m5 : Method := { name := "<init>", desc := "([CIILjava/lang/Void;)V", sig := { parameters := [(.array .char), .int, .int, (.object "java/lang/Void")], returnType := none }, accessFlags := 2, code := some k7c5 }
def k7c6 : Code := { maxStack := 2, maxLocals := 3, code := jdk_42_method_151_code, exceptionTable := #[], attributes := #[] }
def k7m6 : Method := { name := "<init>", desc := "([BB)V", sig := { parameters := [(.array .byte), .byte], returnType := none }, accessFlags := 0, code := some k7c6 }
def k7c7 : Code := { maxStack := 1, maxLocals := 1, code := jdk_42_method_152_code, exceptionTable := #[], attributes := #[] }
def k7m7 : Method := { name := "coder", desc := "()B", sig := { parameters := [], returnType := some .byte }, accessFlags := 0, code := some k7c7 }
def k7c8 : Code := { maxStack := 1, maxLocals := 1, code := jdk_42_method_154_code, exceptionTable := #[], attributes := #[] }
def k7m8 : Method := { name := "isLatin1", desc := "()Z", sig := { parameters := [], returnType := some .boolean }, accessFlags := 0, code := some k7c8 }
def k7c9 : Code := { maxStack := 3, maxLocals := 2, code := jdk_42_method_155_code, exceptionTable := #[], attributes := #[] }
def k7m9 : Method := { name := "checkIndex", desc := "(II)V", sig := { parameters := [.int, .int], returnType := none }, accessFlags := 8, code := some k7c9 }
/-- java/lang/String -/
def k7 : Class := { plain "java/lang/String" (some 0) with
  accessFlags := 49
  interfaces := #[2, 3, 4, 5, 6]
  cf := some (fileOf pool7 10 #[.nestMembers #[1103]] #[{ accessFlags := 1, nameIndex := 5, descriptorIndex := 6, attributes := #[] }, { accessFlags := 1, nameIndex := 5, descriptorIndex := 1010, attributes := #[] }, { accessFlags := 1, nameIndex := 507, descriptorIndex := 334, attributes := #[] }, { accessFlags := 1, nameIndex := 497, descriptorIndex := 427, attributes := #[] }, { accessFlags := 9, nameIndex := 782, descriptorIndex := 783, attributes := #[] }, { accessFlags := 2, nameIndex := 5, descriptorIndex := 29, attributes := #[] }, { accessFlags := 0, nameIndex := 5, descriptorIndex := 211, attributes := #[] }, { accessFlags := 0, nameIndex := 17, descriptorIndex := 337, attributes := #[] }, { accessFlags := 0, nameIndex := 494, descriptorIndex := 142, attributes := #[] }, { accessFlags := 8, nameIndex := 501, descriptorIndex := 391, attributes := #[] }] 49 2 #[1106, 1108, 575, 1110, 1112] #[{ accessFlags := 18, nameIndex := 13, descriptorIndex := 14, attributes := #[] }, { accessFlags := 18, nameIndex := 17, descriptorIndex := 18, attributes := #[] }, { accessFlags := 2, nameIndex := 21, descriptorIndex := 22, attributes := #[] }, { accessFlags := 2, nameIndex := 25, descriptorIndex := 26, attributes := #[] }, { accessFlags := 26, nameIndex := 1116, descriptorIndex := 1117, attributes := #[] }, { accessFlags := 24, nameIndex := 40, descriptorIndex := 26, attributes := #[] }, { accessFlags := 26, nameIndex := 1101, descriptorIndex := 1102, attributes := #[] }, { accessFlags := 26, nameIndex := 1121, descriptorIndex := 1122, attributes := #[] }, { accessFlags := 25, nameIndex := 599, descriptorIndex := 600, attributes := #[] }, { accessFlags := 24, nameIndex := 1125, descriptorIndex := 18, attributes := #[] }, { accessFlags := 24, nameIndex := 1127, descriptorIndex := 18, attributes := #[] }])
  fields := #[{ name := "value", type := (.array .byte), accessFlags := 18, slot := 0, constantValue := 0 }, { name := "coder", type := .byte, accessFlags := 18, slot := 1, constantValue := 0 }, { name := "hash", type := .int, accessFlags := 2, slot := 2, constantValue := 0 }, { name := "hashIsZero", type := .boolean, accessFlags := 2, slot := 3, constantValue := 0 }, { name := "serialVersionUID", type := .long, accessFlags := 26, slot := 0, constantValue := 0 }, { name := "COMPACT_STRINGS", type := .boolean, accessFlags := 24, slot := 1, constantValue := 0 }, { name := "serialPersistentFields", type := (.array (.object "java/io/ObjectStreamField")), accessFlags := 26, slot := 2, constantValue := 0 }, { name := "REPL", type := .char, accessFlags := 26, slot := 3, constantValue := 0 }, { name := "CASE_INSENSITIVE_ORDER", type := (.object "java/util/Comparator"), accessFlags := 25, slot := 4, constantValue := 0 }, { name := "LATIN1", type := .byte, accessFlags := 24, slot := 5, constantValue := 0 }, { name := "UTF16", type := .byte, accessFlags := 24, slot := 6, constantValue := 0 }]
  methods := #[k7m0, k7m1, k7m2, k7m3, k7m4, k7m5, k7m6, k7m7, k7m8, k7m9]
  instanceTypes := #[(.array .byte), .byte, .int, .boolean]
  staticTypes := #[.long, .boolean, (.array (.object "java/io/ObjectStreamField")), .char, (.object "java/util/Comparator"), .byte, .byte]
  resolved := Array.replicate 1451 none
  statics := some 0 }

def pool8 : Array CpInfo := pool [(1, .class_ 2), (0, u "java/lang/String"), (1, .class_ 6), (1, u "java/lang/Object"), (0, u "<init>"), (0, u "()V"), (0, .methodref 1 10), (0, .nameAndType 11 12), (0, u "checkIndex"), (0, u "(II)V"), (1, .class_ 16), (1, u "java/lang/StringLatin1"), (36, u "([BI)C"), (36, u "canEncode"), (14, u "(C)Z"), (15, u "$assertionsDisabled"), (0, u "Z"), (98, .class_ 223), (1, u "java/lang/StringLatin1$LinesSpliterator"), (28, u "charAt"), (127, u "toBytes"), (1, u "(C)[B"), (7, .class_ 391), (0, u "java/lang/StringLatin1$CharsSpliterator")] 3

def k8m0 : Method := { name := "<init>", desc := "()V", sig := { parameters := [], returnType := none }, accessFlags := 0, code := none }
def k8c1 : Code := { maxStack := 2, maxLocals := 2, code := jdk_43_method_2_code, exceptionTable := #[], attributes := #[] }
def k8m1 : Method := { name := "charAt", desc := "([BI)C", sig := { parameters := [(.array .byte), .int], returnType := some .char }, accessFlags := 9, code := some k8c1 }
def k8c2 : Code := { maxStack := 2, maxLocals := 1, code := jdk_43_method_3_code, exceptionTable := #[], attributes := #[] }
def k8m2 : Method := { name := "canEncode", desc := "(C)Z", sig := { parameters := [.char], returnType := some .boolean }, accessFlags := 9, code := some k8c2 }
def k8c3 : Code := { maxStack := 4, maxLocals := 1, code := jdk_43_method_46_code, exceptionTable := #[], attributes := #[] }
def k8m3 : Method := { name := "toBytes", desc := "(C)[B", sig := { parameters := [.char], returnType := some (.array .byte) }, accessFlags := 9, code := some k8c3 }
/-- java/lang/StringLatin1 -/
def k8 : Class := { plain "java/lang/StringLatin1" (some 0) with
  accessFlags := 48
  interfaces := #[]
  cf := some (fileOf pool8 14 #[.nestMembers #[390, 221]] #[{ accessFlags := 0, nameIndex := 7, descriptorIndex := 8, attributes := #[] }, { accessFlags := 9, nameIndex := 252, descriptorIndex := 53, attributes := #[] }, { accessFlags := 9, nameIndex := 90, descriptorIndex := 105, attributes := #[] }, { accessFlags := 9, nameIndex := 380, descriptorIndex := 382, attributes := #[] }] 48 4 #[] #[{ accessFlags := 4120, nameIndex := 121, descriptorIndex := 122, attributes := #[] }])
  fields := #[{ name := "$assertionsDisabled", type := .boolean, accessFlags := 4120, slot := 0, constantValue := 0 }]
  methods := #[k8m0, k8m1, k8m2, k8m3]
  instanceTypes := #[]
  staticTypes := #[.boolean]
  resolved := Array.replicate 395 none
  statics := none }

def pool9 : Array CpInfo := pool [(6, .class_ 8), (1, u "java/lang/Object"), (0, u "<init>"), (0, u "()V"), (1, .class_ 14), (1, u "java/lang/StringUTF16"), (31, u "$assertionsDisabled"), (0, u "Z"), (13, u "HI_BYTE_SHIFT"), (0, u "I"), (2, u "LO_BYTE_SHIFT"), (49, .methodref 12 116), (0, .nameAndType 117 118), (0, u "compress"), (0, u "([CI[BII)I"), (3, u "([CII)[B"), (138, u "coderFromArrayLen"), (0, u "([BI)B"), (106, .class_ 371), (1, u "java/lang/StringUTF16$LinesSpliterator"), (58, u "MAX_LENGTH"), (196, .class_ 628), (0, u "java/lang/StringUTF16$CodePointsSpliterator"), (0, .class_ 630), (0, u "java/lang/StringUTF16$CharsSpliterator")] 4

def k9m0 : Method := { name := "<init>", desc := "()V", sig := { parameters := [], returnType := none }, accessFlags := 0, code := none }
def k9c1 : Code := { maxStack := 2, maxLocals := 2, code := jdk_52_method_15_code, exceptionTable := #[], attributes := #[] }
def k9m1 : Method := { name := "coderFromArrayLen", desc := "([BI)B", sig := { parameters := [(.array .byte), .int], returnType := some .byte }, accessFlags := 8, code := some k9c1 }
def k9c2 : Code := { maxStack := 5, maxLocals := 6, code := jdk_52_method_16_code, exceptionTable := #[], attributes := #[] }
def k9m2 : Method := { name := "compress", desc := "([CII)[B", sig := { parameters := [(.array .char), .int, .int], returnType := some (.array .byte) }, accessFlags := 9, code := some k9c2 }
def k9c3 : Code := { maxStack := 3, maxLocals := 7, code := jdk_52_method_21_code, exceptionTable := #[], attributes := #[] }
def k9m3 : Method := { name := "compress", desc := "([CI[BII)I", sig := { parameters := [(.array .char), .int, (.array .byte), .int, .int], returnType := some .int }, accessFlags := 9, code := some k9c3 }
/-- java/lang/StringUTF16 -/
def k9 : Class := { plain "java/lang/StringUTF16" (some 0) with
  accessFlags := 48
  interfaces := #[]
  cf := some (fileOf pool9 12 #[.nestMembers #[627, 629, 369]] #[{ accessFlags := 0, nameIndex := 9, descriptorIndex := 10, attributes := #[] }, { accessFlags := 8, nameIndex := 261, descriptorIndex := 262, attributes := #[] }, { accessFlags := 9, nameIndex := 117, descriptorIndex := 122, attributes := #[] }, { accessFlags := 9, nameIndex := 117, descriptorIndex := 118, attributes := #[] }] 48 6 #[] #[{ accessFlags := 26, nameIndex := 61, descriptorIndex := 62, attributes := #[] }, { accessFlags := 26, nameIndex := 65, descriptorIndex := 62, attributes := #[] }, { accessFlags := 24, nameIndex := 430, descriptorIndex := 62, attributes := #[] }, { accessFlags := 4120, nameIndex := 46, descriptorIndex := 47, attributes := #[] }])
  fields := #[{ name := "HI_BYTE_SHIFT", type := .int, accessFlags := 26, slot := 0, constantValue := 0 }, { name := "LO_BYTE_SHIFT", type := .int, accessFlags := 26, slot := 1, constantValue := 0 }, { name := "MAX_LENGTH", type := .int, accessFlags := 24, slot := 2, constantValue := 0 }, { name := "$assertionsDisabled", type := .boolean, accessFlags := 4120, slot := 3, constantValue := 0 }]
  methods := #[k9m0, k9m1, k9m2, k9m3]
  instanceTypes := #[]
  staticTypes := #[.int, .int, .int, .boolean]
  resolved := Array.replicate 635 none
  statics := none }

def pool10 : Array CpInfo := pool [(2, .class_ 4), (1, u "java/lang/Object"), (0, u "<init>"), (0, u "()V"), (0, .string 8), (0, u "name"), (0, .methodref 10 11), (0, .class_ 12), (0, .nameAndType 13 14), (0, u "java/util/Objects"), (0, u "requireNonNull"), (0, u "(Ljava/lang/Object;Ljava/lang/String;)Ljava/lang/Object;"), (0, .string 16), (0, u "text"), (0, .methodref 18 19), (0, .class_ 20), (0, .nameAndType 21 22), (0, u "java/lang/String"), (0, u "length"), (0, u "()I"), (1, .class_ 26), (1, u "com/example/vacuum/vacuum/settings/Durations"), (2, .methodref 18 30), (0, .nameAndType 31 32), (0, u "charAt"), (0, u "(I)C"), (0, .methodref 24 34), (0, .nameAndType 35 36), (0, u "secondsPerUnit"), (0, u "(C)J"), (0, .fieldref 24 38), (0, .nameAndType 39 40), (0, u "MAX"), (0, u "Ljava/time/Duration;"), (0, .methodref 42 43), (0, .class_ 44), (0, .nameAndType 45 46), (0, u "java/time/Duration"), (0, u "getSeconds"), (0, u "()J"), (0, .long 10), (13, .methodref 42 62), (0, .nameAndType 63 64), (0, u "ofSeconds"), (0, u "(J)Ljava/time/Duration;"), (34, .long 60), (1, .long 3600), (1, .long 86400), (1, .long 604800), (9, u "UNITS_LARGEST_FIRST"), (0, u "Ljava/lang/String;"), (3, u "parse"), (0, u "(Ljava/lang/String;Ljava/lang/String;)Ljava/time/Duration;")] 29

def k10m0 : Method := { name := "<init>", desc := "()V", sig := { parameters := [], returnType := none }, accessFlags := 2, code := none }
def k10c1 : Code := { maxStack := 6, maxLocals := 10, code := prog_21_method_2_code, exceptionTable := #[], attributes := #[] }
def k10m1 : Method := { name := "parse", desc := "(Ljava/lang/String;Ljava/lang/String;)Ljava/time/Duration;", sig := { parameters := [(.object "java/lang/String"), (.object "java/lang/String")], returnType := some (.object "java/time/Duration") }, accessFlags := 9, code := some k10c1 }
def k10c2 : Code := { maxStack := 2, maxLocals := 1, code := prog_21_method_4_code, exceptionTable := #[], attributes := #[] }
def k10m2 : Method := { name := "secondsPerUnit", desc := "(C)J", sig := { parameters := [.char], returnType := some .long }, accessFlags := 10, code := some k10c2 }
/-- com/example/vacuum/vacuum/settings/Durations -/
def k10 : Class := { plain "com/example/vacuum/vacuum/settings/Durations" (some 0) with
  accessFlags := 49
  interfaces := #[]
  cf := some (fileOf pool10 24 #[] #[{ accessFlags := 2, nameIndex := 5, descriptorIndex := 6, attributes := #[] }, { accessFlags := 9, nameIndex := 120, descriptorIndex := 121, attributes := #[] }, { accessFlags := 10, nameIndex := 35, descriptorIndex := 36, attributes := #[] }] 49 2 #[] #[{ accessFlags := 25, nameIndex := 39, descriptorIndex := 40, attributes := #[] }, { accessFlags := 26, nameIndex := 115, descriptorIndex := 116, attributes := #[] }])
  fields := #[{ name := "MAX", type := (.object "java/time/Duration"), accessFlags := 25, slot := 0, constantValue := 0 }, { name := "UNITS_LARGEST_FIRST", type := (.object "java/lang/String"), accessFlags := 26, slot := 1, constantValue := 0 }]
  methods := #[k10m0, k10m1, k10m2]
  instanceTypes := #[]
  staticTypes := #[(.object "java/time/Duration"), (.object "java/lang/String")]
  resolved := Array.replicate 151 none
  statics := some 1 }

def pool11 : Array CpInfo := pool [(2, .class_ 4), (1, u "java/lang/Object"), (0, u "<init>"), (0, u "()V"), (35, .class_ 44), (1, u "java/util/Objects"), (0, u "requireNonNull"), (48, u "(Ljava/lang/Object;Ljava/lang/String;)Ljava/lang/Object;")] 89

def k11m0 : Method := { name := "<init>", desc := "()V", sig := { parameters := [], returnType := none }, accessFlags := 2, code := none }
def k11c1 : Code := { maxStack := 3, maxLocals := 2, code := jdk_31_method_11_code, exceptionTable := #[], attributes := #[] }
def k11m1 : Method := { name := "requireNonNull", desc := "(Ljava/lang/Object;Ljava/lang/String;)Ljava/lang/Object;", sig := { parameters := [(.object "java/lang/Object"), (.object "java/lang/String")], returnType := some (.object "java/lang/Object") }, accessFlags := 9, code := some k11c1 }
/-- java/util/Objects -/
def k11 : Class := { plain "java/util/Objects" (some 0) with
  accessFlags := 49
  interfaces := #[]
  cf := some (fileOf pool11 42 #[] #[{ accessFlags := 2, nameIndex := 5, descriptorIndex := 6, attributes := #[] }, { accessFlags := 9, nameIndex := 45, descriptorIndex := 94, attributes := #[] }] 49 2 #[] #[])
  fields := #[]
  methods := #[k11m0, k11m1]
  instanceTypes := #[]
  staticTypes := #[]
  resolved := Array.replicate 184 none
  statics := none }

def pool12 : Array CpInfo := pool [(2, .class_ 4), (1, u "java/lang/Object"), (0, u "<init>"), (0, u "()V"), (17, .class_ 26), (1, u "jdk/internal/util/Preconditions"), (6, u "checkIndex"), (21, .class_ 56), (0, u "jdk/internal/util/Preconditions$4"), (57, .class_ 115), (0, u "jdk/internal/util/Preconditions$1"), (7, u "SIOOBE_FORMATTER"), (0, u "Ljava/util/function/BiFunction;"), (0, .class_ 126), (0, u "jdk/internal/util/Preconditions$2"), (3, u "AIOOBE_FORMATTER"), (0, .class_ 132), (0, u "jdk/internal/util/Preconditions$3"), (3, u "IOOBE_FORMATTER"), (41, u "(IILjava/util/function/BiFunction;)I")] 15

def k12m0 : Method := { name := "<init>", desc := "()V", sig := { parameters := [], returnType := none }, accessFlags := 1, code := none }
def k12c1 : Code := { maxStack := 3, maxLocals := 3, code := jdk_41_method_11_code, exceptionTable := #[], attributes := #[] }
def k12m1 : Method := { name := "checkIndex", desc := "(IILjava/util/function/BiFunction;)I", sig := { parameters := [.int, .int, (.object "java/util/function/BiFunction")], returnType := some .int }, accessFlags := 9, code := some k12c1 }
/-- jdk/internal/util/Preconditions -/
def k12 : Class := { plain "jdk/internal/util/Preconditions" (some 0) with
  accessFlags := 33
  interfaces := #[]
  cf := some (fileOf pool12 24 #[.nestMembers #[55, 131, 125, 114]] #[{ accessFlags := 1, nameIndex := 5, descriptorIndex := 6, attributes := #[] }, { accessFlags := 9, nameIndex := 33, descriptorIndex := 178, attributes := #[] }] 33 2 #[] #[{ accessFlags := 25, nameIndex := 123, descriptorIndex := 124, attributes := #[] }, { accessFlags := 25, nameIndex := 130, descriptorIndex := 124, attributes := #[] }, { accessFlags := 25, nameIndex := 136, descriptorIndex := 124, attributes := #[] }])
  fields := #[{ name := "SIOOBE_FORMATTER", type := (.object "java/util/function/BiFunction"), accessFlags := 25, slot := 0, constantValue := 0 }, { name := "AIOOBE_FORMATTER", type := (.object "java/util/function/BiFunction"), accessFlags := 25, slot := 1, constantValue := 0 }, { name := "IOOBE_FORMATTER", type := (.object "java/util/function/BiFunction"), accessFlags := 25, slot := 2, constantValue := 0 }]
  methods := #[k12m0, k12m1]
  instanceTypes := #[]
  staticTypes := #[(.object "java/util/function/BiFunction"), (.object "java/util/function/BiFunction"), (.object "java/util/function/BiFunction")]
  resolved := Array.replicate 194 none
  statics := some 2 }

def pool13 : Array CpInfo := pool [(1, .class_ 2), (0, u "java/time/temporal/TemporalAmount"), (0, .class_ 4), (0, u "java/lang/Object")] 11

/-- java/time/temporal/TemporalAmount -/
def k13 : Class := { plain "java/time/temporal/TemporalAmount" (some 0) with
  accessFlags := 1537
  interfaces := #[]
  cf := some (fileOf pool13 1 #[] #[] 1537 3 #[] #[])
  fields := #[]
  methods := #[]
  instanceTypes := #[]
  staticTypes := #[]
  resolved := Array.replicate 16 none
  statics := none }

def pool14 : Array CpInfo := pool [(10, .methodref 11 12), (0, .class_ 13), (0, .nameAndType 14 15), (0, u "java/time/Duration"), (0, u "create"), (0, u "(JI)Ljava/time/Duration;"), (16, .fieldref 11 33), (0, .nameAndType 34 35), (0, u "ZERO"), (0, u "Ljava/time/Duration;"), (13, .class_ 51), (1, u "java/time/temporal/TemporalAmount"), (27, .class_ 81), (1, u "java/time/Duration$Lazy"), (35, u "seconds"), (21, u "<init>"), (17, .nameAndType 139 158), (0, u "()V"), (19, u "ofSeconds"), (20, u "(J)Ljava/time/Duration;"), (15, .methodref 11 216), (0, .nameAndType 139 217), (0, u "(JI)V"), (0, .methodref 219 157), (0, .class_ 220), (0, u "java/lang/Object"), (0, .fieldref 11 222), (0, .nameAndType 117 223), (0, u "J"), (0, .fieldref 11 225), (0, .nameAndType 226 227), (0, u "nanos"), (0, u "I"), (11, .class_ 241), (1, u "java/time/Duration$DurationUnits"), (8, u "getSeconds"), (0, u "()J"), (2, u "getNano"), (0, u "()I"), (13, .class_ 271), (1, u "java/time/Duration$1"), (91, u "BI_NANOS_PER_SECOND"), (0, u "Ljava/math/BigInteger;"), (120, .class_ 486), (0, u "java/lang/Comparable"), (0, .class_ 488), (0, u "java/io/Serializable"), (0, u "serialVersionUID")] 166

def k14c0 : Code := { maxStack := 3, maxLocals := 2, code := jdk_2316_method_4_code, exceptionTable := #[], attributes := #[] }
def k14m0 : Method := { name := "ofSeconds", desc := "(J)Ljava/time/Duration;", sig := { parameters := [.long], returnType := some (.object "java/time/Duration") }, accessFlags := 9, code := some k14c0 }
def k14c1 : Code := { maxStack := 5, maxLocals := 3, code := jdk_2316_method_16_code, exceptionTable := #[], attributes := #[] }
def k14m1 : Method := { name := "create", desc := "(JI)Ljava/time/Duration;", sig := { parameters := [.long, .int], returnType := some (.object "java/time/Duration") }, accessFlags := 10, code := some k14c1 }
def k14c2 : Code := { maxStack := 3, maxLocals := 4, code := jdk_2316_method_17_code, exceptionTable := #[], attributes := #[] }
def k14m2 : Method := { name := "<init>", desc := "(JI)V", sig := { parameters := [.long, .int], returnType := none }, accessFlags := 2, code := some k14c2 }
def k14c3 : Code := { maxStack := 2, maxLocals := 1, code := jdk_2316_method_23_code, exceptionTable := #[], attributes := #[] }
def k14m3 : Method := { name := "getSeconds", desc := "()J", sig := { parameters := [], returnType := some .long }, accessFlags := 1, code := some k14c3 }
def k14c4 : Code := { maxStack := 1, maxLocals := 1, code := jdk_2316_method_24_code, exceptionTable := #[], attributes := #[] }
def k14m4 : Method := { name := "getNano", desc := "()I", sig := { parameters := [], returnType := some .int }, accessFlags := 1, code := some k14c4 }
/-- java/time/Duration -/
def k14 : Class := { plain "java/time/Duration" (some 0) with
  accessFlags := 49
  interfaces := #[13, 3, 2]
  cf := some (fileOf pool14 11 #[.nestMembers #[269, 239, 79]] #[{ accessFlags := 9, nameIndex := 178, descriptorIndex := 199, attributes := #[] }, { accessFlags := 10, nameIndex := 14, descriptorIndex := 15, attributes := #[] }, { accessFlags := 2, nameIndex := 139, descriptorIndex := 217, attributes := #[] }, { accessFlags := 1, nameIndex := 250, descriptorIndex := 251, attributes := #[] }, { accessFlags := 1, nameIndex := 254, descriptorIndex := 255, attributes := #[] }] 49 219 #[49, 485, 487] #[{ accessFlags := 25, nameIndex := 34, descriptorIndex := 35, attributes := #[] }, { accessFlags := 26, nameIndex := 489, descriptorIndex := 223, attributes := #[] }, { accessFlags := 26, nameIndex := 363, descriptorIndex := 364, attributes := #[] }, { accessFlags := 18, nameIndex := 117, descriptorIndex := 223, attributes := #[] }, { accessFlags := 18, nameIndex := 226, descriptorIndex := 227, attributes := #[] }])
  fields := #[{ name := "ZERO", type := (.object "java/time/Duration"), accessFlags := 25, slot := 0, constantValue := 0 }, { name := "serialVersionUID", type := .long, accessFlags := 26, slot := 1, constantValue := 0 }, { name := "BI_NANOS_PER_SECOND", type := (.object "java/math/BigInteger"), accessFlags := 26, slot := 2, constantValue := 0 }, { name := "seconds", type := .long, accessFlags := 18, slot := 0, constantValue := 0 }, { name := "nanos", type := .int, accessFlags := 18, slot := 1, constantValue := 0 }]
  methods := #[k14m0, k14m1, k14m2, k14m3, k14m4]
  instanceTypes := #[.long, .int]
  staticTypes := #[(.object "java/time/Duration"), .long, (.object "java/math/BigInteger")]
  resolved := Array.replicate 656 none
  statics := some 3 }

def pool15 : Array CpInfo := pool [(9, u "<init>"), (6, .class_ 18), (1, u "java/lang/Object"), (0, u "()V"), (1, .class_ 23), (1, u "jdk/internal/util/ArraysSupport"), (0, u "LOG2_ARRAY_LONG_INDEX_SCALE"), (0, u "I"), (2, u "U"), (0, u "Ljdk/internal/misc/Unsafe;"), (8, u "BIG_ENDIAN"), (0, u "Z"), (8, u "LOG2_BYTE_BIT_SIZE"), (4, u "LOG2_ARRAY_INT_INDEX_SCALE"), (54, u "JLA"), (0, u "Ljdk/internal/access/JavaLangAccess;"), (11, u "LOG2_ARRAY_BOOLEAN_INDEX_SCALE"), (9, u "LOG2_ARRAY_BYTE_INDEX_SCALE"), (5, u "LOG2_ARRAY_CHAR_INDEX_SCALE"), (5, u "LOG2_ARRAY_SHORT_INDEX_SCALE"), (18, u "LOG2_ARRAY_FLOAT_INDEX_SCALE"), (24, u "LOG2_ARRAY_DOUBLE_INDEX_SCALE"), (89, u "T_BOOLEAN"), (2, u "T_CHAR"), (1, u "T_FLOAT"), (1, u "T_DOUBLE"), (1, u "T_BYTE"), (1, u "T_SHORT"), (1, u "T_INT"), (1, u "T_LONG"), (1, u "SOFT_MAX_ARRAY_LENGTH")] 83

def k15m0 : Method := { name := "<init>", desc := "()V", sig := { parameters := [], returnType := none }, accessFlags := 2, code := none }
/-- jdk/internal/util/ArraysSupport -/
def k15 : Class := { plain "jdk/internal/util/ArraysSupport" (some 0) with
  accessFlags := 33
  interfaces := #[]
  cf := some (fileOf pool15 21 #[] #[{ accessFlags := 2, nameIndex := 9, descriptorIndex := 19, attributes := #[] }] 33 16 #[] #[{ accessFlags := 24, nameIndex := 28, descriptorIndex := 29, attributes := #[] }, { accessFlags := 26, nameIndex := 38, descriptorIndex := 39, attributes := #[] }, { accessFlags := 25, nameIndex := 121, descriptorIndex := 25, attributes := #[] }, { accessFlags := 25, nameIndex := 131, descriptorIndex := 25, attributes := #[] }, { accessFlags := 25, nameIndex := 137, descriptorIndex := 25, attributes := #[] }, { accessFlags := 25, nameIndex := 143, descriptorIndex := 25, attributes := #[] }, { accessFlags := 25, nameIndex := 53, descriptorIndex := 25, attributes := #[] }, { accessFlags := 25, nameIndex := 24, descriptorIndex := 25, attributes := #[] }, { accessFlags := 25, nameIndex := 162, descriptorIndex := 25, attributes := #[] }, { accessFlags := 25, nameIndex := 187, descriptorIndex := 25, attributes := #[] }, { accessFlags := 26, nameIndex := 48, descriptorIndex := 25, attributes := #[] }, { accessFlags := 25, nameIndex := 277, descriptorIndex := 25, attributes := #[] }, { accessFlags := 25, nameIndex := 280, descriptorIndex := 25, attributes := #[] }, { accessFlags := 25, nameIndex := 282, descriptorIndex := 25, attributes := #[] }, { accessFlags := 25, nameIndex := 284, descriptorIndex := 25, attributes := #[] }, { accessFlags := 25, nameIndex := 286, descriptorIndex := 25, attributes := #[] }, { accessFlags := 25, nameIndex := 288, descriptorIndex := 25, attributes := #[] }, { accessFlags := 25, nameIndex := 290, descriptorIndex := 25, attributes := #[] }, { accessFlags := 25, nameIndex := 292, descriptorIndex := 25, attributes := #[] }, { accessFlags := 26, nameIndex := 108, descriptorIndex := 109, attributes := #[] }, { accessFlags := 25, nameIndex := 294, descriptorIndex := 25, attributes := #[] }])
  fields := #[{ name := "U", type := (.object "jdk/internal/misc/Unsafe"), accessFlags := 24, slot := 0, constantValue := 0 }, { name := "BIG_ENDIAN", type := .boolean, accessFlags := 26, slot := 1, constantValue := 0 }, { name := "LOG2_ARRAY_BOOLEAN_INDEX_SCALE", type := .int, accessFlags := 25, slot := 2, constantValue := 0 }, { name := "LOG2_ARRAY_BYTE_INDEX_SCALE", type := .int, accessFlags := 25, slot := 3, constantValue := 0 }, { name := "LOG2_ARRAY_CHAR_INDEX_SCALE", type := .int, accessFlags := 25, slot := 4, constantValue := 0 }, { name := "LOG2_ARRAY_SHORT_INDEX_SCALE", type := .int, accessFlags := 25, slot := 5, constantValue := 0 }, { name := "LOG2_ARRAY_INT_INDEX_SCALE", type := .int, accessFlags := 25, slot := 6, constantValue := 0 }, { name := "LOG2_ARRAY_LONG_INDEX_SCALE", type := .int, accessFlags := 25, slot := 7, constantValue := 0 }, { name := "LOG2_ARRAY_FLOAT_INDEX_SCALE", type := .int, accessFlags := 25, slot := 8, constantValue := 0 }, { name := "LOG2_ARRAY_DOUBLE_INDEX_SCALE", type := .int, accessFlags := 25, slot := 9, constantValue := 0 }, { name := "LOG2_BYTE_BIT_SIZE", type := .int, accessFlags := 26, slot := 10, constantValue := 0 }, { name := "T_BOOLEAN", type := .int, accessFlags := 25, slot := 11, constantValue := 0 }, { name := "T_CHAR", type := .int, accessFlags := 25, slot := 12, constantValue := 0 }, { name := "T_FLOAT", type := .int, accessFlags := 25, slot := 13, constantValue := 0 }, { name := "T_DOUBLE", type := .int, accessFlags := 25, slot := 14, constantValue := 0 }, { name := "T_BYTE", type := .int, accessFlags := 25, slot := 15, constantValue := 0 }, { name := "T_SHORT", type := .int, accessFlags := 25, slot := 16, constantValue := 0 }, { name := "T_INT", type := .int, accessFlags := 25, slot := 17, constantValue := 0 }, { name := "T_LONG", type := .int, accessFlags := 25, slot := 18, constantValue := 0 }, { name := "JLA", type := (.object "jdk/internal/access/JavaLangAccess"), accessFlags := 26, slot := 19, constantValue := 0 }, { name := "SOFT_MAX_ARRAY_LENGTH", type := .int, accessFlags := 25, slot := 20, constantValue := 0 }]
  methods := #[k15m0]
  instanceTypes := #[]
  staticTypes := #[(.object "jdk/internal/misc/Unsafe"), .boolean, .int, .int, .int, .int, .int, .int, .int, .int, .int, .int, .int, .int, .int, .int, .int, .int, .int, (.object "jdk/internal/access/JavaLangAccess"), .int]
  resolved := Array.replicate 378 none
  statics := none }

def pool16 : Array CpInfo := pool [(1, u "java/lang/Cloneable"), (0, .class_ 1), (0, u "java/lang/Object"), (0, .class_ 3)] 3

/-- java/lang/Cloneable -/
def k16 : Class := { plain "java/lang/Cloneable" (some 0) with
  accessFlags := 1537
  interfaces := #[]
  cf := some (fileOf pool16 2 #[] #[] 1537 4 #[] #[])
  fields := #[]
  methods := #[]
  instanceTypes := #[]
  staticTypes := #[]
  resolved := Array.replicate 8 none
  statics := none }

/-- the primitive byte -/
def k17 : Class := { plain "byte" none with kind := .primitive 'B', accessFlags := 0x411 }
/-- [B -/
def k18 : Class := { plain "[B" (some 0) with kind := .array 17 .byte, interfaces := #[16, 2], accessFlags := 1041 }

/-- the primitive char -/
def k19 : Class := { plain "char" none with kind := .primitive 'C', accessFlags := 0x411 }
/-- [C -/
def k20 : Class := { plain "[C" (some 0) with kind := .array 19 .char, interfaces := #[16, 2], accessFlags := 1041 }

/-- the primitive int -/
def k21 : Class := { plain "int" none with kind := .primitive 'I', accessFlags := 0x411 }
/-- [I -/
def k22 : Class := { plain "[I" (some 0) with kind := .array 21 .int, interfaces := #[16, 2], accessFlags := 1041 }

def heap : Heap := #[{ cls := 7, slots := #[.long 0, .int 1, .null, .int 0, .null, .int 0, .int 0], vm := .statics 7 },
  { cls := 10, slots := #[.ref 4, .null], vm := .statics 10 },
  { cls := 12, slots := #[.null, .null, .null], vm := .statics 12 },
  { cls := 14, slots := #[.ref 5, .long 0, .null], vm := .statics 14 },
  { cls := 14, slots := #[.long 3155760000, .int 0], vm := .none },
  { cls := 14, slots := #[.long 0, .int 0], vm := .none }]
def classes : Array Class := #[k0, k1, k2, k3, k4, k5, k6, k7, k8, k9, k10, k11, k12, k13, k14, k15, k16, k17, k18, k19, k20, k21, k22]
def interned : List (Array UInt16 × Addr) := []
def slotsUsed : Nat := 19
def theMethod : MethodId := ⟨1, 2⟩
def args0 : Array Value := #[.long 5, .int 6, .int 7, .int 65]
def aboutOver (below : List Frame) : State where
  vm := { classes := classes, interned := interned.toArray }
  heap := heap
  slotsUsed := slotsUsed
  threads := #[{ frames := .invoking theMethod args0 :: below }]
def below0 : List Frame := [.native { method := ⟨0, 0⟩, args := #[] }]
def about1 : State := aboutOver below0
def p0 : Program := .bare "" "" ""
def e0 : Env := launch0.env 0 0 0
theorem w_frames : about1.frames = Frame.invoking theMethod args0 :: below0 := rfl
set_option maxRecDepth 65536 in
theorem w_args : argsFit about1.vm theMethod args0 = true := by decide +kernel
set_option maxRecDepth 65536 in
theorem w_heap : heapFits about1 = true := by decide +kernel
set_option maxRecDepth 65536 in
theorem w_runnable : about1.curStatus? = some .runnable := by decide +kernel
set_option maxRecDepth 65536 in
theorem w_alone : about1.alone = true := by decide +kernel
set_option maxRecDepth 65536 in
theorem w_named : about1.methodNamed? x = some theMethod := by decide +kernel
set_option maxRecDepth 65536 in
theorem w_hears : about1.hears theMethod below0 = true := by decide +kernel
set_option maxRecDepth 65536 in
theorem w_ripe : about1.ripe theMethod args0 below0 = true := by decide +kernel
theorem w_running : about1.status = .running := rfl
set_option maxRecDepth 65536 in
theorem w_room : about1.hasRoom e0.platform room_1 = true :=
  launch0.hasRoom_least _ room_1 (by decide +kernel) (by decide +kernel) (by decide +kernel) (by decide +kernel) (by decide +kernel) (by decide +kernel)
theorem allAtoms_all (ts : List Jvm.Cond) (a : Array Jvm.Value) (st : Jvm.State) : (allAtoms ts).before a st = ts.all (fun c => c.before a st) := by
  induction ts with
  | nil => rfl
  | cons c t ih =>
    show (Jvm.Cond.and c (allAtoms t)).before a st = _
    rw [Jvm.Cond.before_and, ih, List.all_cons]
def words1 : List Jvm.Cond := Jvm.Cond.code x code maxLocals ret :: tables_1
/-- a 'code' word, met by the world's own term for the bytes: nothing is compared byte by byte -/
theorem code_word {y : MethodName} {bytes : ByteArray} {mx : Nat} {rt : Option FieldType} {a : Array Value} {s : State} {m : MethodId} {meth : Method} {c : Code} (h1 : s.methodNamed? y = some m) (h2 : s.vm.method? m = some meth) (h3 : meth.code = some c) (h4 : c.code = bytes)
    (h5 : (c.maxLocals == mx && c.exceptionTable.isEmpty && decide (c.maxStack ≤ mostOperands) && decide (meth.sig.returnType = rt) && !meth.locks && decide (parseMethodDescriptor y.desc = some meth.sig)) = true) : (Jvm.Cond.code y bytes mx rt).before a s = true := by
  simp only [Bool.and_eq_true, beq_iff_eq, Bool.not_eq_true', decide_eq_true_eq] at h5
  obtain ⟨⟨⟨⟨⟨g1, g2⟩, g3⟩, g4⟩, g5⟩, g6⟩ := h5
  simp [Cond.before, Cond.holds, Cond.value, h1, h2, h3, h4, g1, g2, g3, g4, g5, g6]
def isCode : Jvm.Cond → Bool
  | .code _ _ _ _ => true
  | _ => false
theorem all_split {L : List Jvm.Cond} {P : Jvm.Cond → Bool} (h1 : L.all (fun c => isCode c || P c) = true) (h2 : ∀ c ∈ L.filter isCode, P c = true) : L.all P = true := by
  refine List.all_eq_true.mpr fun c hc => ?_
  have h := List.all_eq_true.mp h1 c hc
  rcases Bool.eq_false_or_eq_true (isCode c) with hi | hi
  · exact h2 c (List.mem_filter.mpr ⟨hc, hi⟩)
  · simpa [hi] using h
set_option maxRecDepth 65536 in
theorem w_c0 : (Jvm.Cond.code x code maxLocals ret).before args0 about1 = true := code_word (m := ⟨1, 2⟩) (meth := k1m2) (c := k1c2) (by decide +kernel) rfl rfl rfl (by decide +kernel)
set_option maxRecDepth 65536 in
theorem w_c1 : (Jvm.Cond.code ({ cls := "com/example/vacuum/vacuum/settings/DurationsParsePinLaw", name := "digit", desc := "(JI)I" } : Jvm.MethodName) method_2_code (3 : Nat) (Option.some Jvm.ClassFile.FieldType.int)).before args0 about1 = true := code_word (m := ⟨1, 1⟩) (meth := k1m1) (c := k1c1) (by decide +kernel) rfl rfl rfl (by decide +kernel)
set_option maxRecDepth 65536 in
theorem w_c2 : (Jvm.Cond.code ({ cls := "java/lang/String", name := "valueOf", desc := "(C)Ljava/lang/String;" } : Jvm.MethodName) jdk_42_method_139_code (1 : Nat) (Option.some (Jvm.ClassFile.FieldType.object "java/lang/String"))).before args0 about1 = true := code_word (m := ⟨7, 4⟩) (meth := k7m4) (c := k7c4) (by decide +kernel) rfl rfl rfl (by decide +kernel)
set_option maxRecDepth 65536 in
theorem w_c3 : (Jvm.Cond.code ({ cls := "java/lang/StringLatin1", name := "canEncode", desc := "(C)Z" } : Jvm.MethodName) jdk_43_method_3_code (1 : Nat) (Option.some Jvm.ClassFile.FieldType.boolean)).before args0 about1 = true := code_word (m := ⟨8, 2⟩) (meth := k8m2) (c := k8c2) (by decide +kernel) rfl rfl rfl (by decide +kernel)
set_option maxRecDepth 65536 in
theorem w_c4 : (Jvm.Cond.code ({ cls := "java/lang/StringLatin1", name := "toBytes", desc := "(C)[B" } : Jvm.MethodName) jdk_43_method_46_code (1 : Nat) (Option.some (Jvm.ClassFile.FieldType.array Jvm.ClassFile.FieldType.byte))).before args0 about1 = true := code_word (m := ⟨8, 3⟩) (meth := k8m3) (c := k8c3) (by decide +kernel) rfl rfl rfl (by decide +kernel)
set_option maxRecDepth 65536 in
theorem w_c5 : (Jvm.Cond.code ({ cls := "java/lang/String", name := "<init>", desc := "([BB)V" } : Jvm.MethodName) jdk_42_method_151_code (3 : Nat) (Option.none : Option Jvm.ClassFile.FieldType)).before args0 about1 = true := code_word (m := ⟨7, 6⟩) (meth := k7m6) (c := k7c6) (by decide +kernel) rfl rfl rfl (by decide +kernel)
set_option maxRecDepth 65536 in
theorem w_c6 : (Jvm.Cond.code ({ cls := "java/lang/Object", name := "<init>", desc := "()V" } : Jvm.MethodName) object_method_1_code (1 : Nat) (Option.none : Option Jvm.ClassFile.FieldType)).before args0 about1 = true := code_word (m := ⟨0, 0⟩) (meth := k0m0) (c := k0c0) (by decide +kernel) rfl rfl rfl (by decide +kernel)
set_option maxRecDepth 65536 in
theorem w_c7 : (Jvm.Cond.code ({ cls := "java/lang/String", name := "<init>", desc := "([C)V" } : Jvm.MethodName) jdk_42_method_3_code (2 : Nat) (Option.none : Option Jvm.ClassFile.FieldType)).before args0 about1 = true := code_word (m := ⟨7, 1⟩) (meth := k7m1) (c := k7c1) (by decide +kernel) rfl rfl rfl (by decide +kernel)
set_option maxRecDepth 65536 in
theorem w_c8 : (Jvm.Cond.code ({ cls := "java/lang/String", name := "<init>", desc := "([CIILjava/lang/Void;)V" } : Jvm.MethodName) jdk_42_method_149_code (6 : Nat) (Option.none : Option Jvm.ClassFile.FieldType)).before args0 about1 = true := code_word (m := ⟨7, 5⟩) (meth := k7m5) (c := k7c5) (by decide +kernel) rfl rfl rfl (by decide +kernel)
set_option maxRecDepth 65536 in
theorem w_c9 : (Jvm.Cond.code ({ cls := "java/lang/StringUTF16", name := "compress", desc := "([CII)[B" } : Jvm.MethodName) jdk_52_method_16_code (6 : Nat) (Option.some (Jvm.ClassFile.FieldType.array Jvm.ClassFile.FieldType.byte))).before args0 about1 = true := code_word (m := ⟨9, 2⟩) (meth := k9m2) (c := k9c2) (by decide +kernel) rfl rfl rfl (by decide +kernel)
set_option maxRecDepth 65536 in
theorem w_c10 : (Jvm.Cond.code ({ cls := "java/lang/StringUTF16", name := "compress", desc := "([CI[BII)I" } : Jvm.MethodName) jdk_52_method_21_code (7 : Nat) (Option.some Jvm.ClassFile.FieldType.int)).before args0 about1 = true := code_word (m := ⟨9, 3⟩) (meth := k9m3) (c := k9c3) (by decide +kernel) rfl rfl rfl (by decide +kernel)
set_option maxRecDepth 65536 in
theorem w_c11 : (Jvm.Cond.code ({ cls := "java/lang/StringUTF16", name := "coderFromArrayLen", desc := "([BI)B" } : Jvm.MethodName) jdk_52_method_15_code (2 : Nat) (Option.some Jvm.ClassFile.FieldType.byte)).before args0 about1 = true := code_word (m := ⟨9, 1⟩) (meth := k9m1) (c := k9c1) (by decide +kernel) rfl rfl rfl (by decide +kernel)
set_option maxRecDepth 65536 in
theorem w_c12 : (Jvm.Cond.code ({ cls := "com/example/vacuum/vacuum/settings/Durations", name := "parse", desc := "(Ljava/lang/String;Ljava/lang/String;)Ljava/time/Duration;" } : Jvm.MethodName) prog_21_method_2_code (10 : Nat) (Option.some (Jvm.ClassFile.FieldType.object "java/time/Duration"))).before args0 about1 = true := code_word (m := ⟨10, 1⟩) (meth := k10m1) (c := k10c1) (by decide +kernel) rfl rfl rfl (by decide +kernel)
set_option maxRecDepth 65536 in
theorem w_c13 : (Jvm.Cond.code ({ cls := "java/util/Objects", name := "requireNonNull", desc := "(Ljava/lang/Object;Ljava/lang/String;)Ljava/lang/Object;" } : Jvm.MethodName) jdk_31_method_11_code (2 : Nat) (Option.some (Jvm.ClassFile.FieldType.object "java/lang/Object"))).before args0 about1 = true := code_word (m := ⟨11, 1⟩) (meth := k11m1) (c := k11c1) (by decide +kernel) rfl rfl rfl (by decide +kernel)
set_option maxRecDepth 65536 in
theorem w_c14 : (Jvm.Cond.code ({ cls := "java/lang/String", name := "length", desc := "()I" } : Jvm.MethodName) jdk_42_method_54_code (1 : Nat) (Option.some Jvm.ClassFile.FieldType.int)).before args0 about1 = true := code_word (m := ⟨7, 2⟩) (meth := k7m2) (c := k7c2) (by decide +kernel) rfl rfl rfl (by decide +kernel)
set_option maxRecDepth 65536 in
theorem w_c15 : (Jvm.Cond.code ({ cls := "java/lang/String", name := "coder", desc := "()B" } : Jvm.MethodName) jdk_42_method_152_code (1 : Nat) (Option.some Jvm.ClassFile.FieldType.byte)).before args0 about1 = true := code_word (m := ⟨7, 7⟩) (meth := k7m7) (c := k7c7) (by decide +kernel) rfl rfl rfl (by decide +kernel)
set_option maxRecDepth 65536 in
theorem w_c16 : (Jvm.Cond.code ({ cls := "java/lang/String", name := "charAt", desc := "(I)C" } : Jvm.MethodName) jdk_42_method_56_code (2 : Nat) (Option.some Jvm.ClassFile.FieldType.char)).before args0 about1 = true := code_word (m := ⟨7, 3⟩) (meth := k7m3) (c := k7c3) (by decide +kernel) rfl rfl rfl (by decide +kernel)
set_option maxRecDepth 65536 in
theorem w_c17 : (Jvm.Cond.code ({ cls := "java/lang/String", name := "isLatin1", desc := "()Z" } : Jvm.MethodName) jdk_42_method_154_code (1 : Nat) (Option.some Jvm.ClassFile.FieldType.boolean)).before args0 about1 = true := code_word (m := ⟨7, 8⟩) (meth := k7m8) (c := k7c8) (by decide +kernel) rfl rfl rfl (by decide +kernel)
set_option maxRecDepth 65536 in
theorem w_c18 : (Jvm.Cond.code ({ cls := "java/lang/StringLatin1", name := "charAt", desc := "([BI)C" } : Jvm.MethodName) jdk_43_method_2_code (2 : Nat) (Option.some Jvm.ClassFile.FieldType.char)).before args0 about1 = true := code_word (m := ⟨8, 1⟩) (meth := k8m1) (c := k8c1) (by decide +kernel) rfl rfl rfl (by decide +kernel)
set_option maxRecDepth 65536 in
theorem w_c19 : (Jvm.Cond.code ({ cls := "java/lang/String", name := "checkIndex", desc := "(II)V" } : Jvm.MethodName) jdk_42_method_155_code (2 : Nat) (Option.none : Option Jvm.ClassFile.FieldType)).before args0 about1 = true := code_word (m := ⟨7, 9⟩) (meth := k7m9) (c := k7c9) (by decide +kernel) rfl rfl rfl (by decide +kernel)
set_option maxRecDepth 65536 in
theorem w_c20 : (Jvm.Cond.code ({ cls := "jdk/internal/util/Preconditions", name := "checkIndex", desc := "(IILjava/util/function/BiFunction;)I" } : Jvm.MethodName) jdk_41_method_11_code (3 : Nat) (Option.some Jvm.ClassFile.FieldType.int)).before args0 about1 = true := code_word (m := ⟨12, 1⟩) (meth := k12m1) (c := k12c1) (by decide +kernel) rfl rfl rfl (by decide +kernel)
set_option maxRecDepth 65536 in
theorem w_c21 : (Jvm.Cond.code ({ cls := "com/example/vacuum/vacuum/settings/Durations", name := "secondsPerUnit", desc := "(C)J" } : Jvm.MethodName) prog_21_method_4_code (1 : Nat) (Option.some Jvm.ClassFile.FieldType.long)).before args0 about1 = true := code_word (m := ⟨10, 2⟩) (meth := k10m2) (c := k10c2) (by decide +kernel) rfl rfl rfl (by decide +kernel)
set_option maxRecDepth 65536 in
theorem w_c22 : (Jvm.Cond.code ({ cls := "java/time/Duration", name := "getSeconds", desc := "()J" } : Jvm.MethodName) jdk_2316_method_23_code (1 : Nat) (Option.some Jvm.ClassFile.FieldType.long)).before args0 about1 = true := code_word (m := ⟨14, 3⟩) (meth := k14m3) (c := k14c3) (by decide +kernel) rfl rfl rfl (by decide +kernel)
set_option maxRecDepth 65536 in
theorem w_c23 : (Jvm.Cond.code ({ cls := "java/time/Duration", name := "ofSeconds", desc := "(J)Ljava/time/Duration;" } : Jvm.MethodName) jdk_2316_method_4_code (2 : Nat) (Option.some (Jvm.ClassFile.FieldType.object "java/time/Duration"))).before args0 about1 = true := code_word (m := ⟨14, 0⟩) (meth := k14m0) (c := k14c0) (by decide +kernel) rfl rfl rfl (by decide +kernel)
set_option maxRecDepth 65536 in
theorem w_c24 : (Jvm.Cond.code ({ cls := "java/time/Duration", name := "create", desc := "(JI)Ljava/time/Duration;" } : Jvm.MethodName) jdk_2316_method_16_code (3 : Nat) (Option.some (Jvm.ClassFile.FieldType.object "java/time/Duration"))).before args0 about1 = true := code_word (m := ⟨14, 1⟩) (meth := k14m1) (c := k14c1) (by decide +kernel) rfl rfl rfl (by decide +kernel)
set_option maxRecDepth 65536 in
theorem w_c25 : (Jvm.Cond.code ({ cls := "java/time/Duration", name := "<init>", desc := "(JI)V" } : Jvm.MethodName) jdk_2316_method_17_code (4 : Nat) (Option.none : Option Jvm.ClassFile.FieldType)).before args0 about1 = true := code_word (m := ⟨14, 2⟩) (meth := k14m2) (c := k14c2) (by decide +kernel) rfl rfl rfl (by decide +kernel)
set_option maxRecDepth 65536 in
theorem w_c26 : (Jvm.Cond.code ({ cls := "java/time/Duration", name := "getNano", desc := "()I" } : Jvm.MethodName) jdk_2316_method_24_code (1 : Nat) (Option.some Jvm.ClassFile.FieldType.int)).before args0 about1 = true := code_word (m := ⟨14, 4⟩) (meth := k14m4) (c := k14c4) (by decide +kernel) rfl rfl rfl (by decide +kernel)
def codes1 : List Jvm.Cond := [Jvm.Cond.code x code maxLocals ret, Jvm.Cond.code ({ cls := "com/example/vacuum/vacuum/settings/DurationsParsePinLaw", name := "digit", desc := "(JI)I" } : Jvm.MethodName) method_2_code (3 : Nat) (Option.some Jvm.ClassFile.FieldType.int), Jvm.Cond.code ({ cls := "java/lang/String", name := "valueOf", desc := "(C)Ljava/lang/String;" } : Jvm.MethodName) jdk_42_method_139_code (1 : Nat) (Option.some (Jvm.ClassFile.FieldType.object "java/lang/String")), Jvm.Cond.code ({ cls := "java/lang/StringLatin1", name := "canEncode", desc := "(C)Z" } : Jvm.MethodName) jdk_43_method_3_code (1 : Nat) (Option.some Jvm.ClassFile.FieldType.boolean), Jvm.Cond.code ({ cls := "java/lang/StringLatin1", name := "toBytes", desc := "(C)[B" } : Jvm.MethodName) jdk_43_method_46_code (1 : Nat) (Option.some (Jvm.ClassFile.FieldType.array Jvm.ClassFile.FieldType.byte)), Jvm.Cond.code ({ cls := "java/lang/String", name := "<init>", desc := "([BB)V" } : Jvm.MethodName) jdk_42_method_151_code (3 : Nat) (Option.none : Option Jvm.ClassFile.FieldType), Jvm.Cond.code ({ cls := "java/lang/Object", name := "<init>", desc := "()V" } : Jvm.MethodName) object_method_1_code (1 : Nat) (Option.none : Option Jvm.ClassFile.FieldType), Jvm.Cond.code ({ cls := "java/lang/String", name := "<init>", desc := "([C)V" } : Jvm.MethodName) jdk_42_method_3_code (2 : Nat) (Option.none : Option Jvm.ClassFile.FieldType), Jvm.Cond.code ({ cls := "java/lang/String", name := "<init>", desc := "([CIILjava/lang/Void;)V" } : Jvm.MethodName) jdk_42_method_149_code (6 : Nat) (Option.none : Option Jvm.ClassFile.FieldType), Jvm.Cond.code ({ cls := "java/lang/StringUTF16", name := "compress", desc := "([CII)[B" } : Jvm.MethodName) jdk_52_method_16_code (6 : Nat) (Option.some (Jvm.ClassFile.FieldType.array Jvm.ClassFile.FieldType.byte)), Jvm.Cond.code ({ cls := "java/lang/StringUTF16", name := "compress", desc := "([CI[BII)I" } : Jvm.MethodName) jdk_52_method_21_code (7 : Nat) (Option.some Jvm.ClassFile.FieldType.int), Jvm.Cond.code ({ cls := "java/lang/StringUTF16", name := "coderFromArrayLen", desc := "([BI)B" } : Jvm.MethodName) jdk_52_method_15_code (2 : Nat) (Option.some Jvm.ClassFile.FieldType.byte), Jvm.Cond.code ({ cls := "com/example/vacuum/vacuum/settings/Durations", name := "parse", desc := "(Ljava/lang/String;Ljava/lang/String;)Ljava/time/Duration;" } : Jvm.MethodName) prog_21_method_2_code (10 : Nat) (Option.some (Jvm.ClassFile.FieldType.object "java/time/Duration")), Jvm.Cond.code ({ cls := "java/util/Objects", name := "requireNonNull", desc := "(Ljava/lang/Object;Ljava/lang/String;)Ljava/lang/Object;" } : Jvm.MethodName) jdk_31_method_11_code (2 : Nat) (Option.some (Jvm.ClassFile.FieldType.object "java/lang/Object")), Jvm.Cond.code ({ cls := "java/lang/String", name := "length", desc := "()I" } : Jvm.MethodName) jdk_42_method_54_code (1 : Nat) (Option.some Jvm.ClassFile.FieldType.int), Jvm.Cond.code ({ cls := "java/lang/String", name := "coder", desc := "()B" } : Jvm.MethodName) jdk_42_method_152_code (1 : Nat) (Option.some Jvm.ClassFile.FieldType.byte), Jvm.Cond.code ({ cls := "java/lang/String", name := "charAt", desc := "(I)C" } : Jvm.MethodName) jdk_42_method_56_code (2 : Nat) (Option.some Jvm.ClassFile.FieldType.char), Jvm.Cond.code ({ cls := "java/lang/String", name := "isLatin1", desc := "()Z" } : Jvm.MethodName) jdk_42_method_154_code (1 : Nat) (Option.some Jvm.ClassFile.FieldType.boolean), Jvm.Cond.code ({ cls := "java/lang/StringLatin1", name := "charAt", desc := "([BI)C" } : Jvm.MethodName) jdk_43_method_2_code (2 : Nat) (Option.some Jvm.ClassFile.FieldType.char), Jvm.Cond.code ({ cls := "java/lang/String", name := "checkIndex", desc := "(II)V" } : Jvm.MethodName) jdk_42_method_155_code (2 : Nat) (Option.none : Option Jvm.ClassFile.FieldType), Jvm.Cond.code ({ cls := "jdk/internal/util/Preconditions", name := "checkIndex", desc := "(IILjava/util/function/BiFunction;)I" } : Jvm.MethodName) jdk_41_method_11_code (3 : Nat) (Option.some Jvm.ClassFile.FieldType.int), Jvm.Cond.code ({ cls := "com/example/vacuum/vacuum/settings/Durations", name := "secondsPerUnit", desc := "(C)J" } : Jvm.MethodName) prog_21_method_4_code (1 : Nat) (Option.some Jvm.ClassFile.FieldType.long), Jvm.Cond.code ({ cls := "java/time/Duration", name := "getSeconds", desc := "()J" } : Jvm.MethodName) jdk_2316_method_23_code (1 : Nat) (Option.some Jvm.ClassFile.FieldType.long), Jvm.Cond.code ({ cls := "java/time/Duration", name := "ofSeconds", desc := "(J)Ljava/time/Duration;" } : Jvm.MethodName) jdk_2316_method_4_code (2 : Nat) (Option.some (Jvm.ClassFile.FieldType.object "java/time/Duration")), Jvm.Cond.code ({ cls := "java/time/Duration", name := "create", desc := "(JI)Ljava/time/Duration;" } : Jvm.MethodName) jdk_2316_method_16_code (3 : Nat) (Option.some (Jvm.ClassFile.FieldType.object "java/time/Duration")), Jvm.Cond.code ({ cls := "java/time/Duration", name := "<init>", desc := "(JI)V" } : Jvm.MethodName) jdk_2316_method_17_code (4 : Nat) (Option.none : Option Jvm.ClassFile.FieldType), Jvm.Cond.code ({ cls := "java/time/Duration", name := "getNano", desc := "()I" } : Jvm.MethodName) jdk_2316_method_24_code (1 : Nat) (Option.some Jvm.ClassFile.FieldType.int)]
set_option maxRecDepth 65536 in
theorem codes_eq : words1.filter isCode = codes1 := rfl
theorem w_codes : ∀ c ∈ words1.filter isCode, c.before args0 about1 = true := by
  rw [codes_eq]
  intro c hc
  simp only [codes1, List.mem_cons, List.not_mem_nil, or_false] at hc
  rcases hc with rfl | rfl | rfl | rfl | rfl | rfl | rfl | rfl | rfl | rfl | rfl | rfl | rfl | rfl | rfl | rfl | rfl | rfl | rfl | rfl | rfl | rfl | rfl | rfl | rfl | rfl | rfl
  · exact w_c0
  · exact w_c1
  · exact w_c2
  · exact w_c3
  · exact w_c4
  · exact w_c5
  · exact w_c6
  · exact w_c7
  · exact w_c8
  · exact w_c9
  · exact w_c10
  · exact w_c11
  · exact w_c12
  · exact w_c13
  · exact w_c14
  · exact w_c15
  · exact w_c16
  · exact w_c17
  · exact w_c18
  · exact w_c19
  · exact w_c20
  · exact w_c21
  · exact w_c22
  · exact w_c23
  · exact w_c24
  · exact w_c25
  · exact w_c26
set_option maxRecDepth 65536 in
theorem w_t1 : (words1.take 24).all (fun c => isCode c || c.before args0 about1) = true := by decide +kernel
set_option maxRecDepth 65536 in
theorem w_t2 : ((words1.drop 24).take 24).all (fun c => isCode c || c.before args0 about1) = true := by decide +kernel
set_option maxRecDepth 65536 in
theorem w_t3 : (((words1.drop 24).drop 24).take 24).all (fun c => isCode c || c.before args0 about1) = true := by decide +kernel
set_option maxRecDepth 65536 in
theorem w_t4 : ((((words1.drop 24).drop 24).drop 24).take 24).all (fun c => isCode c || c.before args0 about1) = true := by decide +kernel
set_option maxRecDepth 65536 in
theorem w_t5 : (((((words1.drop 24).drop 24).drop 24).drop 24).take 24).all (fun c => isCode c || c.before args0 about1) = true := by decide +kernel
set_option maxRecDepth 65536 in
theorem w_t6 : (((((words1.drop 24).drop 24).drop 24).drop 24).drop 24).all (fun c => isCode c || c.before args0 about1) = true := by decide +kernel
theorem w_tables : (allAtoms (Jvm.Cond.code x code maxLocals ret :: tables_1)).before args0 about1 = true := by
  rw [allAtoms_all]
  show words1.all (fun c => c.before args0 about1) = true
  refine all_split ?_ w_codes
  rw [← List.take_append_drop 24 words1, List.all_append, w_t1, ← List.take_append_drop 24 (words1.drop 24), List.all_append, w_t2, ← List.take_append_drop 24 ((words1.drop 24).drop 24), List.all_append, w_t3, ← List.take_append_drop 24 (((words1.drop 24).drop 24).drop 24), List.all_append, w_t4, ← List.take_append_drop 24 ((((words1.drop 24).drop 24).drop 24).drop 24), List.all_append, w_t5, w_t6]
  rfl
set_option maxRecDepth 65536 in
theorem w_rest : rest_1_c.before args0 about1 = true := by decide +kernel
set_option maxRecDepth 65536 in
theorem w_case : (Jvm.Cond.and given_1 narrow_1).before args0 about1 = true := by decide +kernel
theorem w_applies : (headSpec (Jvm.Cond.code x code maxLocals ret :: tables_1) room_1).applies x e0.platform about1 = true :=
  (Spec.applies_iff w_frames).mpr ⟨w_running, w_runnable, w_alone, w_named, w_hears, w_ripe, w_room, w_tables⟩
theorem atStart : AtStart classFile x code maxLocals ret World_1 tables_1 room_1 Calls_1 rest_1 Pre_1 launch0 p0 e0 about1 theMethod args0 below0 :=
  ⟨lists_1, trivial, launch0.admits_env _ _ _, launch0.least_env, fairChoices_fair.cas, fairChoices_fair.clock, w_frames, w_args, w_heap, w_applies, trivial, w_rest, w_case⟩
end start1
theorem witness_1 : WitnessClaimed_1 := ⟨start1.p0, start1.e0, start1.about1, start1.theMethod, start1.args0, start1.below0, start1.atStart⟩
end Jvm.Pilot.@@N@@
