import JvmDerived
import JvmDerived.Pilot.@@N@@Statement
import JvmDerived.Pilot.@@N@@Code
set_option linter.unusedVariables false
set_option linter.unusedSimpArgs false
/- laws to paste: Road.backV, Road.eqW, Road.codOf (cut by pick.py; bodies as the Statement names them) -/
namespace Jvm.Pilot.@@N@@
namespace StrChars
open Jvm Sem ClassFile Op Lib Jvm.Stand Jvm.Free.XT Jvm.Free.ALB Jvm.Free.JM Jvm.Free
open Jvm.Lib.Cold (StaticIs)
/-- a char array whose places are chars -/
def Ch (a : Addr) (A : Cell) (U : State) : Prop := Arr .char a A U ∧ Typed .char A
theorem Ch.mv {a : Addr} {A : Cell} {U U' : State} (h : Ch a A U) (hal : U.vm.Alike U'.vm) (hh : U'.heap = U.heap) : Ch a A U' := ⟨h.1.mv hal hh, h.2⟩
theorem Ch.keep {a : Addr} {A : Cell} {U U' : State} (h : Ch a A U) (hal : U.vm.Alike U'.vm) (hk : U'.heap[a]? = some A) : Ch a A U' := ⟨h.1.keep hal hk, h.2⟩
/-- what place i of a char[]'s cell holds -/
def cv (A : Cell) (i : Nat) : Int32 := match A.slots[i]? with | some (.int x) => x | _ => 0
theorem Ch.get {a : Addr} {A : Cell} {U : State} (h : Ch a A U) {i : Nat} (hi : i < A.slots.size) : A.slots[i]? = some (.int (cv A i)) := by
  have e := Array.getElem?_eq_getElem hi
  have f := h.2 i _ e
  unfold cv; rw [e]
  generalize A.slots[i] = v at f
  cases v <;> simp [fits] at f ⊢
/-- the byte that i2b leaves of a char -/
def lo8 (x : Int32) : Int32 := x.toInt8.toInt32
theorem fits_lo8 (y : Int32) : fits .byte (.int (lo8 y)) = true := by
  have h1 := y.toInt8.le_toInt
  have h2 := y.toInt8.toInt_lt
  simp only [lo8, fits, Bool.and_eq_true, decide_eq_true_eq, Int32.le_iff_toInt_le, Int8.toInt_toInt32, show (-128 : Int32).toInt = -128 from by decide, show (127 : Int32).toInt = 127 from by decide]
  omega
/-- A' is A but that each place j of lo .. hi - 1 holds f j -/
def Laid (A A' : Cell) (lo hi : Nat) (f : Nat → Value) : Prop := A'.cls = A.cls ∧ A'.vm = A.vm ∧ A'.slots.size = A.slots.size ∧ ∀ i, A'.slots[i]? = if lo ≤ i ∧ i < hi then some (f i) else A.slots[i]?
theorem Laid.zero (A : Cell) (lo : Nat) (f : Nat → Value) : Laid A A lo (lo + 0) f := ⟨rfl, rfl, rfl, fun i => by rw [if_neg (by omega)]⟩
theorem Laid.step {A Ak : Cell} {lo k : Nat} {f : Nat → Value} {v : Value} (h : Laid A Ak lo k f) (hlo : lo ≤ k) (hk : k < Ak.slots.size) (hv : v = f k) : Laid A (Ak.setSlot k v) lo (k + 1) f := by
  refine ⟨h.1, h.2.1, by simpa [Cell.setSlot] using h.2.2.1, fun i => ?_⟩
  by_cases e : k = i
  · subst e; rw [Cell.slots_setSlot_self v hk, if_pos (by omega), hv]
  · rw [Cell.slots_setSlot_ne v e, h.2.2.2 i]
    by_cases q : lo ≤ i ∧ i < k
    · rw [if_pos q, if_pos (by omega)]
    · rw [if_neg q, if_neg (by omega)]
def U16 : String := "java/lang/StringUTF16"
namespace Cmp5
def yN : MethodName := ⟨"java/lang/StringUTF16", "compress", "([CI[BII)I"⟩
abbrev yB : ByteArray := jdk_52_method_21_code
theorem d0 : decode yB 0 = .ok (.iconst 0, 1) := by decide +kernel
theorem d1 : decode yB 1 = .ok (.istore 5, 2) := by decide +kernel
theorem d3 : decode yB 3 = .ok (.iload 5, 2) := by decide +kernel
theorem d5 : decode yB 5 = .ok (.iload 4, 2) := by decide +kernel
theorem d7 : decode yB 7 = .ok (.if_icmp (.ge) 37, 3) := by decide +kernel
theorem d10 : decode yB 10 = .ok (.aload_n 0, 1) := by decide +kernel
theorem d11 : decode yB 11 = .ok (.iload_n 1, 1) := by decide +kernel
theorem d12 : decode yB 12 = .ok (.caload, 1) := by decide +kernel
theorem d13 : decode yB 13 = .ok (.istore 6, 2) := by decide +kernel
theorem d15 : decode yB 15 = .ok (.iload 6, 2) := by decide +kernel
theorem d17 : decode yB 17 = .ok (.sipush 255, 3) := by decide +kernel
theorem d20 : decode yB 20 = .ok (.if_icmp (.le) 6, 3) := by decide +kernel
theorem d26 : decode yB 26 = .ok (.aload_n 2, 1) := by decide +kernel
theorem d27 : decode yB 27 = .ok (.iload_n 3, 1) := by decide +kernel
theorem d28 : decode yB 28 = .ok (.iload 6, 2) := by decide +kernel
theorem d30 : decode yB 30 = .ok (.i2b, 1) := by decide +kernel
theorem d31 : decode yB 31 = .ok (.bastore, 1) := by decide +kernel
theorem d32 : decode yB 32 = .ok (.iinc 1 1, 3) := by decide +kernel
theorem d35 : decode yB 35 = .ok (.iinc 3 1, 3) := by decide +kernel
theorem d38 : decode yB 38 = .ok (.iinc 5 1, 3) := by decide +kernel
theorem d41 : decode yB 41 = .ok (.goto (-38), 3) := by decide +kernel
theorem d44 : decode yB 44 = .ok (.iload 4, 2) := by decide +kernel
theorem d46 : decode yB 46 = .ok (.ireturn, 1) := by decide +kernel
def site : List Cond := []
def tab : Cond := tabOf yN yB 7 (some .int) site
def P (b : Addr) (A : Cell) (d : Addr) (B : Cell) (o q len : Nat) (args : Array Value) (s : State) : Prop := args = #[.ref b, .int (Int32.ofNat o), .ref d, .int (Int32.ofNat q), .int (Int32.ofNat len)] ∧ Ch b A s ∧ Arr .byte d B s ∧ b ≠ d ∧ o + len ≤ A.slots.size ∧ q + len ≤ B.slots.size ∧ ∀ i, i < len → ¬ 255 < cv A (o + i)
def E (b : Addr) (A : Cell) (d : Addr) (B : Cell) (o q len : Nat) (r : Option Value) (s u : State) : Prop := r = some (.int (Int32.ofNat len)) ∧ ∃ B', Put d B' s u ∧ Laid B B' q (q + len) (fun j => Value.int (lo8 (cv A (o + (j - q)))))
/-- no char of the range above 255: len; the places written hold each char's low byte -/
theorem law (l : Launch) (b : Addr) (A : Cell) (d : Addr) (B : Cell) (o q len : Nat) : Law l yN 5 5 0 0 yB 7 (some .int) site (P b A d B o q len) (E b A d B o q len) (copyLocs d q len) 0 0 := by
  refine Law.of_walk (plainFor_of_name (by decide +kernel)) (by decide +kernel) (by decide +kernel) (by decide) (fun _ _ h => by rw [h.1]; rfl) (fun _ U U' hal hh h => ⟨h.1, h.2.1.mv hal hh, h.2.2.1.mv hal hh, h.2.2.2⟩) (fun r U U' V V' h1 hal h2 h => ⟨h.1, h.2.elim fun B' q => ⟨B', q.1.mv h1 h2, q.2⟩⟩) ?_
  intro p e s m args below meth c s₁ X0 hexec hbytes hml hret hlk hnm hown hh0 W hP
  obtain ⟨rfl, hA, hB, hne, l1, l2, hp⟩ := hP
  have c1 : Steps p.tables e below (s₁.setTop (entryFrame m #[.ref b, .int (Int32.ofNat o), .ref d, .int (Int32.ofNat q), .int (Int32.ofNat len)] 7)) (s₁.setTop (mkF m 0 #[.val (.ref b), .val (.int (Int32.ofNat o)), .val (.ref d), .val (.int (Int32.ofNat q)), .val (.int (Int32.ofNat len)), .unset, .unset] [])) := entry rfl
  have hA0 := hA.1.mv X0.warmed.alike hh0
  have hB0 := hB.mv X0.warmed.alike hh0
  have a31 := hA.1.2.2.2
  have c2 : Steps p.tables e below (s₁.setTop (entryFrame m #[.ref b, .int (Int32.ofNat o), .ref d, .int (Int32.ofNat q), .int (Int32.ofNat len)] 7)) (s₁.setTop (mkF m 3 #[.val (.ref b), .val (.int (Int32.ofNat o)), .val (.ref d), .val (.int (Int32.ofNat q)), .val (.int (Int32.ofNat len)), .val (.int 0), .unset] [])) := c1.trans (by
    refine iconstV X0.here hexec rfl 0 (hb hbytes d0) (by decide) ?_
    refine XS.istore X0.here hexec rfl (hb hbytes d1) rfl rfl ?_
    exact Steps.refl _)
  have loop : ∀ (r i : Nat), i + r = len → ∀ (z : Slot), (z = .unset ∨ ∃ w, z = .val w ∧ w.category = 1) → ∀ (Tl : State) (Bk : Cell), Stand p l e { frames := 0, locals := 0, cells := 0, slots := 0 } s m #[.ref b, .int (Int32.ofNat o), .ref d, .int (Int32.ofNat q), .int (Int32.ofNat len)] below meth c Tl ([] ++ copyLocs d q i) 0 0 → Put d Bk s₁ Tl → Laid B Bk q (q + i) (fun j => Value.int (lo8 (cv A (o + (j - q))))) →
      Steps p.tables e below (s₁.setTop (entryFrame m #[.ref b, .int (Int32.ofNat o), .ref d, .int (Int32.ofNat q), .int (Int32.ofNat len)] 7)) (Tl.setTop (mkF m 3 #[.val (.ref b), .val (.int (Int32.ofNat (o + i))), .val (.ref d), .val (.int (Int32.ofNat (q + i))), .val (.int (Int32.ofNat len)), .val (.int (Int32.ofNat i)), z] [])) → ∃ (T' : State) (B' : Cell) (z' : Slot), Stand p l e { frames := 0, locals := 0, cells := 0, slots := 0 } s m #[.ref b, .int (Int32.ofNat o), .ref d, .int (Int32.ofNat q), .int (Int32.ofNat len)] below meth c T' ([] ++ copyLocs d q len) 0 0 ∧ Put d B' s₁ T' ∧ Laid B B' q (q + len) (fun j => Value.int (lo8 (cv A (o + (j - q))))) ∧
      Steps p.tables e below (s₁.setTop (entryFrame m #[.ref b, .int (Int32.ofNat o), .ref d, .int (Int32.ofNat q), .int (Int32.ofNat len)] 7)) (T'.setTop (mkF m 3 #[.val (.ref b), .val (.int (Int32.ofNat (o + len))), .val (.ref d), .val (.int (Int32.ofNat (q + len))), .val (.int (Int32.ofNat len)), .val (.int (Int32.ofNat len)), z'] [])) := by
    intro r
    induction r with
    | zero =>
      intro i hi z hz Tl Bk Xl pl fl cl
      have hil : i = len := by omega
      rw [hil] at Xl fl cl
      exact ⟨Tl, Bk, z, Xl, pl, fl, cl⟩
    | succ r ih =>
      intro i hi z hz Tl Bk Xl pl fl cl
      have all := X0.warmed.alike.symm.trans Xl.warmed.alike
      have hAl := hA0.keep all (pl.other hne hA0.1)
      have hBk := hB0.like all pl.1 fl.1 fl.2.1 fl.2.2.1
      have hlt : q + i < Bk.slots.size := by rw [fl.2.2.1]; omega
      have c3 : Steps p.tables e below (s₁.setTop (entryFrame m #[.ref b, .int (Int32.ofNat o), .ref d, .int (Int32.ofNat q), .int (Int32.ofNat len)] 7)) (Tl.setTop (mkF m 12 #[.val (.ref b), .val (.int (Int32.ofNat (o + i))), .val (.ref d), .val (.int (Int32.ofNat (q + i))), .val (.int (Int32.ofNat len)), .val (.int (Int32.ofNat i)), z] [.int (Int32.ofNat (o + i)), .ref b])) := cl.trans (by
        refine XS.iload Xl.here hexec rfl (hb hbytes d3) rfl ?_
        refine XS.iload Xl.here hexec rfl (hb hbytes d5) rfl ?_
        refine XS.icmpNo Xl.here hexec rfl (hb hbytes d7) rfl (ii_ge_f (lt32 (by omega) (by omega))) ?_
        refine XS.aloadN Xl.here hexec rfl (hb hbytes d10) rfl rfl ?_
        refine XS.iloadN Xl.here hexec rfl (hb hbytes d11) rfl ?_
        exact Steps.refl _)
      have c4 : Steps p.tables e below (s₁.setTop (entryFrame m #[.ref b, .int (Int32.ofNat o), .ref d, .int (Int32.ofNat q), .int (Int32.ofNat len)] 7)) (Tl.setTop (mkF m 13 #[.val (.ref b), .val (.int (Int32.ofNat (o + i))), .val (.ref d), .val (.int (Int32.ofNat (q + i))), .val (.int (Int32.ofNat len)), .val (.int (Int32.ofNat i)), z] [.int (cv A (o + i))])) := c3.trans (by
        refine Xl.aget hexec hAl rfl (hA.get (i := o + i) (by omega)) rfl rfl (hb hbytes d12) ?_
        exact Steps.refl _)
      have c5 : Steps p.tables e below (s₁.setTop (entryFrame m #[.ref b, .int (Int32.ofNat o), .ref d, .int (Int32.ofNat q), .int (Int32.ofNat len)] 7)) (Tl.setTop (mkF m 15 #[.val (.ref b), .val (.int (Int32.ofNat (o + i))), .val (.ref d), .val (.int (Int32.ofNat (q + i))), .val (.int (Int32.ofNat len)), .val (.int (Int32.ofNat i)), .val (.int (cv A (o + i)))] [])) := c4.trans (by
        refine XS.istoreS Xl.here hexec rfl (hb hbytes d13) rfl rfl hz ?_
        exact Steps.refl _)
      have c6 : Steps p.tables e below (s₁.setTop (entryFrame m #[.ref b, .int (Int32.ofNat o), .ref d, .int (Int32.ofNat q), .int (Int32.ofNat len)] 7)) (Tl.setTop (mkF m 31 #[.val (.ref b), .val (.int (Int32.ofNat (o + i))), .val (.ref d), .val (.int (Int32.ofNat (q + i))), .val (.int (Int32.ofNat len)), .val (.int (Int32.ofNat i)), .val (.int (cv A (o + i)))] [.int (lo8 (cv A (o + i))), .int (Int32.ofNat (q + i)), .ref d])) := c5.trans (by
        refine XS.iload Xl.here hexec rfl (hb hbytes d15) rfl ?_
        refine sipushV Xl.here hexec rfl 255 (hb hbytes d17) (by decide) ?_
        refine XS.icmpYes Xl.here hexec rfl (pc0 := 20) rfl (hb hbytes d20) rfl (ii_le_t (hp i (by omega))) (by decide) rfl ?_
        refine XS.aloadN Xl.here hexec rfl (hb hbytes d26) rfl rfl ?_
        refine XS.iloadN Xl.here hexec rfl (hb hbytes d27) rfl ?_
        refine XS.iload Xl.here hexec rfl (hb hbytes d28) rfl ?_
        refine i2b Xl.here hexec rfl (hb hbytes d30) rfl ?_
        exact Steps.refl _)
      obtain ⟨T7, X7, p7, st7⟩ := Xl.aput hexec hBk rfl hlt rfl (fits_lo8 (cv A (o + i))) (g := (mkF m 31 #[.val (.ref b), .val (.int (Int32.ofNat (o + i))), .val (.ref d), .val (.int (Int32.ofNat (q + i))), .val (.int (Int32.ofNat len)), .val (.int (Int32.ofNat i)), .val (.int (cv A (o + i)))] [.int (lo8 (cv A (o + i))), .int (Int32.ofNat (q + i)), .ref d])) rfl (rest := []) rfl (hb hbytes d31)
      have c8 : Steps p.tables e below (s₁.setTop (entryFrame m #[.ref b, .int (Int32.ofNat o), .ref d, .int (Int32.ofNat q), .int (Int32.ofNat len)] 7)) (T7.setTop (mkF m 32 #[.val (.ref b), .val (.int (Int32.ofNat (o + i))), .val (.ref d), .val (.int (Int32.ofNat (q + i))), .val (.int (Int32.ofNat len)), .val (.int (Int32.ofNat i)), .val (.int (cv A (o + i)))] [])) := c6.trans (st7 _ (Steps.refl _))
      have c9 : Steps p.tables e below (s₁.setTop (entryFrame m #[.ref b, .int (Int32.ofNat o), .ref d, .int (Int32.ofNat q), .int (Int32.ofNat len)] 7)) (T7.setTop (mkF m 3 #[.val (.ref b), .val (.int (Int32.ofNat (o + i) + 1)), .val (.ref d), .val (.int (Int32.ofNat (q + i) + 1)), .val (.int (Int32.ofNat len)), .val (.int (Int32.ofNat i + 1)), .val (.int (cv A (o + i)))] [])) := c8.trans (by
        refine iincV X7.here hexec rfl 1 (hb hbytes d32) (by decide) rfl rfl ?_
        refine iincV X7.here hexec rfl 1 (hb hbytes d35) (by decide) rfl rfl ?_
        refine iincV X7.here hexec rfl 1 (hb hbytes d38) (by decide) rfl rfl ?_
        refine XS.goto X7.here hexec rfl (pc0 := 41) rfl (hb hbytes d41) (by decide) rfl ?_
        exact Steps.refl _)
      have c10 : Steps p.tables e below (s₁.setTop (entryFrame m #[.ref b, .int (Int32.ofNat o), .ref d, .int (Int32.ofNat q), .int (Int32.ofNat len)] 7)) (T7.setTop (mkF m 3 #[.val (.ref b), .val (.int (Int32.ofNat (o + (i + 1)))), .val (.ref d), .val (.int (Int32.ofNat (q + (i + 1)))), .val (.int (Int32.ofNat len)), .val (.int (Int32.ofNat (i + 1))), .val (.int (cv A (o + i)))] [])) := by
        have := c9
        rw [succ32, succ32, succ32] at this
        exact this
      exact ih (i + 1) (by omega) _ (Or.inr ⟨_, rfl, rfl⟩) T7 _ (by rw [copyLocs_step, ← List.append_assoc]; exact X7) (pl.trans p7) (fl.step (by omega) hlt (by simp)) c10
  obtain ⟨T9, B9, z9, X9, p9, f9, g9⟩ := loop len 0 (by omega) .unset (Or.inl rfl) s₁ B (by simpa [copyLocs] using X0) ⟨hB0.1, fun _ _ => rfl, rfl⟩ (Laid.zero _ _ _) c2
  have c11 : Steps p.tables e below (s₁.setTop (entryFrame m #[.ref b, .int (Int32.ofNat o), .ref d, .int (Int32.ofNat q), .int (Int32.ofNat len)] 7)) (T9.setTop (mkF m 46 #[.val (.ref b), .val (.int (Int32.ofNat (o + len))), .val (.ref d), .val (.int (Int32.ofNat (q + len))), .val (.int (Int32.ofNat len)), .val (.int (Int32.ofNat len)), z9] [.int (Int32.ofNat len)])) := g9.trans (by
    refine XS.iload X9.here hexec rfl (hb hbytes d3) rfl ?_
    refine XS.iload X9.here hexec rfl (hb hbytes d5) rfl ?_
    refine XS.icmpYes X9.here hexec rfl (pc0 := 7) rfl (hb hbytes d7) rfl (ii_ge_t (nlt32 (by omega) (Nat.le_refl _))) (by decide) rfl ?_
    refine XS.iload X9.here hexec rfl (hb hbytes d44) rfl ?_
    exact Steps.refl _)
  exact ⟨T9, some (.int (Int32.ofNat len)), _, _, _, X9, by simp, rfl, rfl, (fun h => by cases h), ⟨rfl, B9, p9.from hh0, f9⟩, fun fs hl => c11.trans (X9.ireturnOut hexec hret rfl (Or.inl rfl) (hb hbytes d46) hl)⟩
end Cmp5
namespace Cmp3
def yN : MethodName := ⟨"java/lang/StringUTF16", "compress", "([CII)[B"⟩
abbrev yB : ByteArray := jdk_52_method_16_code
theorem d0 : decode yB 0 = .ok (.iload_n 2, 1) := by decide +kernel
theorem d1 : decode yB 1 = .ok (.newarray .byte, 2) := by decide +kernel
theorem d3 : decode yB 3 = .ok (.astore_n 3, 1) := by decide +kernel
theorem d4 : decode yB 4 = .ok (.aload_n 0, 1) := by decide +kernel
theorem d5 : decode yB 5 = .ok (.iload_n 1, 1) := by decide +kernel
theorem d6 : decode yB 6 = .ok (.aload_n 3, 1) := by decide +kernel
theorem d7 : decode yB 7 = .ok (.iconst 0, 1) := by decide +kernel
theorem d8 : decode yB 8 = .ok (.iload_n 2, 1) := by decide +kernel
theorem d9 : decode yB 9 = .ok (.invokestatic 115, 3) := by decide +kernel
theorem d12 : decode yB 12 = .ok (.istore 4, 2) := by decide +kernel
theorem d14 : decode yB 14 = .ok (.iload 4, 2) := by decide +kernel
theorem d16 : decode yB 16 = .ok (.iload_n 2, 1) := by decide +kernel
theorem d17 : decode yB 17 = .ok (.if_icmp (.eq) 40, 3) := by decide +kernel
theorem d57 : decode yB 57 = .ok (.aload_n 3, 1) := by decide +kernel
theorem d58 : decode yB 58 = .ok (.areturn, 1) := by decide +kernel
def site : List Cond := [.arrayClass .byte, Cmp5.tab] ++ staticW U16 115 Cmp5.yN
def tab : Cond := tabOf yN yB 6 (some (.array .byte)) site
def P (b : Addr) (A : Cell) (o len : Nat) (args : Array Value) (s : State) : Prop := args = #[.ref b, .int (Int32.ofNat o), .int (Int32.ofNat len)] ∧ Ch b A s ∧ o + len ≤ A.slots.size ∧ len ≤ 536870912 ∧ ∀ i, i < len → ¬ 255 < cv A (o + i)
def E (b : Addr) (A : Cell) (o len : Nat) (r : Option Value) (s u : State) : Prop := NewArr .byte "[B" len (fun j => .int (lo8 (cv A (o + j)))) r s u ∧ u.heap.size = s.heap.size + 1
/-- no char of the range above 255: a new byte[] of their low bytes -/
theorem law (l : Launch) (b : Addr) (A : Cell) (o len : Nat) : Law l yN 3 3 1 18 yB 6 (some (.array .byte)) site (P b A o len) (E b A o len) [] 1 len := by
  refine Law.of_walk (plainFor_of_name (by decide +kernel)) (by decide +kernel) (by decide +kernel) (by decide) (fun _ _ h => by rw [h.1]; rfl) (fun _ U U' hal hh h => ⟨h.1, h.2.1.mv hal hh, h.2.2⟩) (fun r U U' V V' h1 hal h2 h => ⟨NewArr.mv r U U' V V' h1 hal h2 h.1, by rw [h1, h2]; exact h.2⟩) ?_
  intro p e s m args below meth c s₁ X0 hexec hbytes hml hret hlk hnm hown hh0 W hP
  obtain ⟨rfl, hA, l1, l2, hp⟩ := hP
  have a31 := hA.1.2.2.2
  have c1 : Steps p.tables e below (s₁.setTop (entryFrame m #[.ref b, .int (Int32.ofNat o), .int (Int32.ofNat len)] 6)) (s₁.setTop (mkF m 0 #[.val (.ref b), .val (.int (Int32.ofNat o)), .val (.int (Int32.ofNat len)), .unset, .unset, .unset] [])) := entry rfl
  have c2 : Steps p.tables e below (s₁.setTop (entryFrame m #[.ref b, .int (Int32.ofNat o), .int (Int32.ofNat len)] 6)) (s₁.setTop (mkF m 1 #[.val (.ref b), .val (.int (Int32.ofNat o)), .val (.int (Int32.ofNat len)), .unset, .unset, .unset] [.int (Int32.ofNat len)])) := c1.trans (by
    refine XS.iloadN X0.here hexec rfl (hb hbytes d0) rfl ?_
    exact Steps.refl _)
  obtain ⟨T3, B3, X3, ba3, bs3, bv3, bh3, bf3, st3⟩ := X0.anew hexec (atype := .byte) (wk W (.arrayClass .byte)) rfl (by show len * 1 ≤ _; omega) (by omega) (g := (mkF m 1 #[.val (.ref b), .val (.int (Int32.ofNat o)), .val (.int (Int32.ofNat len)), .unset, .unset, .unset] [.int (Int32.ofNat len)])) rfl (hb hbytes d1) (rest := []) rfl (Nat.le_refl _) (by show 0 + len ≤ len; omega)
  rw [hh0] at ba3 st3
  have kp3 : XT.Kept s T3 := (XT.Kept.of_eq hh0).push bh3
  have hA3 := hA.keep X3.warmed.alike (kp3 _ _ hA.1.1)
  have hne : b ≠ s.heap.size := hA.1.ne
  have c4 : Steps p.tables e below (s₁.setTop (entryFrame m #[.ref b, .int (Int32.ofNat o), .int (Int32.ofNat len)] 6)) (T3.setTop (mkF m 3 #[.val (.ref b), .val (.int (Int32.ofNat o)), .val (.int (Int32.ofNat len)), .unset, .unset, .unset] [.ref s.heap.size])) := c2.trans (st3 _ (Steps.refl _))
  have c5 : Steps p.tables e below (s₁.setTop (entryFrame m #[.ref b, .int (Int32.ofNat o), .int (Int32.ofNat len)] 6)) (T3.setTop (mkF m 9 #[.val (.ref b), .val (.int (Int32.ofNat o)), .val (.int (Int32.ofNat len)), .val (.ref s.heap.size), .unset, .unset] [.int (Int32.ofNat len), .int 0, .ref s.heap.size, .int (Int32.ofNat o), .ref b])) := c4.trans (by
    refine XS.astoreN X3.here hexec rfl (hb hbytes d3) rfl rfl rfl ?_
    refine XS.aloadN X3.here hexec rfl (hb hbytes d4) rfl rfl ?_
    refine XS.iloadN X3.here hexec rfl (hb hbytes d5) rfl ?_
    refine XS.aloadN X3.here hexec rfl (hb hbytes d6) rfl rfl ?_
    refine iconstV X3.here hexec rfl 0 (hb hbytes d7) (by decide) ?_
    refine XS.iloadN X3.here hexec rfl (hb hbytes d8) rfl ?_
    exact Steps.refl _)
  obtain ⟨v6, T6, X6, E6, g6⟩ := X3.callS hexec (Cmp5.law l b A s.heap.size B3 o 0 len) hown (wks W (staticW U16 115 Cmp5.yN)) (wk W Cmp5.tab) (W := 0) (Nat.le_of_ble_eq_true rfl) (Nat.le_of_ble_eq_true rfl) (Nat.le_refl _) (by show 0 + len + 0 ≤ len; omega) (g := (mkF m 9 #[.val (.ref b), .val (.int (Int32.ofNat o)), .val (.int (Int32.ofNat len)), .val (.ref s.heap.size), .unset, .unset] [.int (Int32.ofNat len), .int (Int32.ofNat 0), .ref s.heap.size, .int (Int32.ofNat o), .ref b])) rfl (by rw [hml]; rfl) c5 (argsL := [.ref b, .int (Int32.ofNat o), .ref s.heap.size, .int (Int32.ofNat 0), .int (Int32.ofNat len)]) (rest := []) rfl rfl (by show 2 * 0 + 0 ≤ _; decide) (hb hbytes d9) (⟨rfl, hA3, ba3, hne, l1, by rw [bs3]; simp, hp⟩)
  obtain ⟨rfl, B6, p6, f6⟩ := E6
  have c7 : Steps p.tables e below (s₁.setTop (entryFrame m #[.ref b, .int (Int32.ofNat o), .int (Int32.ofNat len)] 6)) (T6.setTop (mkF m 12 #[.val (.ref b), .val (.int (Int32.ofNat o)), .val (.int (Int32.ofNat len)), .val (.ref s.heap.size), .unset, .unset] [.int (Int32.ofNat len)])) := g6
  have c8 : Steps p.tables e below (s₁.setTop (entryFrame m #[.ref b, .int (Int32.ofNat o), .int (Int32.ofNat len)] 6)) (T6.setTop (mkF m 58 #[.val (.ref b), .val (.int (Int32.ofNat o)), .val (.int (Int32.ofNat len)), .val (.ref s.heap.size), .val (.int (Int32.ofNat len)), .unset] [.ref s.heap.size])) := c7.trans (by
    refine XS.istore X6.here hexec rfl (hb hbytes d12) rfl rfl ?_
    refine XS.iload X6.here hexec rfl (hb hbytes d14) rfl ?_
    refine XS.iloadN X6.here hexec rfl (hb hbytes d16) rfl ?_
    refine XS.icmpYes X6.here hexec rfl (pc0 := 17) rfl (hb hbytes d17) rfl (ii_eq_t rfl) (by decide) rfl ?_
    refine XS.aloadN X6.here hexec rfl (hb hbytes d57) rfl rfl ?_
    exact Steps.refl _)
  have X8 := X6.wide (L' := []) (cells' := 1) (slots' := len) (fun x hx hlt => by
    simp only [List.nil_append, copyLocs, List.mem_map, List.mem_range] at hx
    obtain ⟨i, -, rfl⟩ := hx
    exact absurd hlt (Nat.lt_irrefl _)) (Nat.le_refl _) (by omega)
  exact ⟨T6, some (.ref s.heap.size), _, _, _, X8, rfl, rfl, rfl, (fun h => by cases h), ⟨⟨rfl, B6, ba3.like (X3.warmed.alike.symm.trans X6.warmed.alike) p6.1 f6.1 f6.2.1 f6.2.2.1, f6.2.1.trans bv3, by rw [X6.warmed.alike.findClass, f6.1]; exact bf3, by rw [f6.2.2.1, bs3]; simp, fun j hj => by rw [f6.2.2.2 j, if_pos (by omega)]; rfl, kp3.put p6 (Nat.le_refl _)⟩, by rw [p6.2.2, bh3, hh0]; simp⟩, fun fs hl => c8.trans (X8.areturnOut hexec rfl hret rfl (hb hbytes d58) hl)⟩
end Cmp3
namespace CodL
def yN : MethodName := ⟨"java/lang/StringUTF16", "coderFromArrayLen", "([BI)B"⟩
abbrev yB : ByteArray := jdk_52_method_15_code
theorem d0 : decode yB 0 = .ok (.iload_n 1, 1) := by decide +kernel
theorem d1 : decode yB 1 = .ok (.aload_n 0, 1) := by decide +kernel
theorem d2 : decode yB 2 = .ok (.arraylength, 1) := by decide +kernel
theorem d3 : decode yB 3 = .ok (.isub, 1) := by decide +kernel
theorem d4 : decode yB 4 = .ok (.bipush 31, 2) := by decide +kernel
theorem d6 : decode yB 6 = .ok (.iushr, 1) := by decide +kernel
theorem d7 : decode yB 7 = .ok (.i2b, 1) := by decide +kernel
theorem d8 : decode yB 8 = .ok (.ireturn, 1) := by decide +kernel
def site : List Cond := []
def tab : Cond := tabOf yN yB 2 (some .byte) site
def P (d : Addr) (B : Cell) (args : Array Value) (s : State) : Prop := args = #[.ref d, .int (Int32.ofNat B.slots.size)] ∧ Arr .byte d B s
def E (r : Option Value) (s u : State) : Prop := XT.PureE (some (.int 0)) r s u
/-- an array as long as the number of chars: LATIN1 -/
theorem law (l : Launch) (d : Addr) (B : Cell) : Law l yN 2 2 0 0 yB 2 (some .byte) site (P d B) E [] 0 0 := by
  refine Law.of_walk (plainFor_of_name (by decide +kernel)) (by decide +kernel) (by decide +kernel) (by decide) (fun _ _ h => by rw [h.1]; rfl) (fun _ U U' hal hh h => ⟨h.1, h.2.mv hal hh⟩) (fun r U U' V V' h1 hal h2 h => XT.PureE.mv r U U' V V' h1 hal h2 h) ?_
  intro p e s m args below meth c s₁ X0 hexec hbytes hml hret hlk hnm hown hh0 W hP
  obtain ⟨rfl, hB⟩ := hP
  have hB0 := hB.mv X0.warmed.alike hh0
  have c1 : Steps p.tables e below (s₁.setTop (entryFrame m #[.ref d, .int (Int32.ofNat B.slots.size)] 2)) (s₁.setTop (mkF m 0 #[.val (.ref d), .val (.int (Int32.ofNat B.slots.size))] [])) := entry rfl
  have c2 : Steps p.tables e below (s₁.setTop (entryFrame m #[.ref d, .int (Int32.ofNat B.slots.size)] 2)) (s₁.setTop (mkF m 2 #[.val (.ref d), .val (.int (Int32.ofNat B.slots.size))] [.ref d, .int (Int32.ofNat B.slots.size)])) := c1.trans (by
    refine XS.iloadN X0.here hexec rfl (hb hbytes d0) rfl ?_
    refine XS.aloadN X0.here hexec rfl (hb hbytes d1) rfl rfl ?_
    exact Steps.refl _)
  have c3 : Steps p.tables e below (s₁.setTop (entryFrame m #[.ref d, .int (Int32.ofNat B.slots.size)] 2)) (s₁.setTop (mkF m 8 #[.val (.ref d), .val (.int (Int32.ofNat B.slots.size))] [.int (lo8 (ushr (Int32.ofNat B.slots.size - Int32.ofNat B.slots.size) 31))])) := c2.trans (by
    refine X0.alen hexec hB0 rfl rfl (hb hbytes d2) ?_
    refine XS.isub X0.here hexec rfl (hb hbytes d3) rfl ?_
    refine bipushV X0.here hexec rfl 31 (hb hbytes d4) (by decide) ?_
    refine iushr X0.here hexec rfl (hb hbytes d6) rfl ?_
    refine i2b X0.here hexec rfl (hb hbytes d7) rfl ?_
    exact Steps.refl _)
  have e0 : lo8 (ushr (Int32.ofNat B.slots.size - Int32.ofNat B.slots.size) 31) = 0 := by rw [Int32.sub_self]; decide
  rw [e0] at c3
  exact ⟨s₁, some (.int 0), _, _, _, X0, rfl, rfl, rfl, (fun h => by cases h), ⟨rfl, hh0⟩, fun fs hl => c3.trans (X0.ireturnOut hexec hret rfl (Or.inr (Or.inr (Or.inl rfl))) (hb hbytes d8) hl)⟩
end CodL
/-- the String at a is Latin-1 over a new byte[] (the heap's one new cell): the low bytes of the len chars of A from o on; every cell but a is kept -/
def Got (a : Addr) (D : Cell) (fV fC : Field) (A : Cell) (o len : Nat) (r : Option Value) (s u : State) : Prop := r = none ∧ ∃ D' V : Cell, Blank "java/lang/String" a D' u ∧ Same D D' [fV.slot, fC.slot] ∧ D'.slots[fV.slot]? = some (.ref s.heap.size) ∧ D'.slots[fC.slot]? = some (.int 0) ∧ Arr .byte s.heap.size V u ∧ V.vm = .none ∧ u.vm.findClass "[B" = some V.cls ∧ V.slots.size = len ∧ (∀ j, j < len → V.slots[j]? = some (.int (lo8 (cv A (o + j))))) ∧ (∀ (y : Addr) (c : Cell), y ≠ a → s.heap[y]? = some c → u.heap[y]? = some c) ∧ u.heap.size = s.heap.size + 1
theorem Got.mv {a : Addr} {D A : Cell} {fV fC : Field} {o len : Nat} : ∀ r (U U' V V' : State), U'.heap = U.heap → V.vm.Alike V'.vm → V'.heap = V.heap → Got a D fV fC A o len r U V → Got a D fV fC A o len r U' V' :=
  fun r U U' V V' h1 hal h2 ⟨e0, D', X, a1, a2, a3, a4, a5, a6, a7, a8, a9, a10, a11⟩ => ⟨e0, D', X, a1.mv hal h2, a2, by rw [h1]; exact a3, a4, by rw [h1]; exact a5.mv hal h2, a6, by rw [hal.findClass]; exact a7, a8, a9, by rw [h1, h2]; exact a10, by rw [h1, h2]; exact a11⟩
namespace New4
def yN : MethodName := ⟨"java/lang/String", "<init>", "([CIILjava/lang/Void;)V"⟩
abbrev yB : ByteArray := jdk_42_method_149_code
theorem d0 : decode yB 0 = .ok (.aload_n 0, 1) := by decide +kernel
theorem d1 : decode yB 1 = .ok (.invokespecial 1, 3) := by decide +kernel
theorem d4 : decode yB 4 = .ok (.iload_n 3, 1) := by decide +kernel
theorem d5 : decode yB 5 = .ok (.ifCond (.ne) 22, 3) := by decide +kernel
theorem d27 : decode yB 27 = .ok (.getstatic 38, 3) := by decide +kernel
theorem d30 : decode yB 30 = .ok (.ifCond (.eq) 28, 3) := by decide +kernel
theorem d33 : decode yB 33 = .ok (.aload_n 1, 1) := by decide +kernel
theorem d34 : decode yB 34 = .ok (.iload_n 2, 1) := by decide +kernel
theorem d35 : decode yB 35 = .ok (.iload_n 3, 1) := by decide +kernel
theorem d36 : decode yB 36 = .ok (.invokestatic 177, 3) := by decide +kernel
theorem d39 : decode yB 39 = .ok (.astore 5, 2) := by decide +kernel
theorem d41 : decode yB 41 = .ok (.aload_n 0, 1) := by decide +kernel
theorem d42 : decode yB 42 = .ok (.aload 5, 2) := by decide +kernel
theorem d44 : decode yB 44 = .ok (.iload_n 3, 1) := by decide +kernel
theorem d45 : decode yB 45 = .ok (.invokestatic 47, 3) := by decide +kernel
theorem d48 : decode yB 48 = .ok (.putfield 15, 3) := by decide +kernel
theorem d51 : decode yB 51 = .ok (.aload_n 0, 1) := by decide +kernel
theorem d52 : decode yB 52 = .ok (.aload 5, 2) := by decide +kernel
theorem d54 : decode yB 54 = .ok (.putfield 9, 3) := by decide +kernel
theorem d57 : decode yB 57 = .ok (.return_, 1) := by decide +kernel
def site : List Cond := [.fieldLink "java/lang/String" 38 "java/lang/String" "COMPACT_STRINGS" "Z", Cmp3.tab, CodL.tab, .laysFinal "java/lang/String" "java/lang/String" "value" "[B", .fieldLink "java/lang/String" 9 "java/lang/String" "value" "[B", .laysFinal "java/lang/String" "java/lang/String" "coder" "B", .fieldLink "java/lang/String" 15 "java/lang/String" "coder" "B"] ++ objW "java/lang/String" 1 ++ staticW "java/lang/String" 177 Cmp3.yN ++ staticW "java/lang/String" 47 CodL.yN
def tab : Cond := tabOf yN yB 6 none site
def P (a : Addr) (D : Cell) (fV fC : Field) (b : Addr) (A : Cell) (z : Int32) (o len : Nat) (args : Array Value) (s : State) : Prop := args = #[.ref a, .ref b, .int (Int32.ofNat o), .int (Int32.ofNat len), .null] ∧ Blank "java/lang/String" a D s ∧ Found "java/lang/String" "value" "[B" fV s ∧ Found "java/lang/String" "coder" "B" fC s ∧ Ch b A s ∧ StaticIs s "java/lang/String" "COMPACT_STRINGS" "Z" (.int z) ∧ ¬ z = 0 ∧ 0 < len ∧ o + len ≤ A.slots.size ∧ len ≤ 536870912 ∧ ∀ i, i < len → ¬ 255 < cv A (o + i)
def E (a : Addr) (D : Cell) (fV fC : Field) (A : Cell) (o len : Nat) (r : Option Value) (s u : State) : Prop := Got a D fV fC A o len r s u
/-- len > 0, no char of the range above 255: a Latin-1 String of their low bytes -/
theorem law (l : Launch) (a : Addr) (D : Cell) (fV fC : Field) (b : Addr) (A : Cell) (z : Int32) (o len : Nat) : Law l yN 5 4 2 35 yB 6 none site (P a D fV fC b A z o len) (E a D fV fC A o len) [⟨a, fC.slot⟩, ⟨a, fV.slot⟩] 1 len := by
  refine Law.of_walk (plainFor_of_name (by decide +kernel)) (by decide +kernel) (by decide +kernel) (by decide) (fun _ _ h => by rw [h.1]; rfl) (fun _ U U' hal hh h => ⟨h.1, h.2.1.mv hal hh, h.2.2.1.al hal, h.2.2.2.1.al hal, h.2.2.2.2.1.mv hal hh, h.2.2.2.2.2.1.there hal hh, h.2.2.2.2.2.2⟩) (fun r U U' V V' h1 hal h2 h => Got.mv r U U' V V' h1 hal h2 h) ?_
  intro p e s m args below meth c s₁ X0 hexec hbytes hml hret hlk hnm hown hh0 W hP
  obtain ⟨rfl, hB, f1, f2, hA, s1, hz, l0, l1, l2, hp⟩ := hP
  have a31 := hA.1.2.2.2
  have c1 : Steps p.tables e below (s₁.setTop (entryFrame m #[.ref a, .ref b, .int (Int32.ofNat o), .int (Int32.ofNat len), .null] 6)) (s₁.setTop (mkF m 0 #[.val (.ref a), .val (.ref b), .val (.int (Int32.ofNat o)), .val (.int (Int32.ofNat len)), .val .null, .unset] [])) := entry rfl
  have c2 : Steps p.tables e below (s₁.setTop (entryFrame m #[.ref a, .ref b, .int (Int32.ofNat o), .int (Int32.ofNat len), .null] 6)) (s₁.setTop (mkF m 1 #[.val (.ref a), .val (.ref b), .val (.int (Int32.ofNat o)), .val (.int (Int32.ofNat len)), .val .null, .unset] [.ref a])) := c1.trans (by
    refine XS.aloadN X0.here hexec rfl (hb hbytes d0) rfl rfl ?_
    exact Steps.refl _)
  obtain ⟨T3, X3, q3, st3⟩ := X0.oinit hexec hown (wks W (objW "java/lang/String" 1)) (g := (mkF m 1 #[.val (.ref a), .val (.ref b), .val (.int (Int32.ofNat o)), .val (.int (Int32.ofNat len)), .val .null, .unset] [.ref a])) rfl (by rw [hml]; rfl) (rest := []) rfl (hb hbytes d1) (W := 0) (by show 2 * 0 + 0 ≤ _; decide) (Nat.le_of_ble_eq_true rfl) (Nat.le_of_ble_eq_true rfl)
  have hh3 := q3.trans hh0
  have c4 : Steps p.tables e below (s₁.setTop (entryFrame m #[.ref a, .ref b, .int (Int32.ofNat o), .int (Int32.ofNat len), .null] 6)) (T3.setTop (mkF m 27 #[.val (.ref a), .val (.ref b), .val (.int (Int32.ofNat o)), .val (.int (Int32.ofNat len)), .val .null, .unset] [])) := (c2.trans (st3 _ (Steps.refl _))).trans (by
    refine XS.iloadN X3.here hexec rfl (hb hbytes d4) rfl ?_
    refine XS.ifYes X3.here hexec rfl (pc0 := 5) rfl (hb hbytes d5) rfl (i0_ne_t (nz32 (by omega) l0)) (by decide) rfl ?_
    exact Steps.refl _)
  obtain ⟨T5, X5, q5, st5⟩ := X3.sget hexec hown (wk W (.fieldLink "java/lang/String" 38 "java/lang/String" "COMPACT_STRINGS" "Z")) s1 (fun _ _ h => by rw [hh3]; exact h) (g := (mkF m 27 #[.val (.ref a), .val (.ref b), .val (.int (Int32.ofNat o)), .val (.int (Int32.ofNat len)), .val .null, .unset] [])) rfl (hb hbytes d27)
  have hh5 := q5.trans hh3
  have c6 : Steps p.tables e below (s₁.setTop (entryFrame m #[.ref a, .ref b, .int (Int32.ofNat o), .int (Int32.ofNat len), .null] 6)) (T5.setTop (mkF m 30 #[.val (.ref a), .val (.ref b), .val (.int (Int32.ofNat o)), .val (.int (Int32.ofNat len)), .val .null, .unset] [.int z])) := c4.trans (st5 _ (Steps.refl _))
  have c7 : Steps p.tables e below (s₁.setTop (entryFrame m #[.ref a, .ref b, .int (Int32.ofNat o), .int (Int32.ofNat len), .null] 6)) (T5.setTop (mkF m 36 #[.val (.ref a), .val (.ref b), .val (.int (Int32.ofNat o)), .val (.int (Int32.ofNat len)), .val .null, .unset] [.int (Int32.ofNat len), .int (Int32.ofNat o), .ref b])) := c6.trans (by
    refine XS.ifNo X5.here hexec rfl (hb hbytes d30) rfl (i0_eq_f hz) ?_
    refine XS.aloadN X5.here hexec rfl (hb hbytes d33) rfl rfl ?_
    refine XS.iloadN X5.here hexec rfl (hb hbytes d34) rfl ?_
    refine XS.iloadN X5.here hexec rfl (hb hbytes d35) rfl ?_
    exact Steps.refl _)
  obtain ⟨v8, T8, X8, E8, g8⟩ := X5.callS hexec (Cmp3.law l b A o len) hown (wks W (staticW "java/lang/String" 177 Cmp3.yN)) (wk W Cmp3.tab) (W := 0) (Nat.le_of_ble_eq_true rfl) (Nat.le_of_ble_eq_true rfl) (Nat.le_refl _) (by show 0 + len ≤ len; omega) (g := (mkF m 36 #[.val (.ref a), .val (.ref b), .val (.int (Int32.ofNat o)), .val (.int (Int32.ofNat len)), .val .null, .unset] [.int (Int32.ofNat len), .int (Int32.ofNat o), .ref b])) rfl (by rw [hml]; rfl) c7 (argsL := [.ref b, .int (Int32.ofNat o), .int (Int32.ofNat len)]) (rest := []) rfl rfl (by show 2 * 0 + 0 ≤ _; decide) (hb hbytes d36) (⟨rfl, hA.mv X5.warmed.alike hh5, l1, l2, hp⟩)
  obtain ⟨e8, z8⟩ := E8
  obtain ⟨rfl, N, n1, n2, n3, n4, n5, n6⟩ := NewArr.mv _ T5 s _ _ hh5.symm (Vm.Alike.refl _) rfl e8
  rw [hh5] at z8
  have hB1 := hB.keep X8.warmed.alike (n6 _ _ hB.1)
  have hne : s.heap.size ≠ a := (Nat.ne_of_lt (Array.getElem?_eq_some_iff.mp hB.1).1).symm
  have c9 : Steps p.tables e below (s₁.setTop (entryFrame m #[.ref a, .ref b, .int (Int32.ofNat o), .int (Int32.ofNat len), .null] 6)) (T8.setTop (mkF m 39 #[.val (.ref a), .val (.ref b), .val (.int (Int32.ofNat o)), .val (.int (Int32.ofNat len)), .val .null, .unset] [.ref s.heap.size])) := g8
  have c10 : Steps p.tables e below (s₁.setTop (entryFrame m #[.ref a, .ref b, .int (Int32.ofNat o), .int (Int32.ofNat len), .null] 6)) (T8.setTop (mkF m 45 #[.val (.ref a), .val (.ref b), .val (.int (Int32.ofNat o)), .val (.int (Int32.ofNat len)), .val .null, .val (.ref s.heap.size)] [.int (Int32.ofNat N.slots.size), .ref s.heap.size, .ref a])) := by
    have hc : Steps p.tables e below (s₁.setTop (entryFrame m #[.ref a, .ref b, .int (Int32.ofNat o), .int (Int32.ofNat len), .null] 6)) (T8.setTop (mkF m 45 #[.val (.ref a), .val (.ref b), .val (.int (Int32.ofNat o)), .val (.int (Int32.ofNat len)), .val .null, .val (.ref s.heap.size)] [.int (Int32.ofNat len), .ref s.heap.size, .ref a])) := c9.trans (by
      refine XS.astore X8.here hexec rfl (hb hbytes d39) rfl rfl rfl ?_
      refine XS.aloadN X8.here hexec rfl (hb hbytes d41) rfl rfl ?_
      refine XS.aload X8.here hexec rfl (hb hbytes d42) rfl rfl ?_
      refine XS.iloadN X8.here hexec rfl (hb hbytes d44) rfl ?_
      exact Steps.refl _)
    rw [n4]; exact hc
  obtain ⟨v11, T11, X11, E11, g11⟩ := X8.callS hexec (CodL.law l s.heap.size N) hown (wks W (staticW "java/lang/String" 47 CodL.yN)) (wk W CodL.tab) (W := 1) (Nat.le_of_ble_eq_true rfl) (Nat.le_of_ble_eq_true rfl) (Nat.le_refl _) (by show 0 + len + 0 ≤ len; omega) (g := (mkF m 45 #[.val (.ref a), .val (.ref b), .val (.int (Int32.ofNat o)), .val (.int (Int32.ofNat len)), .val .null, .val (.ref s.heap.size)] [.int (Int32.ofNat N.slots.size), .ref s.heap.size, .ref a])) rfl (by rw [hml]; rfl) c10 (argsL := [.ref s.heap.size, .int (Int32.ofNat N.slots.size)]) (rest := [.ref a]) rfl rfl (by show 2 * 0 + (1 + 0) ≤ _; decide) (hb hbytes d45) (⟨rfl, n1⟩)
  obtain ⟨rfl, q11⟩ := E11
  have hB11 := hB1.mv (X8.warmed.alike.symm.trans X11.warmed.alike) q11
  have c12 : Steps p.tables e below (s₁.setTop (entryFrame m #[.ref a, .ref b, .int (Int32.ofNat o), .int (Int32.ofNat len), .null] 6)) (T11.setTop (mkF m 48 #[.val (.ref a), .val (.ref b), .val (.int (Int32.ofNat o)), .val (.int (Int32.ofNat len)), .val .null, .val (.ref s.heap.size)] [.int 0, .ref a])) := g11
  obtain ⟨T13, X13, p13, bl13, sl13, st13⟩ := X11.finit hexec hown (wk W (.fieldLink "java/lang/String" 15 "java/lang/String" "coder" "B")) (Or.inr ⟨_, (wk W (.laysFinal "java/lang/String" "java/lang/String" "coder" "B"))⟩) (Or.inl ⟨rfl, hnm⟩) f2 (Or.inl rfl) hB11 (t := .byte) (by decide +kernel) rfl (g := (mkF m 48 #[.val (.ref a), .val (.ref b), .val (.int (Int32.ofNat o)), .val (.int (Int32.ofNat len)), .val .null, .val (.ref s.heap.size)] [.int 0, .ref a])) rfl (rest := []) rfl (hb hbytes d48)
  have c14 : Steps p.tables e below (s₁.setTop (entryFrame m #[.ref a, .ref b, .int (Int32.ofNat o), .int (Int32.ofNat len), .null] 6)) (T13.setTop (mkF m 54 #[.val (.ref a), .val (.ref b), .val (.int (Int32.ofNat o)), .val (.int (Int32.ofNat len)), .val .null, .val (.ref s.heap.size)] [.ref s.heap.size, .ref a])) := (c12.trans (st13 _ (Steps.refl _))).trans (by
    refine XS.aloadN X13.here hexec rfl (hb hbytes d51) rfl rfl ?_
    refine XS.aload X13.here hexec rfl (hb hbytes d52) rfl rfl ?_
    exact Steps.refl _)
  obtain ⟨T15, X15, p15, bl15, sl15, st15⟩ := X13.finit hexec hown (wk W (.fieldLink "java/lang/String" 9 "java/lang/String" "value" "[B")) (Or.inr ⟨_, (wk W (.laysFinal "java/lang/String" "java/lang/String" "value" "[B"))⟩) (Or.inl ⟨rfl, hnm⟩) f1 (Or.inl rfl) bl13 (t := (.array .byte)) (by decide +kernel) rfl (g := (mkF m 54 #[.val (.ref a), .val (.ref b), .val (.int (Int32.ofNat o)), .val (.int (Int32.ofNat len)), .val .null, .val (.ref s.heap.size)] [.ref s.heap.size, .ref a])) rfl (rest := []) rfl (hb hbytes d54)
  have c16 : Steps p.tables e below (s₁.setTop (entryFrame m #[.ref a, .ref b, .int (Int32.ofNat o), .int (Int32.ofNat len), .null] 6)) (T15.setTop (mkF m 57 #[.val (.ref a), .val (.ref b), .val (.int (Int32.ofNat o)), .val (.int (Int32.ofNat len)), .val .null, .val (.ref s.heap.size)] [])) := c14.trans (st15 _ (Steps.refl _))
  have ap := apart (Or.inr ⟨_, (wk W (.laysFinal "java/lang/String" "java/lang/String" "value" "[B"))⟩) (Or.inr ⟨_, (wk W (.laysFinal "java/lang/String" "java/lang/String" "coder" "B"))⟩) f1 f2 (t₁ := .array .byte) (t₂ := .byte) (by decide +kernel) (by decide +kernel) (by decide)
  have al := X8.warmed.alike.symm.trans X15.warmed.alike
  have n7 : T11.heap[s.heap.size]? = some N := by rw [q11]; exact n1.1
  exact ⟨T15, none, _, _, _, X15, by simp, rfl, by omega, (fun _ => rfl), ⟨rfl, _, N, bl15, ((Same.refl D _).set _ (by simp)).set _ (by simp), sl15, (Cell.slots_setSlot_ne _ ap).trans sl13, n1.keep al (p15.other hne (p13.other hne n7)), n2, by rw [al.findClass]; exact n3, n4, n5, fun y c h1 h2 => p15.other h1 (p13.other h1 (by rw [q11]; exact n6 y c h2)), by rw [p15.2.2, p13.2.2, q11]; exact z8⟩, fun fs hl => c16.trans (X15.returnOut hexec hret (hb hbytes d57) hl)⟩
end New4
namespace New1
def yN : MethodName := ⟨"java/lang/String", "<init>", "([C)V"⟩
abbrev yB : ByteArray := jdk_42_method_3_code
theorem d0 : decode yB 0 = .ok (.aload_n 0, 1) := by decide +kernel
theorem d1 : decode yB 1 = .ok (.aload_n 1, 1) := by decide +kernel
theorem d2 : decode yB 2 = .ok (.iconst 0, 1) := by decide +kernel
theorem d3 : decode yB 3 = .ok (.aload_n 1, 1) := by decide +kernel
theorem d4 : decode yB 4 = .ok (.arraylength, 1) := by decide +kernel
theorem d5 : decode yB 5 = .ok (.aconst_null, 1) := by decide +kernel
theorem d6 : decode yB 6 = .ok (.invokespecial 27, 3) := by decide +kernel
theorem d9 : decode yB 9 = .ok (.return_, 1) := by decide +kernel
def site : List Cond := [New4.tab] ++ initW "java/lang/String" 27 New4.yN
def tab : Cond := tabOf yN yB 2 none site
def P (a : Addr) (D : Cell) (fV fC : Field) (b : Addr) (A : Cell) (z : Int32) (args : Array Value) (s : State) : Prop := args = #[.ref a, .ref b] ∧ Blank "java/lang/String" a D s ∧ Found "java/lang/String" "value" "[B" fV s ∧ Found "java/lang/String" "coder" "B" fC s ∧ Ch b A s ∧ StaticIs s "java/lang/String" "COMPACT_STRINGS" "Z" (.int z) ∧ ¬ z = 0 ∧ 0 < A.slots.size ∧ A.slots.size ≤ 536870912 ∧ ∀ i, i < A.slots.size → ¬ 255 < cv A i
def E (a : Addr) (D : Cell) (fV fC : Field) (A : Cell) (r : Option Value) (s u : State) : Prop := Got a D fV fC A 0 A.slots.size r s u
/-- new String(chars), not empty, no char above 255: a Latin-1 String of their low bytes -/
theorem law (l : Launch) (a : Addr) (D : Cell) (fV fC : Field) (b : Addr) (A : Cell) (z : Int32) : Law l yN 2 1 3 52 yB 2 none site (P a D fV fC b A z) (E a D fV fC A) [⟨a, fC.slot⟩, ⟨a, fV.slot⟩] 1 A.slots.size := by
  refine Law.of_walk (plainFor_of_name (by decide +kernel)) (by decide +kernel) (by decide +kernel) (by decide) (fun _ _ h => by rw [h.1]; rfl) (fun _ U U' hal hh h => ⟨h.1, h.2.1.mv hal hh, h.2.2.1.al hal, h.2.2.2.1.al hal, h.2.2.2.2.1.mv hal hh, h.2.2.2.2.2.1.there hal hh, h.2.2.2.2.2.2⟩) (fun r U U' V V' h1 hal h2 h => Got.mv r U U' V V' h1 hal h2 h) ?_
  intro p e s m args below meth c s₁ X0 hexec hbytes hml hret hlk hnm hown hh0 W hP
  obtain ⟨rfl, hB, f1, f2, hA, s1, hz, l0, l2, hp⟩ := hP
  have c1 : Steps p.tables e below (s₁.setTop (entryFrame m #[.ref a, .ref b] 2)) (s₁.setTop (mkF m 0 #[.val (.ref a), .val (.ref b)] [])) := entry rfl
  have c2 : Steps p.tables e below (s₁.setTop (entryFrame m #[.ref a, .ref b] 2)) (s₁.setTop (mkF m 6 #[.val (.ref a), .val (.ref b)] [.null, .int (Int32.ofNat A.slots.size), .int 0, .ref b, .ref a])) := c1.trans (by
    refine XS.aloadN X0.here hexec rfl (hb hbytes d0) rfl rfl ?_
    refine XS.aloadN X0.here hexec rfl (hb hbytes d1) rfl rfl ?_
    refine iconstV X0.here hexec rfl 0 (hb hbytes d2) (by decide) ?_
    refine XS.aloadN X0.here hexec rfl (hb hbytes d3) rfl rfl ?_
    refine X0.alen hexec (hA.1.mv X0.warmed.alike hh0) rfl rfl (hb hbytes d4) ?_
    refine XS.aconstNull X0.here hexec rfl (hb hbytes d5) ?_
    exact Steps.refl _)
  obtain ⟨v3, T3, X3, E3, g3⟩ := X0.callN hexec (New4.law l a D fV fC b A z 0 A.slots.size) rfl hown (wks W (initW "java/lang/String" 27 New4.yN)) (W New4.tab (by simp only [site, List.mem_cons, List.mem_append, true_or, or_true])) (W := 0) (Nat.le_of_ble_eq_true rfl) (Nat.le_of_ble_eq_true rfl) (Nat.le_refl _) (by show 0 + A.slots.size ≤ A.slots.size; omega) (g := (mkF m 6 #[.val (.ref a), .val (.ref b)] [.null, .int (Int32.ofNat A.slots.size), .int (Int32.ofNat 0), .ref b, .ref a])) rfl (by rw [hml]; rfl) c2 (argsL := [.ref b, .int (Int32.ofNat 0), .int (Int32.ofNat A.slots.size), .null]) (rest := []) rfl rfl (by show 2 * 0 + 0 ≤ _; decide) (hb hbytes d6) (⟨rfl, hB.mv X0.warmed.alike hh0, f1.al X0.warmed.alike, f2.al X0.warmed.alike, hA.mv X0.warmed.alike hh0, s1.there X0.warmed.alike hh0, hz, l0, by omega, l2, fun i hi => by rw [Nat.zero_add]; exact hp i hi⟩)
  have e0 := Got.mv _ s₁ s _ _ hh0.symm (Vm.Alike.refl _) rfl E3
  obtain rfl := e0.1
  have c4 : Steps p.tables e below (s₁.setTop (entryFrame m #[.ref a, .ref b] 2)) (T3.setTop (mkF m 9 #[.val (.ref a), .val (.ref b)] [])) := g3
  exact ⟨T3, none, _, _, _, X3, by simp, rfl, by omega, (fun _ => rfl), e0, fun fs hl => c4.trans (X3.returnOut hexec hret (hb hbytes d9) hl)⟩
theorem pays {l : Launch} {R : Room} {p : Program} {e : Env} {below : List Frame} {s : State} {sargs : Array Value} {len W : Nat} (a : Addr) (D : Cell) (fV fC : Field) (b : Addr) (A : Cell) (z : Int32) (htab : tab.before sargs s = true) (hfr : 4 ≤ R.frames) (hlo : W + 65 ≤ R.locals) :
    Back l R p e below s sargs yN len W (fun A₁ a₁ => A₁.cells + 1 ≤ R.cells ∧ A₁.slots + A.slots.size ≤ R.slots ∧ P a D fV fC b A z a₁ A₁.U) (fun A₁ _ v₁ B₁ => E a D fV fC A v₁ A₁.U B₁.U ∧ B₁.locs = A₁.locs ++ [⟨a, fC.slot⟩, ⟨a, fV.slot⟩] ∧ B₁.cells = A₁.cells + 1 ∧ B₁.slots = A₁.slots + A.slots.size) :=
  (law l a D fV fC b A z).pays htab hfr (by omega)
end New1
/-- the byte, read back as charAt reads it, is the char -/
theorem lo8_mask {x : Int32} (h0 : ¬ x < 0) (h1 : ¬ 255 < x) : lo8 x &&& 255 = x := by
  have t : ∀ k : Fin 256, lo8 (Int32.ofNat k.val) &&& 255 = Int32.ofNat k.val := by decide +kernel
  rw [Int32.lt_iff_toInt_lt] at h0 h1
  have e0 : (0 : Int32).toInt = 0 := rfl
  have e1 : (255 : Int32).toInt = 255 := rfl
  obtain ⟨k, hk⟩ : ∃ k : Nat, x.toInt = k := ⟨x.toInt.toNat, by omega⟩
  have hx : x = Int32.ofNat k := Int32.toInt_inj.mp (by rw [hk, Int32.toInt_ofNat_small (by omega)])
  rw [hx]
  exact t ⟨k, by omega⟩
end StrChars
namespace StrChars.Road
open Jvm Sem ClassFile Op Lib Jvm.Stand Jvm.Free Jvm.Free.XT
open Jvm.Lib.Cold (StaticIs)
abbrev ST : String := "java/lang/String"
/-- every table word that New1's law asks, flat -/
abbrev words : List Jvm.Cond := [.code New1.yN New1.yB 2 none, .initialized ST, .methodLink ST 27 New4.yN, .instanceMethod New4.yN,
  .code New4.yN New4.yB 6 none, .fieldLink ST 38 ST "COMPACT_STRINGS" "Z", .laysFinal ST ST "value" "[B", .fieldLink ST 9 ST "value" "[B", .laysFinal ST ST "coder" "B", .fieldLink ST 15 ST "coder" "B",
  .methodLink ST 1 Lib.objectInit, .instanceMethod Lib.objectInit, .code Lib.objectInit ⟨#[0xb1]⟩ 1 none, .methodLink ST 177 Cmp3.yN, .static Cmp3.yN, .methodLink ST 47 CodL.yN, .static CodL.yN,
  .code Cmp3.yN Cmp3.yB 6 (some (.array .byte)), .initialized U16, .arrayClass .byte, .methodLink U16 115 Cmp5.yN, .static Cmp5.yN, .code Cmp5.yN Cmp5.yB 7 (some .int), .code CodL.yN CodL.yB 2 (some .byte)]
theorem tab_of {a : Array Value} {s : State} (h : ∀ w ∈ words, w.before a s = true) : New1.tab.before a s = true := by
  have h5 : Cmp5.tab.before a s = true := unparts (wk h (.code Cmp5.yN Cmp5.yB 7 (some .int))) (wks h (.initialized Cmp5.yN.cls :: Cmp5.site))
  have hc : CodL.tab.before a s = true := unparts (wk h (.code CodL.yN CodL.yB 2 (some .byte))) (wks h (.initialized CodL.yN.cls :: CodL.site))
  have q5 : ∀ w ∈ Cmp5.tab :: words, w.before a s = true := fun w hw => (List.mem_cons.mp hw).elim (fun e => e ▸ h5) (h w)
  have h3 : Cmp3.tab.before a s = true := unparts (wk q5 (.code Cmp3.yN Cmp3.yB 6 (some (.array .byte)))) (wks q5 (.initialized Cmp3.yN.cls :: Cmp3.site))
  have q3 : ∀ w ∈ Cmp3.tab :: CodL.tab :: words, w.before a s = true := fun w hw => (List.mem_cons.mp hw).elim (fun e => e ▸ h3) fun hw => (List.mem_cons.mp hw).elim (fun e => e ▸ hc) (h w)
  have h4 : New4.tab.before a s = true := unparts (wk q3 (.code New4.yN New4.yB 6 none)) (wks q3 (.initialized New4.yN.cls :: New4.site))
  have q4 : ∀ w ∈ New4.tab :: words, w.before a s = true := fun w hw => (List.mem_cons.mp hw).elim (fun e => e ▸ h4) (h w)
  exact unparts (wk q4 (.code New1.yN New1.yB 2 none)) (wks q4 (.initialized New1.yN.cls :: New1.site))
/-- the words ride from the start Z to the walk's own state -/
theorem moved {Z s : State} {a0 args : Array Value} (hZ : Z.Warmed39 s.vm) (hw : ∀ d ∈ words, d.before a0 Z = true) : ∀ d ∈ words, d.before args s = true := fun d hd => by
  have q := hw d hd
  have t : ∀ d ∈ words, d = .arrayClass .byte ∨ (d.onTables && d.keepsFace) = true := by decide +kernel
  rcases t d hd with rfl | t
  · exact RoadKit.mvA hZ q
  · exact RoadKit.mv hZ q t
/-- WHAT COMES BACK, over the tables of the start Z: h the heap at the call, h' behind it -/
def Q (Z : State) (x : Addr) (A : Cell) (h : Heap) (v : Option Value) (h' : Heap) (L : List Loc) : Prop := v = none ∧ (∀ y ∈ L, y.base = x) ∧ RoadKit.Keep h h' [x] ∧ h'.size = h.size + 1 ∧ RoadKit.Exa Z h' x ST ∧ RoadKit.Fld Z h' x ST "value" "[B" (.ref h.size) ∧ RoadKit.Fld Z h' x ST "coder" "B" (.int 0) ∧
  (∃ V : Cell, RoadKit.Arr Z h' h.size V .byte ∧ V.vm = .none ∧ Z.vm.findClass "[B" = some V.cls ∧ V.slots.size = A.slots.size ∧ ∀ j, j < A.slots.size → V.slots[j]? = some (.int (lo8 (cv A j)))) ∧
  ∀ (O n d : String) (w : Value), RoadKit.Fld Z h x O n d w → RoadKit.slotOf Z O n d ≠ RoadKit.slotOf Z ST "value" "[B" → RoadKit.slotOf Z O n d ≠ RoadKit.slotOf Z ST "coder" "B" → RoadKit.Fld Z h' x O n d w
/-- **new String(chars) AT A CALL, IN THE ROAD'S FORM**: for specialBack behind newO: x the fresh String, b the char[] with the cell A -/
theorem back {p : Program} {l : Launch} {e : Env} {R : Room} {s : State} {args : Array Value} {below : List Frame} {len W : Nat} {Z : State} {a0 : Array Value} {h : Heap} (hZ : Z.Warmed39 s.vm) (hw : ∀ d ∈ words, d.before a0 Z = true) {kI : Nat} (wi : (Jvm.Cond.instantiable ST kI).before a0 Z = true)
    {x b : Addr} {A : Cell} {z : Int32} {v0 c0 : Value} (E : RoadKit.Exa Z h x ST) (V : RoadKit.Fld Z h x ST "value" "[B" v0) (C : RoadKit.Fld Z h x ST "coder" "B" c0) (K : RoadKit.Arr Z h b A .char) (hty : Typed .char A) (S : RoadKit.Sta Z h ST "COMPACT_STRINGS" "Z" (.int z)) (hz : ¬ z = 0)
    (l0 : 0 < A.slots.size) (l2 : A.slots.size ≤ 536870912) (hp : ∀ i, i < A.slots.size → ¬ 255 < cv A i) (hfr : 4 ≤ R.frames) (hlo : W + 65 ≤ R.locals) :
    Back l R p e below s args New1.yN len W (fun P a => a = #[.ref x, .ref b] ∧ P.U.heap = h ∧ P.cells + 1 ≤ R.cells ∧ P.slots + A.slots.size ≤ R.slots)
      (fun P _ v B => ∃ L, Q Z x A h v B.U.heap L ∧ B.locs = P.locs ++ L ∧ B.cells = P.cells + 1 ∧ B.slots = P.slots + A.slots.size) := by
  intro m meth c P g ig mk a X hg hsize hdg hW hn hp'
  obtain ⟨rfl, rfl, r1, r2⟩ := hp'
  have al : Z.vm.Alike P.U.vm := hZ.alike.trans X.warmed.alike
  obtain ⟨D, cfV, kV, iV, fV, hD, gV, stV, knV, obV, asV, slV⟩ := id V
  obtain ⟨D', cfC, kC, iC, fC, hD', gC, stC, -, -, asC, slC⟩ := id C
  cases hD.symm.trans hD'
  obtain ⟨D2, kD, e1, e2, e3, e4, e5⟩ := id E
  cases hD.symm.trans e1
  obtain ⟨c2, k2, i1, i2, i3, -⟩ := Cond.instantiable_spec wi
  cases e2.symm.trans i1
  cases e3.symm.trans i2
  obtain ⟨kU, u1, u2⟩ := al.2.2 _ _ e3
  have hB : Blank ST x D P.U := ⟨hD, ⟨knV, fun q hq => by rw [hq] at obV; cases obV⟩, by rw [al.findClass]; exact e2, kU, u1, by rw [u2]; exact i3, by rw [u2]; exact e5 i3⟩
  have F1 : Found ST "value" "[B" fV P.U := ⟨SBG.found_only al ⟨cfV, kV, iV, gV⟩, stV⟩
  have F2 : Found ST "coder" "B" fC P.U := ⟨SBG.found_only al ⟨cfC, kC, iC, gC⟩, stC⟩
  have hA : Ch b A P.U := ⟨⟨K.1, State.isArrayOf_alike al K.2.1, K.2.2, by omega⟩, hty⟩
  have hS : StaticIs P.U ST "COMPACT_STRINGS" "Z" (.int z) := by
    obtain ⟨cfS, iS, kS, fS, st, cS, t1, t2, t3, t4, t5, t6, t7⟩ := S
    exact StaticIs.there (s := { Z with heap := P.U.heap }) ⟨cfS, iS, kS, fS, st, cS, t1, t2, t3, t4, t5, (fun q => by rw [q] at t6; cases t6), t7⟩ al rfl
  obtain ⟨v, B, X', ⟨⟨hv, E', V', q1, q2, q3, q4, q5, q6, q7, q8, q9, q10, q11⟩, hl, hc, hs⟩, st⟩ := New1.pays x D fV fC b A z (tab_of (moved hZ hw)) hfr hlo m meth c P g ig mk _ X hg hsize hdg hW hn ⟨r1, r2, rfl, hB, F1, F2, hA, hS, hz, l0, l2, hp⟩
  have al' : Z.vm.Alike B.U.vm := hZ.alike.trans X'.warmed.alike
  have hsz : E'.slots.size = D.slots.size := by
    obtain ⟨-, -, -, kB, w1, w2, w3⟩ := q1
    obtain ⟨kB', y1, y2⟩ := al'.2.2 _ _ e3
    rw [q2.2.1] at w1
    cases w1.symm.trans y1
    rw [w3, e5 i3, y2]
  refine ⟨v, B, X', ⟨_, ⟨hv, ?_, ⟨by omega, fun y cy hy hn' => q10 y cy (by simpa using hn') hy, fun y cy hy => ?_⟩, q11, ⟨E', _, q1.1, by rw [q2.2.1]; exact e2, by rw [q2.2.1]; exact e3, by rw [q2.1]; exact obV, fun _ => by rw [hsz]; exact e5 i3⟩,
    ⟨E', cfV, kV, iV, fV, q1.1, gV, stV, by rw [q2.1]; exact knV, by rw [q2.1]; exact obV, by rw [q2.2.1]; exact asV, q3⟩, ⟨E', cfC, kC, iC, fC, q1.1, gC, stC, by rw [q2.1]; exact knV, by rw [q2.1]; exact obV, by rw [q2.2.1]; exact asC, q4⟩,
    ⟨V', ⟨q5.1, State.isArrayOf_alike al'.symm q5.2.1, q5.2.2.1⟩, q6, by rw [← al'.findClass]; exact q7, q8, fun j hj => by have := q9 j hj; rwa [Nat.zero_add] at this⟩, fun O n d w F n1 n2 => ?_⟩, hl, hc, hs⟩, st⟩
  · intro y hy
    simp only [List.mem_cons, List.not_mem_nil, or_false] at hy
    rcases hy with rfl | rfl <;> rfl
  · by_cases q : y = x
    · subst q
      cases hD.symm.trans hy
      exact ⟨E', q1.1, q2.2.1, q2.1, hsz⟩
    · exact ⟨cy, q10 y cy q hy, rfl, rfl, rfl⟩
  · obtain ⟨D3, cf, k, i, f, g1, g2, g3, g4, g5, g6, g7⟩ := F
    cases hD.symm.trans g1
    simp only [RoadKit.slotOf, g2, gV, gC, Option.map_some, Option.getD_some] at n1 n2
    exact ⟨E', cf, k, i, f, q1.1, g2, g3, by rw [q2.1]; exact g4, by rw [q2.1]; exact g5, by rw [q2.2.1]; exact g6, by rw [q2.2.2 f.slot (by simp [n1, n2])]; exact g7⟩
end StrChars.Road
namespace StrChars.Road
open Jvm Sem ClassFile Op Lib Jvm.Stand Jvm.Free Jvm.Free.XT
/-- WHAT COMES BACK, the byte[] as a list of values -/
def QA (Z : State) (x : Addr) (zn : Int32) (cs : List Int32) (h : Heap) (v : Option Value) (h' : Heap) (L : List Loc) : Prop := v = none ∧ (∀ y ∈ L, y.base = x) ∧ RoadKit.Keep h h' [x] ∧ h'.size = h.size + 1 ∧ RoadKit.Exa Z h' x ST ∧ RoadKit.Fld Z h' x ST "value" "[B" (.ref h.size) ∧ RoadKit.Fld Z h' x ST "coder" "B" (.int 0) ∧
  (∃ kb, Z.vm.findClass "[B" = some kb ∧ RoadKit.Arv Z h' h.size kb .byte zn (cs.map fun c => .int (lo8 c)) (.int 0)) ∧
  ∀ (O n d : String) (w : Value), RoadKit.Fld Z h x O n d w → RoadKit.slotOf Z O n d ≠ RoadKit.slotOf Z ST "value" "[B" → RoadKit.slotOf Z O n d ≠ RoadKit.slotOf Z ST "coder" "B" → RoadKit.Fld Z h' x O n d w
/-- **new String(chars) AT A CALL, THE ARRAYS AS LISTS**: the char[] at b holds cs, not empty, no char above 255 -/
theorem backArv {p : Program} {l : Launch} {e : Env} {R : Room} {s : State} {args : Array Value} {below : List Frame} {len W : Nat} {Z : State} {a0 : Array Value} {h : Heap} (hZ : Z.Warmed39 s.vm) (hw : ∀ d ∈ words, d.before a0 Z = true) {kI : Nat} (wi : (Jvm.Cond.instantiable ST kI).before a0 Z = true)
    {x b : Addr} {k : ClassId} {zn z : Int32} {cs : List Int32} {dv v0 c0 : Value} (E : RoadKit.Exa Z h x ST) (V : RoadKit.Fld Z h x ST "value" "[B" v0) (C : RoadKit.Fld Z h x ST "coder" "B" c0) (K : RoadKit.Arv Z h b k .char zn (cs.map Value.int) dv) (S : RoadKit.Sta Z h ST "COMPACT_STRINGS" "Z" (.int z)) (hz : ¬ z = 0)
    (hlen : zn.toNatClampNeg = cs.length) (h0 : 0 < cs.length) (hbig : cs.length ≤ 536870912) (hall : ∀ c ∈ cs, ¬ 255 < c) (hfr : 4 ≤ R.frames) (hlo : W + 65 ≤ R.locals) :
    Back l R p e below s args New1.yN len W (fun P a => a = #[.ref x, .ref b] ∧ P.U.heap = h ∧ P.cells + 1 ≤ R.cells ∧ P.slots + cs.length ≤ R.slots)
      (fun P _ v B => ∃ L, QA Z x zn cs h v B.U.heap L ∧ B.locs = P.locs ++ L ∧ B.cells = P.cells + 1 ∧ B.slots = P.slots + cs.length) := by
  obtain ⟨A, K1, K2, K3, K4, K5, K6⟩ := K
  have e : A.slots.size = cs.length := K3.trans hlen
  have hat : ∀ (i : Nat) (hi : i < cs.length), A.slots[i]? = some (.int cs[i]) := fun i hi => by rw [K5 i (by omega)]; simp [List.getD_eq_getElem?_getD, hi]
  have hcv : ∀ (i : Nat) (hi : i < cs.length), cv A i = cs[i] := fun i hi => by unfold cv; rw [hat i hi]
  have hty : Typed .char A := fun i v hv => by
    have hi : i < A.slots.size := (Array.getElem?_eq_some_iff.mp hv).1
    have q := K5 i hi
    rw [hv] at q
    rw [Option.some.inj q]
    exact K6 i hi
  refine Back.mono (back hZ hw wi E V C K1 hty S hz (by omega) (by omega) (fun i hi => by rw [hcv i (by omega)]; exact hall _ (List.getElem_mem _)) hfr hlo) (fun P a hp => ⟨hp.1, hp.2.1, hp.2.2.1, by rw [e]; exact hp.2.2.2⟩) (fun P a v B hp hq => ?_)
  obtain ⟨L, ⟨q1, q2, q3, q4, q5, q6, q7, ⟨V', v1, v2, v3, v4, v5⟩, q9⟩, hl, hc, hs⟩ := hq
  refine ⟨L, ⟨q1, q2, q3, q4, q5, q6, q7, ⟨V'.cls, v3, V', v1, rfl, by rw [v4, e, hlen], K4, fun i hi => ?_, fun i hi => ?_⟩, q9⟩, hl, hc, by rw [hs, e]⟩
  · have hi' : i < cs.length := by omega
    rw [v5 i (by omega), hcv i hi']; simp [List.getD_eq_getElem?_getD, hi']
  · have hi' : i < cs.length := by omega
    simp only [List.getD_eq_getElem?_getD, List.getElem?_map, List.getElem?_eq_getElem hi', Option.map_some, Option.getD_some]
    exact fits_lo8 _
end StrChars.Road
namespace StrChars.Road
open Jvm Sem ClassFile Op Lib Jvm.Stand Jvm.Free Jvm.Free.XT
/-- WHAT COMES BACK, in the writer's own shape -/
def QV (Z : State) (x : Addr) (N : Int32) (bs : List Int32) (h : Heap) (n0 : Nat) (v : Option Value) (h' : Heap) (L : List Loc) : Prop := v = none ∧ RoadKit.Fr n0 L ∧ RoadKit.Keep h h' [x] ∧ RoadKit.Exa Z h' x ST ∧ RoadKit.Fld Z h' x ST "coder" "B" (.int 0) ∧
  ∃ (t : Addr) (kb : ClassId), n0 ≤ t ∧ h.size ≤ t ∧ ¬ t = x ∧ RoadKit.Fld Z h' x ST "value" "[B" (.ref t) ∧ RoadKit.Arv Z h' t kb .byte N (bs.map Value.int) (.int 0)
/-- **new String(chars) AT A CALL, FOR THE WRITER**: a char[] of n known ints, each 0 to 255 -/
theorem backV {p : Program} {l : Launch} {e : Env} {R : Room} {s : State} {args : Array Value} {below : List Frame} {len W : Nat} {Z : State} {a0 : Array Value} {h : Heap} (hZ : Z.Warmed39 s.vm) (hw : ∀ d ∈ words, d.before a0 Z = true) {kI : Nat} (wi : (Jvm.Cond.instantiable ST kI).before a0 Z = true)
    {x b : Addr} {kC : ClassId} {cs bs : List Int32} {d v0 c0 : Value} {z N : Int32} {n n0 : Nat} (hx0 : n0 ≤ x) (hh0 : n0 ≤ h.size) (E : RoadKit.Exa Z h x ST) (V : RoadKit.Fld Z h x ST "value" "[B" v0) (C : RoadKit.Fld Z h x ST "coder" "B" c0) (K : RoadKit.Arv Z h b kC .char N (cs.map Value.int) d) (S : RoadKit.Sta Z h ST "COMPACT_STRINGS" "Z" (.int z)) (hz : ¬ z = 0)
    (hn : cs.length = n) (hN : N = Int32.ofNat n) (l0 : 0 < n) (l2 : n ≤ 4000) (hp : ∀ c ∈ cs, ¬ c < 0 ∧ ¬ (255 : Int32) < c) (hb : bs = cs.map (fun c => c.toInt8.toInt32)) (hfr : 4 ≤ R.frames) (hlo : W + 65 ≤ R.locals) :
    Back l R p e below s args (⟨"java/lang/String", "<init>", "([C)V"⟩ : MethodName) len W (fun P a => a = #[.ref x, .ref b] ∧ P.U.heap = h ∧ P.cells + 1 ≤ R.cells ∧ P.slots + n ≤ R.slots)
      (fun P _ v B => ∃ L, QV Z x N bs h n0 v B.U.heap L ∧ B.locs = P.locs ++ L ∧ B.cells = P.cells + 1 ∧ B.slots = P.slots + n) := by
  subst hn hN hb
  refine Back.mono (backArv hZ hw wi E V C K S hz (n32 (by omega)) l0 (by omega) (fun c hc => (hp c hc).2) hfr hlo) (fun P a hp => hp) (fun P a v B hp hq => ?_)
  obtain ⟨L, ⟨q1, q2, q3, q4, q5, q6, q7, ⟨kb, v1, v2⟩, q9⟩, hl, hc, hs⟩ := hq
  exact ⟨L, ⟨q1, fun y hy => by rw [q2 y hy]; exact hx0, q3, q5, q7, h.size, kb, hh0, Nat.le_refl _, Nat.ne_of_gt E.lt, q6, by rw [List.map_map]; exact v2⟩, hl, hc, hs⟩
end StrChars.Road
namespace StrChars
open Jvm Sem ClassFile Op Lib Jvm.Stand Jvm.Free.XT Jvm.Free.ALB Jvm.Free.JM Jvm.Free
open Jvm.Lib.Cold (StaticIs)
def hi8 (x : Int32) : Int32 := lo8 (x >>> ((8 : Int32) &&& 31))
/-- what StringUTF16.getChar makes of two bytes -/
def pairCh (u v : Int32) : Int32 := (((u &&& 255) <<< ((0 : Int32) &&& 31)) ||| ((v &&& 255) <<< ((8 : Int32) &&& 31))).toUInt32.toUInt16.toUInt32.toInt32
theorem lo8_and (x : Int32) : (lo8 x &&& 255).toBitVec.toNat = x.toBitVec.toNat % 256 := by
  have h : (lo8 x).toBitVec = (x.toBitVec.signExtend 8).signExtend 32 := by rw [lo8, Int8.toBitVec_toInt32, Int32.toBitVec_toInt8]
  rw [Int32.toBitVec_and, BitVec.toNat_and, h]
  have e : ((x.toBitVec.signExtend 8).signExtend 32).toNat % 256 = x.toBitVec.toNat % 256 := by
    rw [BitVec.toNat_signExtend]
    have hlt := x.toBitVec.isLt
    simp only [BitVec.toNat_setWidth, BitVec.toNat_signExtend]
    split <;> split <;> omega
  rw [← e]
  exact Nat.and_two_pow_sub_one_eq_mod _ 8
theorem pair_says {c : Int32} (h0 : ¬ c < 0) (h1 : ¬ 65535 < c) : pairCh (lo8 c) (hi8 c) = c := by
  rw [Int32.lt_iff_toInt_lt] at h0 h1
  have e0 : (0 : Int32).toInt = 0 := rfl
  have e1 : (65535 : Int32).toInt = 65535 := rfl
  have hc : c.toInt = c.toBitVec.toNat := by
    have := c.toBitVec.isLt
    have e : c.toInt = c.toBitVec.toInt := rfl
    rw [e] at h0 h1
    rw [e]
    rw [BitVec.toInt_eq_toNat_cond] at h0 h1 ⊢
    split at h0 <;> split <;> omega
  have hn : c.toBitVec.toNat < 65536 := by omega
  have a1 := lo8_and c
  have a2 : (hi8 c &&& 255).toBitVec.toNat = c.toBitVec.toNat / 256 := by
    rw [hi8, lo8_and]
    have e : ((8 : Int32) &&& 31) = 8 := by decide
    rw [e, Int32.toBitVec_shiftRight]
    have e2 : ((8 : Int32).toBitVec.smod 32) = 8#32 := by decide
    rw [e2, BitVec.sshiftRight_eq', BitVec.toNat_sshiftRight_of_msb_false (by rw [BitVec.msb_eq_false_iff_two_mul_lt]; omega)]
    show c.toBitVec.toNat >>> 8 % 256 = _
    rw [Nat.shiftRight_eq_div_pow]
    omega
  unfold pairCh
  apply Int32.toBitVec_inj.mp
  apply BitVec.eq_of_toNat_eq
  have f0 : ((0 : Int32) &&& 31) = 0 := by decide
  have f8 : ((8 : Int32) &&& 31) = 8 := by decide
  rw [f0, f8]
  have g : (((lo8 c &&& 255) <<< (0 : Int32)) ||| ((hi8 c &&& 255) <<< (8 : Int32))).toBitVec.toNat = c.toBitVec.toNat := by
    rw [Int32.toBitVec_or, Int32.toBitVec_shiftLeft, Int32.toBitVec_shiftLeft]
    have s0 : ((0 : Int32).toBitVec.smod 32) = 0#32 := by decide
    have s8 : ((8 : Int32).toBitVec.smod 32) = 8#32 := by decide
    rw [s0, s8, BitVec.toNat_or]
    simp only [BitVec.shiftLeft_eq', BitVec.toNat_shiftLeft, a1, a2]
    show (c.toBitVec.toNat % 256) <<< 0 % 2 ^ 32 ||| (c.toBitVec.toNat / 256) <<< 8 % 2 ^ 32 = _
    rw [Nat.shiftLeft_zero, Nat.mod_eq_of_lt (show c.toBitVec.toNat % 256 < 2 ^ 32 by omega), Nat.mod_eq_of_lt (show (c.toBitVec.toNat / 256) <<< 8 < 2 ^ 32 by rw [Nat.shiftLeft_eq]; omega), Nat.or_comm, ← Nat.shiftLeft_add_eq_or_of_lt (by omega), Nat.shiftLeft_eq]
    omega
  show BitVec.toNat (((((lo8 c &&& 255) <<< (0 : Int32)) ||| ((hi8 c &&& 255) <<< (8 : Int32))).toBitVec.setWidth 16).setWidth 32) = _
  rw [BitVec.toNat_setWidth, BitVec.toNat_setWidth, g]
  omega
end StrChars
namespace StrChars
open Jvm Sem ClassFile Op Lib Jvm.Stand Jvm.Free.XT Jvm.Free.ALB Jvm.Free.JM Jvm.Free
open Jvm.Lib.Cold (StaticIs)
/-- the array's cell V codes the n chars f 0 .. f (n - 1) by the coder cd, as the JDK does: coder 1 just where some char is above 255 -/
def Cod (cd : Int32) (n : Nat) (f : Nat → Int32) (V : Cell) : Prop := (cd = 0 ∧ V.slots.size = n ∧ ∀ j, j < n → V.slots[j]? = some (.int (lo8 (f j))) ∧ ¬ 255 < f j) ∨ (cd = 1 ∧ V.slots.size = 2 * n ∧ (∀ j, j < n → V.slots[2 * j]? = some (.int (lo8 (f j))) ∧ V.slots[2 * j + 1]? = some (.int (hi8 (f j)))) ∧ ∃ j, j < n ∧ 255 < f j)
/-- **x is a String of the n chars f 0 .. f (n - 1)**, Latin-1 or UTF-16; its array at t has the cell V -/
def Txt (x t : Addr) (V : Cell) (cd : Int32) (n : Nat) (f : Nat → Int32) (U : State) : Prop := Exact "java/lang/String" x U ∧ Has x "java/lang/String" "value" "[B" (.ref t) U ∧ Has x "java/lang/String" "coder" "B" (.int cd) U ∧ XT.Arr .byte t V U ∧ Cod cd n f V ∧ ∀ j, j < n → ¬ f j < 0 ∧ ¬ 65535 < f j
theorem Txt.mv {x t : Addr} {V : Cell} {cd : Int32} {n : Nat} {f : Nat → Int32} {U U' : State} (h : Txt x t V cd n f U) (hal : U.vm.Alike U'.vm) (hh : U'.heap = U.heap) : Txt x t V cd n f U' := ⟨h.1.mv hal hh, h.2.1.mv hal hh, h.2.2.1.mv hal hh, h.2.2.2.1.mv hal hh, h.2.2.2.2⟩
end StrChars
namespace StrChars.Road
open Jvm Sem ClassFile Op Lib Jvm.Stand Jvm.Free Jvm.Free.XT
open Jvm.Lib.Cold (StaticIs)
theorem consq {a : Array Value} {s : State} {c : Jvm.Cond} {L : List Jvm.Cond} (h0 : c.before a s = true) (h : ∀ w ∈ L, w.before a s = true) : ∀ w ∈ c :: L, w.before a s = true := fun w hw => (List.mem_cons.mp hw).elim (fun e => e ▸ h0) (h w)
/-- the bytes of the chars cs, low before high -/
def wideBytes : List Int32 → List Value
  | [] => []
  | c :: cs => .int (lo8 c) :: .int (hi8 c) :: wideBytes cs
theorem wide_lo (d : Value) : ∀ (cs : List Int32) (j : Nat), j < cs.length → (wideBytes cs).getD (2 * j) d = .int (lo8 (cs.getD j 0))
  | [], j, h => absurd h (Nat.not_lt_zero j)
  | c :: cs, 0, _ => rfl
  | c :: cs, j + 1, h => by
    have q := wide_lo d cs j (by simpa using h)
    rw [show 2 * (j + 1) = 2 * j + 1 + 1 from by omega]
    simpa [wideBytes] using q
theorem wide_hi (d : Value) : ∀ (cs : List Int32) (j : Nat), j < cs.length → (wideBytes cs).getD (2 * j + 1) d = .int (hi8 (cs.getD j 0))
  | [], j, h => absurd h (Nat.not_lt_zero j)
  | c :: cs, 0, _ => rfl
  | c :: cs, j + 1, h => by
    have q := wide_hi d cs j (by simpa using h)
    rw [show 2 * (j + 1) + 1 = 2 * j + 1 + 1 + 1 from by omega]
    simpa [wideBytes] using q
theorem low_at (d : Value) (cs : List Int32) (j : Nat) (h : j < cs.length) : (cs.map fun c => Value.int (lo8 c)).getD j d = .int (lo8 (cs.getD j 0)) := by
  simp [List.getD_eq_getElem?_getD, h]
/-- an array of N2 bytes vs codes the chars cs by the coder cd -/
def CodA (cs : List Int32) (cd N2 : Int32) (vs : List Value) : Prop := (cd = 0 ∧ N2 = Int32.ofNat cs.length ∧ vs = (cs.map fun c => Value.int (lo8 c)) ∧ ∀ c ∈ cs, ¬ 255 < c) ∨ (cd = 1 ∧ N2 = Int32.ofNat (2 * cs.length) ∧ vs = wideBytes cs ∧ ∃ c ∈ cs, 255 < c)
theorem CodA.cod {cs : List Int32} {cd N2 : Int32} {vs : List Value} {V : Cell} (h : CodA cs cd N2 vs) (hn : 2 * cs.length < 2 ^ 31) (hs : V.slots.size = N2.toNatClampNeg) (hv : RoadKit.Has V vs (.int 0)) : Cod cd cs.length (fun j => cs.getD j 0) V := by
  rcases h with ⟨rfl, rfl, rfl, h⟩ | ⟨rfl, rfl, rfl, c, hc, hw⟩
  · rw [n32 (by omega)] at hs
    exact Or.inl ⟨rfl, hs, fun j hj => ⟨by rw [hv j (by omega), low_at _ _ _ hj], by
      have e : cs.getD j 0 = cs[j] := by simp [List.getD_eq_getElem?_getD, hj]
      show ¬ 255 < cs.getD j 0
      rw [e]; exact h _ (List.getElem_mem _)⟩⟩
  · rw [n32 (by omega)] at hs
    obtain ⟨j, hj, rfl⟩ := List.getElem_of_mem hc
    exact Or.inr ⟨rfl, hs, fun j hj => ⟨by rw [hv _ (by omega), wide_lo _ _ _ hj], by rw [hv _ (by omega), wide_hi _ _ _ hj]⟩, j, hj, by
      have e : cs.getD j 0 = cs[j] := by simp [List.getD_eq_getElem?_getD, hj]
      show 255 < cs.getD j 0
      rw [e]; exact hw⟩
/-- an object of exactly java/lang/String, its two fields found: as the laws ask it -/
theorem strObj {Z U : State} {a0 : Array Value} {kI : Nat} (wi : (Jvm.Cond.instantiable ST kI).before a0 Z = true) (al : Z.vm.Alike U.vm) {x : Addr} {v0 c0 : Value} (E : RoadKit.Exa Z U.heap x ST) (V : RoadKit.Fld Z U.heap x ST "value" "[B" v0) (C : RoadKit.Fld Z U.heap x ST "coder" "B" c0) :
    ∃ (D : Cell) (fV fC : Field), Blank ST x D U ∧ Found ST "value" "[B" fV U ∧ Found ST "coder" "B" fC U ∧ D.slots[fV.slot]? = some v0 ∧ D.slots[fC.slot]? = some c0 ∧ RoadKit.slotOf Z ST "value" "[B" = fV.slot ∧ RoadKit.slotOf Z ST "coder" "B" = fC.slot := by
  obtain ⟨D, cfV, kV, iV, fV, hD, gV, stV, knV, obV, asV, slV⟩ := V
  obtain ⟨D', cfC, kC, iC, fC, hD', gC, stC, -, -, asC, slC⟩ := C
  cases hD.symm.trans hD'
  obtain ⟨D2, kD, e1, e2, e3, e4, e5⟩ := E
  cases hD.symm.trans e1
  obtain ⟨c2, k2, i1, i2, i3, -⟩ := Cond.instantiable_spec wi
  cases e2.symm.trans i1
  cases e3.symm.trans i2
  obtain ⟨kU, u1, u2⟩ := al.2.2 _ _ e3
  exact ⟨D, fV, fC, ⟨hD, ⟨knV, fun q hq => by rw [hq] at obV; cases obV⟩, by rw [al.findClass]; exact e2, kU, u1, by rw [u2]; exact i3, by rw [u2]; exact e5 i3⟩, ⟨SBG.found_only al ⟨cfV, kV, iV, gV⟩, stV⟩, ⟨SBG.found_only al ⟨cfC, kC, iC, gC⟩, stC⟩, slV, slC, by simp [RoadKit.slotOf, gV], by simp [RoadKit.slotOf, gC]⟩
theorem sta_is {Z U : State} (al : Z.vm.Alike U.vm) {C n d : String} {v : Value} (S : RoadKit.Sta Z U.heap C n d v) : StaticIs U C n d v := by
  obtain ⟨cfS, iS, kS, fS, st, cS, t1, t2, t3, t4, t5, t6, t7⟩ := S
  exact StaticIs.there (s := { Z with heap := U.heap }) ⟨cfS, iS, kS, fS, st, cS, t1, t2, t3, t4, t5, (fun q => by rw [q] at t6; cases t6), t7⟩ al rfl
end StrChars.Road
namespace StrChars
open Jvm Sem ClassFile Op Lib Jvm.Stand Jvm.Free.XT Jvm.Free.ALB Jvm.Free.JM Jvm.Free
open Jvm.Lib.Cold (StaticIs)
/-- what place i of a byte[]'s cell holds -/
def yv (A : Cell) (i : Nat) : Int32 := match A.slots[i]? with | some (.int x) => x | _ => 0
theorem yv_get {a : Addr} {A : Cell} {U : State} (h : XT.Arr .byte a A U) (ht : Typed .byte A) {i : Nat} (hi : i < A.slots.size) : A.slots[i]? = some (.int (yv A i)) := by
  have e := Array.getElem?_eq_getElem hi
  have f := ht i _ e
  unfold yv; rw [e]
  generalize A.slots[i] = v at f
  cases v <;> simp [fits] at f ⊢
/-- the two arrays are equal, place for place -/
def EqC (A B : Cell) : Prop := A.slots.size = B.slots.size ∧ ∀ i, i < A.slots.size → yv A i = yv B i
/-- a boolean that says whether p -/
def Says01 (q : Prop) (r : Option Value) (s u : State) : Prop := ∃ v : Int32, r = some (.int v) ∧ u.heap = s.heap ∧ ((v = 1 ∧ q) ∨ (v = 0 ∧ ¬ q))
theorem Says01.mv {q : Prop} : ∀ r (U U' V V' : State), U'.heap = U.heap → V.vm.Alike V'.vm → V'.heap = V.heap → Says01 q r U V → Says01 q r U' V' :=
  fun r U U' V V' h1 _ h2 ⟨v, a, b, c⟩ => ⟨v, a, by rw [h1, h2]; exact b, c⟩
namespace LEq
def yN : MethodName := ⟨"java/lang/StringLatin1", "equals", "([B[B)Z"⟩
abbrev yB : ByteArray := jdk_43_method_13_code
theorem d0 : decode yB 0 = .ok (.aload_n 0, 1) := by decide +kernel
theorem d1 : decode yB 1 = .ok (.arraylength, 1) := by decide +kernel
theorem d2 : decode yB 2 = .ok (.aload_n 1, 1) := by decide +kernel
theorem d3 : decode yB 3 = .ok (.arraylength, 1) := by decide +kernel
theorem d4 : decode yB 4 = .ok (.if_icmp (.ne) 30, 3) := by decide +kernel
theorem d7 : decode yB 7 = .ok (.iconst 0, 1) := by decide +kernel
theorem d8 : decode yB 8 = .ok (.istore_n 2, 1) := by decide +kernel
theorem d9 : decode yB 9 = .ok (.iload_n 2, 1) := by decide +kernel
theorem d10 : decode yB 10 = .ok (.aload_n 0, 1) := by decide +kernel
theorem d11 : decode yB 11 = .ok (.arraylength, 1) := by decide +kernel
theorem d12 : decode yB 12 = .ok (.if_icmp (.ge) 20, 3) := by decide +kernel
theorem d15 : decode yB 15 = .ok (.aload_n 0, 1) := by decide +kernel
theorem d16 : decode yB 16 = .ok (.iload_n 2, 1) := by decide +kernel
theorem d17 : decode yB 17 = .ok (.baload, 1) := by decide +kernel
theorem d18 : decode yB 18 = .ok (.aload_n 1, 1) := by decide +kernel
theorem d19 : decode yB 19 = .ok (.iload_n 2, 1) := by decide +kernel
theorem d20 : decode yB 20 = .ok (.baload, 1) := by decide +kernel
theorem d21 : decode yB 21 = .ok (.if_icmp (.eq) 5, 3) := by decide +kernel
theorem d24 : decode yB 24 = .ok (.iconst 0, 1) := by decide +kernel
theorem d25 : decode yB 25 = .ok (.ireturn, 1) := by decide +kernel
theorem d26 : decode yB 26 = .ok (.iinc 2 1, 3) := by decide +kernel
theorem d29 : decode yB 29 = .ok (.goto (-20), 3) := by decide +kernel
theorem d32 : decode yB 32 = .ok (.iconst 1, 1) := by decide +kernel
theorem d33 : decode yB 33 = .ok (.ireturn, 1) := by decide +kernel
theorem d34 : decode yB 34 = .ok (.iconst 0, 1) := by decide +kernel
theorem d35 : decode yB 35 = .ok (.ireturn, 1) := by decide +kernel
def site : List Cond := []
def tab : Cond := tabOf yN yB 3 (some .boolean) site
def P (a : Addr) (A : Cell) (b : Addr) (B : Cell) (args : Array Value) (s : State) : Prop := args = #[.ref a, .ref b] ∧ XT.Arr .byte a A s ∧ Typed .byte A ∧ XT.Arr .byte b B s ∧ Typed .byte B
/-- whether two byte[] are equal, place for place -/
theorem law (l : Launch) (a : Addr) (A : Cell) (b : Addr) (B : Cell) : Law l yN 2 2 0 0 yB 3 (some .boolean) site (P a A b B) (Says01 (EqC A B)) [] 0 0 := by
  refine Law.of_walk (plainFor_of_name (by decide +kernel)) (by decide +kernel) (by decide +kernel) (by decide) (fun _ _ h => by rw [h.1]; rfl) (fun _ U U' hal hh h => ⟨h.1, h.2.1.mv hal hh, h.2.2.1, h.2.2.2.1.mv hal hh, h.2.2.2.2⟩) (fun r U U' V V' h1 hal h2 h => Says01.mv r U U' V V' h1 hal h2 h) ?_
  intro p e s m args below meth c s₁ X0 hexec hbytes hml hret hlk hnm hown hh0 W hP
  obtain ⟨rfl, hA, tA, hB, tB⟩ := hP
  have a31 := hA.2.2.2
  have b31 := hB.2.2.2
  have hA0 := hA.mv X0.warmed.alike hh0
  have hB0 := hB.mv X0.warmed.alike hh0
  have c1 : Steps p.tables e below (s₁.setTop (entryFrame m #[.ref a, .ref b] 3)) (s₁.setTop (mkF m 0 #[.val (.ref a), .val (.ref b), .unset] [])) := entry rfl
  have c2 : Steps p.tables e below (s₁.setTop (entryFrame m #[.ref a, .ref b] 3)) (s₁.setTop (mkF m 4 #[.val (.ref a), .val (.ref b), .unset] [.int (Int32.ofNat B.slots.size), .int (Int32.ofNat A.slots.size)])) := c1.trans (by
    refine XS.aloadN X0.here hexec rfl (hb hbytes d0) rfl rfl ?_
    refine X0.alen hexec hA0 rfl rfl (hb hbytes d1) ?_
    refine XS.aloadN X0.here hexec rfl (hb hbytes d2) rfl rfl ?_
    refine X0.alen hexec hB0 rfl rfl (hb hbytes d3) ?_
    exact Steps.refl _)
  by_cases hs : A.slots.size = B.slots.size
  · have c3 : Steps p.tables e below (s₁.setTop (entryFrame m #[.ref a, .ref b] 3)) (s₁.setTop (mkF m 9 #[.val (.ref a), .val (.ref b), .val (.int 0)] [])) := c2.trans (by
      refine XS.icmpNo X0.here hexec rfl (hb hbytes d4) rfl (ii_ne_f (by rw [hs])) ?_
      refine iconstV X0.here hexec rfl 0 (hb hbytes d7) (by decide) ?_
      refine XS.istoreN X0.here hexec rfl (hb hbytes d8) rfl rfl ?_
      exact Steps.refl _)
    have loop : ∀ (r i : Nat), i + r = A.slots.size → (∀ j, j < i → yv A j = yv B j) → Steps p.tables e below (s₁.setTop (entryFrame m #[.ref a, .ref b] 3)) (s₁.setTop (mkF m 9 #[.val (.ref a), .val (.ref b), .val (.int (Int32.ofNat i))] [])) → ∃ (pc : Nat) (Ls : Array Slot) (v : Int32), (pc = 25 ∨ pc = 33) ∧ ((v = 1 ∧ EqC A B) ∨ (v = 0 ∧ ¬ EqC A B)) ∧ Steps p.tables e below (s₁.setTop (entryFrame m #[.ref a, .ref b] 3)) (s₁.setTop (mkF m pc Ls [.int v])) := by
      intro r
      induction r with
      | zero =>
        intro i hi he cl
        exact ⟨33, _, 1, Or.inr rfl, Or.inl ⟨rfl, hs, fun j hj => he j (by omega)⟩, cl.trans (by
          refine XS.iloadN X0.here hexec rfl (hb hbytes d9) rfl ?_
          refine XS.aloadN X0.here hexec rfl (hb hbytes d10) rfl rfl ?_
          refine X0.alen hexec hA0 rfl rfl (hb hbytes d11) ?_
          refine XS.icmpYes X0.here hexec rfl (pc0 := 12) rfl (hb hbytes d12) rfl (ii_ge_t (nlt32 (by omega) (by omega))) (by decide) rfl ?_
          refine iconstV X0.here hexec rfl 1 (hb hbytes d32) (by decide) ?_
          exact Steps.refl _)⟩
      | succ r ih =>
        intro i hi he cl
        have c4 : Steps p.tables e below (s₁.setTop (entryFrame m #[.ref a, .ref b] 3)) (s₁.setTop (mkF m 21 #[.val (.ref a), .val (.ref b), .val (.int (Int32.ofNat i))] [.int (yv B i), .int (yv A i)])) := cl.trans (by
          refine XS.iloadN X0.here hexec rfl (hb hbytes d9) rfl ?_
          refine XS.aloadN X0.here hexec rfl (hb hbytes d10) rfl rfl ?_
          refine X0.alen hexec hA0 rfl rfl (hb hbytes d11) ?_
          refine XS.icmpNo X0.here hexec rfl (hb hbytes d12) rfl (ii_ge_f (lt32 (by omega) (by omega))) ?_
          refine XS.aloadN X0.here hexec rfl (hb hbytes d15) rfl rfl ?_
          refine XS.iloadN X0.here hexec rfl (hb hbytes d16) rfl ?_
          refine X0.aget hexec hA0 rfl (yv_get hA tA (i := i) (by omega)) rfl rfl (hb hbytes d17) ?_
          refine XS.aloadN X0.here hexec rfl (hb hbytes d18) rfl rfl ?_
          refine XS.iloadN X0.here hexec rfl (hb hbytes d19) rfl ?_
          refine X0.aget hexec hB0 rfl (yv_get hB tB (i := i) (by omega)) rfl rfl (hb hbytes d20) ?_
          exact Steps.refl _)
        by_cases hv : yv A i = yv B i
        · have c5 : Steps p.tables e below (s₁.setTop (entryFrame m #[.ref a, .ref b] 3)) (s₁.setTop (mkF m 9 #[.val (.ref a), .val (.ref b), .val (.int (Int32.ofNat i + 1))] [])) := c4.trans (by
            refine XS.icmpYes X0.here hexec rfl (pc0 := 21) rfl (hb hbytes d21) rfl (ii_eq_t hv) (by decide) rfl ?_
            refine iincV X0.here hexec rfl 1 (hb hbytes d26) (by decide) rfl rfl ?_
            refine XS.goto X0.here hexec rfl (pc0 := 29) rfl (hb hbytes d29) (by decide) rfl ?_
            exact Steps.refl _)
          rw [succ32] at c5
          exact ih (i + 1) (by omega) (fun j hj => by
            by_cases e : j = i
            · rw [e]; exact hv
            · exact he j (by omega)) c5
        · exact ⟨25, _, 0, Or.inl rfl, Or.inr ⟨rfl, fun q => hv (q.2 i (by omega))⟩, c4.trans (by
            refine XS.icmpNo X0.here hexec rfl (hb hbytes d21) rfl (ii_eq_f hv) ?_
            refine iconstV X0.here hexec rfl 0 (hb hbytes d24) (by decide) ?_
            exact Steps.refl _)⟩
    obtain ⟨pc, Ls, v, hpc, hv, cz⟩ := loop A.slots.size 0 (by omega) (fun j hj => absurd hj (Nat.not_lt_zero j)) c3
    have nv : narrow .boolean (.int v) = .int v := by rcases hv with ⟨rfl, -⟩ | ⟨rfl, -⟩ <;> rfl
    rcases hpc with rfl | rfl
    · exact ⟨s₁, some (.int v), _, _, _, X0, rfl, rfl, rfl, (fun h => by cases h), ⟨v, rfl, hh0, hv⟩, fun fs hl => cz.trans (X0.ireturnOut hexec hret nv (Or.inr (Or.inl rfl)) (hb hbytes d25) hl)⟩
    · exact ⟨s₁, some (.int v), _, _, _, X0, rfl, rfl, rfl, (fun h => by cases h), ⟨v, rfl, hh0, hv⟩, fun fs hl => cz.trans (X0.ireturnOut hexec hret nv (Or.inr (Or.inl rfl)) (hb hbytes d33) hl)⟩
  · have c3 : Steps p.tables e below (s₁.setTop (entryFrame m #[.ref a, .ref b] 3)) (s₁.setTop (mkF m 35 #[.val (.ref a), .val (.ref b), .unset] [.int 0])) := c2.trans (by
      refine XS.icmpYes X0.here hexec rfl (pc0 := 4) rfl (hb hbytes d4) rfl (ii_ne_t (ne32 a31 b31 hs)) (by decide) rfl ?_
      refine iconstV X0.here hexec rfl 0 (hb hbytes d34) (by decide) ?_
      exact Steps.refl _)
    exact ⟨s₁, some (.int 0), _, _, _, X0, rfl, rfl, rfl, (fun h => by cases h), ⟨0, rfl, hh0, Or.inr ⟨rfl, fun q => hs q.1⟩⟩, fun fs hl => c3.trans (X0.ireturnOut hexec hret rfl (Or.inr (Or.inl rfl)) (hb hbytes d35) hl)⟩
end LEq
theorem Cod.ty {cd : Int32} {n : Nat} {f : Nat → Int32} {V : Cell} (h : Cod cd n f V) : Typed .byte V := fun i v hv => by
  have hi : i < V.slots.size := (Array.getElem?_eq_some_iff.mp hv).1
  rcases h with ⟨-, k1, k2⟩ | ⟨-, k1, k2, -⟩
  · rw [(k2 i (by omega)).1] at hv; cases hv; exact fits_lo8 _
  · rcases Nat.mod_two_eq_zero_or_one i with e | e
    · obtain ⟨j, rfl⟩ : ∃ j, i = 2 * j := ⟨i / 2, by omega⟩
      rw [(k2 j (by omega)).1] at hv; cases hv; exact fits_lo8 _
    · obtain ⟨j, rfl⟩ : ∃ j, i = 2 * j + 1 := ⟨i / 2, by omega⟩
      rw [(k2 j (by omega)).2] at hv; cases hv; exact fits_lo8 _
/-- the same text -/
def SameT (n : Nat) (f : Nat → Int32) (k : Nat) (g : Nat → Int32) : Prop := n = k ∧ ∀ j, j < n → f j = g j
theorem lo8_inj {x y : Int32} (h0 : ¬ x < 0) (h1 : ¬ 255 < x) (k0 : ¬ y < 0) (k1 : ¬ 255 < y) (h : lo8 x = lo8 y) : x = y := by
  rw [← lo8_mask h0 h1, ← lo8_mask k0 k1, h]
/-- arrays coded by one coder are equal just where the texts are -/
theorem Cod.eqv {cd : Int32} {n k : Nat} {f g : Nat → Int32} {V V' : Cell} (h : Cod cd n f V) (h' : Cod cd k g V') (hf : ∀ j, j < n → ¬ f j < 0 ∧ ¬ 65535 < f j) (hg : ∀ j, j < k → ¬ g j < 0 ∧ ¬ 65535 < g j) : EqC V V' ↔ SameT n f k g := by
  have yvv : ∀ {W : Cell} {i : Nat} {x : Int32}, W.slots[i]? = some (.int x) → yv W i = x := fun q => by unfold yv; rw [q]
  rcases h with ⟨rfl, k1, k2⟩ | ⟨rfl, k1, k2, -⟩
  · rcases h' with ⟨-, m1, m2⟩ | ⟨e, -⟩
    · constructor
      · rintro ⟨e1, e2⟩
        refine ⟨by omega, fun j hj => ?_⟩
        have q := e2 j (by omega)
        rw [yvv (k2 j hj).1, yvv (m2 j (by omega)).1] at q
        exact lo8_inj (hf j hj).1 (k2 j hj).2 (hg j (by omega)).1 (m2 j (by omega)).2 q
      · rintro ⟨rfl, e2⟩
        refine ⟨by omega, fun j hj => ?_⟩
        rw [yvv (k2 j (by omega)).1, yvv (m2 j (by omega)).1, e2 j (by omega)]
    · exact absurd e (by decide)
  · rcases h' with ⟨e, -⟩ | ⟨-, m1, m2, -⟩
    · exact absurd e (by decide)
    · constructor
      · rintro ⟨e1, e2⟩
        refine ⟨by omega, fun j hj => ?_⟩
        have q1 := e2 (2 * j) (by omega)
        have q2 := e2 (2 * j + 1) (by omega)
        rw [yvv (k2 j hj).1, yvv (m2 j (by omega)).1] at q1
        rw [yvv (k2 j hj).2, yvv (m2 j (by omega)).2] at q2
        rw [← pair_says (hf j hj).1 (hf j hj).2, ← pair_says (hg j (by omega)).1 (hg j (by omega)).2, q1, q2]
      · rintro ⟨rfl, e2⟩
        refine ⟨by omega, fun i hi => ?_⟩
        rcases Nat.mod_two_eq_zero_or_one i with e | e
        · obtain ⟨j, rfl⟩ : ∃ j, i = 2 * j := ⟨i / 2, by omega⟩
          rw [yvv (k2 j (by omega)).1, yvv (m2 j (by omega)).1, e2 j (by omega)]
        · obtain ⟨j, rfl⟩ : ∃ j, i = 2 * j + 1 := ⟨i / 2, by omega⟩
          rw [yvv (k2 j (by omega)).2, yvv (m2 j (by omega)).2, e2 j (by omega)]
/-- two codings differ: so do the texts -/
theorem Cod.dif {cd cd' : Int32} {n k : Nat} {f g : Nat → Int32} {V V' : Cell} (h : Cod cd n f V) (h' : Cod cd' k g V') (hne : ¬ cd = cd') : ¬ SameT n f k g := by
  rintro ⟨rfl, e⟩
  rcases h with ⟨rfl, -, k2⟩ | ⟨rfl, -, -, j, hj, hw⟩
  · rcases h' with ⟨rfl, -⟩ | ⟨-, -, -, j, hj, hw⟩
    · exact hne rfl
    · exact (k2 j hj).2 (by rw [e j hj]; exact hw)
  · rcases h' with ⟨-, -, m2⟩ | ⟨rfl, -⟩
    · exact (m2 j hj).2 (by rw [← e j hj]; exact hw)
    · exact hne rfl
/-- an object of exactly C is an instance of C -/
theorem cinst {p : Program} {l : Launch} {e : Env} {R : Room} {s : State} {m : MethodId} {args : Array Value} {below : List Frame} {meth : Method} {c : Code} {T : State} {locs : List Loc} {cells slots : Nat} (X : Stand p l e R s m args below meth c T locs cells slots) (hexec : p.tables.exec = Jvm.exec) {own C : String} {index : Nat} (hown : s.vm.findClass own = some m.cls) (hlink : (Cond.classLink own index C).before args s = true) {a : Addr} (hE : Exact C a T)
    {g : JFrame} (hg : g.method = m) {rest : List Value} (hstack : g.stack = .ref a :: rest) (hdg : decode c.code g.pc = .ok (.instanceof index, 3)) :
    ∃ T', Stand p l e R s m args below meth c T' locs cells slots ∧ T'.heap = T.heap ∧ ∀ target, Steps p.tables e below (T'.setTop { g with pc := g.pc + 3, stack := .int 1 :: rest }) target → Steps p.tables e below (T.setTop g) target := by
  obtain ⟨cB, h1, D, h2, h3, h4⟩ := hE
  have h1' : s.vm.findClass C = some cB := by rw [← X.warmed.alike.findClass]; exact h1
  obtain ⟨vm', X', st⟩ := X.instanceofYes hexec hown hlink h2 h4 h1' (by rw [h3]; exact Jvm.Free.SB.assignable_self _ _) hg hstack hdg
  exact ⟨_, X', rfl, st⟩
theorem cself {p : Program} {l : Launch} {e : Env} {R : Room} {s : State} {m : MethodId} {args : Array Value} {below : List Frame} {meth : Method} {c : Code} {T : State} {locs : List Loc} {cells slots : Nat} (X : Stand p l e R s m args below meth c T locs cells slots) (hexec : p.tables.exec = Jvm.exec) {own C : String} {index : Nat} (hown : s.vm.findClass own = some m.cls) (hlink : (Cond.classLink own index C).before args s = true) {a : Addr} (hE : Exact C a T)
    {g : JFrame} (hg : g.method = m) {rest : List Value} (hstack : g.stack = .ref a :: rest) (hdg : decode c.code g.pc = .ok (.checkcast index, 3)) :
    ∃ T', Stand p l e R s m args below meth c T' locs cells slots ∧ T'.heap = T.heap ∧ ∀ target, Steps p.tables e below (T'.setTop { g with pc := g.pc + 3, stack := .ref a :: rest }) target → Steps p.tables e below (T.setTop g) target := by
  obtain ⟨cB, h1, D, h2, h3, h4⟩ := hE
  have h1' : s.vm.findClass C = some cB := by rw [← X.warmed.alike.findClass]; exact h1
  obtain ⟨vm', X', st⟩ := X.checkcastYes hexec hown hlink h2 h4 h1' (by rw [h3]; exact Jvm.Free.SB.assignable_self _ _) hg hstack hdg
  exact ⟨_, X', rfl, fun t h => st t (by rw [← hstack] at h; exact h)⟩
namespace SEq
def yN : MethodName := ⟨"java/lang/String", "equals", "(Ljava/lang/Object;)Z"⟩
abbrev yB : ByteArray := jdk_42_method_66_code
theorem d0 : decode yB 0 = .ok (.aload_n 0, 1) := by decide +kernel
theorem d1 : decode yB 1 = .ok (.aload_n 1, 1) := by decide +kernel
theorem d2 : decode yB 2 = .ok (.if_acmp (.ne) 5, 3) := by decide +kernel
theorem d5 : decode yB 5 = .ok (.iconst 1, 1) := by decide +kernel
theorem d6 : decode yB 6 = .ok (.ireturn, 1) := by decide +kernel
theorem d7 : decode yB 7 = .ok (.aload_n 1, 1) := by decide +kernel
theorem d8 : decode yB 8 = .ok (.instanceof 10, 3) := by decide +kernel
theorem d11 : decode yB 11 = .ok (.ifCond (.eq) 43, 3) := by decide +kernel
theorem d14 : decode yB 14 = .ok (.aload_n 1, 1) := by decide +kernel
theorem d15 : decode yB 15 = .ok (.checkcast 10, 3) := by decide +kernel
theorem d18 : decode yB 18 = .ok (.astore_n 2, 1) := by decide +kernel
theorem d19 : decode yB 19 = .ok (.getstatic 38, 3) := by decide +kernel
theorem d22 : decode yB 22 = .ok (.ifCond (.eq) 14, 3) := by decide +kernel
theorem d25 : decode yB 25 = .ok (.aload_n 0, 1) := by decide +kernel
theorem d26 : decode yB 26 = .ok (.getfield 15, 3) := by decide +kernel
theorem d29 : decode yB 29 = .ok (.aload_n 2, 1) := by decide +kernel
theorem d30 : decode yB 30 = .ok (.getfield 15, 3) := by decide +kernel
theorem d33 : decode yB 33 = .ok (.if_icmp (.ne) 21, 3) := by decide +kernel
theorem d36 : decode yB 36 = .ok (.aload_n 0, 1) := by decide +kernel
theorem d37 : decode yB 37 = .ok (.getfield 9, 3) := by decide +kernel
theorem d40 : decode yB 40 = .ok (.aload_n 2, 1) := by decide +kernel
theorem d41 : decode yB 41 = .ok (.getfield 9, 3) := by decide +kernel
theorem d44 : decode yB 44 = .ok (.invokestatic 541, 3) := by decide +kernel
theorem d47 : decode yB 47 = .ok (.ifCond (.eq) 7, 3) := by decide +kernel
theorem d50 : decode yB 50 = .ok (.iconst 1, 1) := by decide +kernel
theorem d51 : decode yB 51 = .ok (.goto 4, 3) := by decide +kernel
theorem d54 : decode yB 54 = .ok (.iconst 0, 1) := by decide +kernel
theorem d55 : decode yB 55 = .ok (.ireturn, 1) := by decide +kernel
def site : List Cond := [.classLink "java/lang/String" 10 "java/lang/String", .fieldLink "java/lang/String" 38 "java/lang/String" "COMPACT_STRINGS" "Z", .fieldLink "java/lang/String" 15 "java/lang/String" "coder" "B", .fieldLink "java/lang/String" 9 "java/lang/String" "value" "[B", LEq.tab] ++ staticW "java/lang/String" 541 LEq.yN
def tab : Cond := tabOf yN yB 3 (some .boolean) site
def P (x t : Addr) (V : Cell) (cd : Int32) (n : Nat) (f : Nat → Int32) (y t' : Addr) (V' : Cell) (cd' : Int32) (k : Nat) (g : Nat → Int32) (z : Int32) (args : Array Value) (s : State) : Prop := args = #[.ref x, .ref y] ∧ Txt x t V cd n f s ∧ Txt y t' V' cd' k g s ∧ StaticIs s "java/lang/String" "COMPACT_STRINGS" "Z" (.int z) ∧ ¬ z = 0
/-- equals(Object) of two Strings: whether the texts are the same -/
theorem law (l : Launch) (x t : Addr) (V : Cell) (cd : Int32) (n : Nat) (f : Nat → Int32) (y t' : Addr) (V' : Cell) (cd' : Int32) (k : Nat) (g : Nat → Int32) (z : Int32) : Law l yN 2 1 1 14 yB 3 (some .boolean) site (P x t V cd n f y t' V' cd' k g z) (Says01 (SameT n f k g)) [] 0 0 := by
  refine Law.of_walk (plainFor_of_name (by decide +kernel)) (by decide +kernel) (by decide +kernel) (by decide) (fun _ _ h => by rw [h.1]; rfl) (fun _ U U' hal hh h => ⟨h.1, h.2.1.mv hal hh, h.2.2.1.mv hal hh, h.2.2.2.1.there hal hh, h.2.2.2.2⟩) (fun r U U' V V' h1 hal h2 h => Says01.mv r U U' V V' h1 hal h2 h) ?_
  intro p e s m args below meth c s₁ X0 hexec hbytes hml hret hlk hnm hown hh0 W hP
  obtain ⟨rfl, hx, hy, s1, hz⟩ := hP
  have c1 : Steps p.tables e below (s₁.setTop (entryFrame m #[.ref x, .ref y] 3)) (s₁.setTop (mkF m 2 #[.val (.ref x), .val (.ref y), .unset] [.ref y, .ref x])) := Steps.trans (entry rfl) (by
    show Steps p.tables e below (s₁.setTop (mkF m 0 #[.val (.ref x), .val (.ref y), .unset] [])) _
    refine XS.aloadN X0.here hexec rfl (hb hbytes d0) rfl rfl ?_
    refine XS.aloadN X0.here hexec rfl (hb hbytes d1) rfl rfl ?_
    exact Steps.refl _)
  by_cases hxy : x = y
  · have c2 : Steps p.tables e below (s₁.setTop (entryFrame m #[.ref x, .ref y] 3)) (s₁.setTop (mkF m 6 #[.val (.ref x), .val (.ref y), .unset] [.int 1])) := c1.trans (by
      refine acmpNo X0.here hexec rfl (hb hbytes d2) rfl rfl rfl (by simp [acmp, hxy]) ?_
      refine iconstV X0.here hexec rfl 1 (hb hbytes d5) (by decide) ?_
      exact Steps.refl _)
    subst hxy
    have ec : cd = cd' := by
      obtain ⟨D, fd, a1, a2, a3⟩ := hx.2.2.1
      obtain ⟨D', fd', b1, b2, b3⟩ := hy.2.2.1
      cases a1.symm.trans b1
      obtain ⟨q1, q2, q3, q4⟩ := a2.1
      obtain ⟨r1, r2, r3, r4⟩ := b2.1
      cases q4.symm.trans r4
      cases a3.symm.trans b3; rfl
    have et : t = t' := by
      obtain ⟨D, fd, a1, a2, a3⟩ := hx.2.1
      obtain ⟨D', fd', b1, b2, b3⟩ := hy.2.1
      cases a1.symm.trans b1
      obtain ⟨q1, q2, q3, q4⟩ := a2.1
      obtain ⟨r1, r2, r3, r4⟩ := b2.1
      cases q4.symm.trans r4
      cases a3.symm.trans b3; rfl
    subst ec et
    have ev : V = V' := by cases hx.2.2.2.1.1.symm.trans hy.2.2.2.1.1; rfl
    subst ev
    have hs : SameT n f k g := (Cod.eqv hx.2.2.2.2.1 hy.2.2.2.2.1 hx.2.2.2.2.2 hy.2.2.2.2.2).mp ⟨rfl, fun _ _ => rfl⟩
    exact ⟨s₁, some (.int 1), _, _, _, X0, rfl, rfl, rfl, (fun h => by cases h), ⟨1, rfl, hh0, Or.inl ⟨rfl, hs⟩⟩, fun fs hl => c2.trans (X0.ireturnOut hexec hret rfl (Or.inr (Or.inl rfl)) (hb hbytes d6) hl)⟩
  · have c2 : Steps p.tables e below (s₁.setTop (entryFrame m #[.ref x, .ref y] 3)) (s₁.setTop (mkF m 8 #[.val (.ref x), .val (.ref y), .unset] [.ref y])) := c1.trans (by
      refine acmpYes X0.here hexec rfl (pc0 := 2) rfl (hb hbytes d2) rfl rfl rfl (by simp [acmp, hxy]) (by decide) rfl ?_
      refine XS.aloadN X0.here hexec rfl (hb hbytes d7) rfl rfl ?_
      exact Steps.refl _)
    obtain ⟨T3, X3, q3, st3⟩ := cinst X0 hexec hown (wk W (.classLink "java/lang/String" 10 "java/lang/String")) (hy.mv X0.warmed.alike hh0).1 (g := (mkF m 8 #[.val (.ref x), .val (.ref y), .unset] [.ref y])) rfl (rest := []) rfl (hb hbytes d8)
    have hh3 := q3.trans hh0
    have c4 : Steps p.tables e below (s₁.setTop (entryFrame m #[.ref x, .ref y] 3)) (T3.setTop (mkF m 15 #[.val (.ref x), .val (.ref y), .unset] [.ref y])) := (c2.trans (st3 _ (Steps.refl _))).trans (by
      refine XS.ifNo X3.here hexec rfl (hb hbytes d11) rfl (i0_eq_f (by decide)) ?_
      refine XS.aloadN X3.here hexec rfl (hb hbytes d14) rfl rfl ?_
      exact Steps.refl _)
    obtain ⟨T5, X5, q5, st5⟩ := cself X3 hexec hown (wk W (.classLink "java/lang/String" 10 "java/lang/String")) (hy.mv X3.warmed.alike hh3).1 (g := (mkF m 15 #[.val (.ref x), .val (.ref y), .unset] [.ref y])) rfl (rest := []) rfl (hb hbytes d15)
    have hh5 := q5.trans hh3
    have c6 : Steps p.tables e below (s₁.setTop (entryFrame m #[.ref x, .ref y] 3)) (T5.setTop (mkF m 19 #[.val (.ref x), .val (.ref y), .val (.ref y)] [])) := (c4.trans (st5 _ (Steps.refl _))).trans (by
      refine XS.astoreN X5.here hexec rfl (hb hbytes d18) rfl rfl rfl ?_
      exact Steps.refl _)
    obtain ⟨T7, X7, q7, st7⟩ := X5.sget hexec hown (wk W (.fieldLink "java/lang/String" 38 "java/lang/String" "COMPACT_STRINGS" "Z")) s1 (fun _ _ h => by rw [hh5]; exact h) (g := (mkF m 19 #[.val (.ref x), .val (.ref y), .val (.ref y)] [])) rfl (hb hbytes d19)
    have hh7 := q7.trans hh5
    have c8 : Steps p.tables e below (s₁.setTop (entryFrame m #[.ref x, .ref y] 3)) (T7.setTop (mkF m 26 #[.val (.ref x), .val (.ref y), .val (.ref y)] [.ref x])) := (c6.trans (st7 _ (Steps.refl _))).trans (by
      refine XS.ifNo X7.here hexec rfl (hb hbytes d22) rfl (i0_eq_f hz) ?_
      refine XS.aloadN X7.here hexec rfl (hb hbytes d25) rfl rfl ?_
      exact Steps.refl _)
    obtain ⟨T9, X9, q9, st9⟩ := X7.hget hexec hown (wk W (.fieldLink "java/lang/String" 15 "java/lang/String" "coder" "B")) (hx.mv X7.warmed.alike hh7).2.2.1 (g := (mkF m 26 #[.val (.ref x), .val (.ref y), .val (.ref y)] [.ref x])) rfl (rest := []) rfl (hb hbytes d26)
    have hh9 := q9.trans hh7
    have c10 : Steps p.tables e below (s₁.setTop (entryFrame m #[.ref x, .ref y] 3)) (T9.setTop (mkF m 30 #[.val (.ref x), .val (.ref y), .val (.ref y)] [.ref y, .int cd])) := (c8.trans (st9 _ (Steps.refl _))).trans (by
      refine XS.aloadN X9.here hexec rfl (hb hbytes d29) rfl rfl ?_
      exact Steps.refl _)
    obtain ⟨T11, X11, q11, st11⟩ := X9.hget hexec hown (wk W (.fieldLink "java/lang/String" 15 "java/lang/String" "coder" "B")) (hy.mv X9.warmed.alike hh9).2.2.1 (g := (mkF m 30 #[.val (.ref x), .val (.ref y), .val (.ref y)] [.ref y, .int cd])) rfl (rest := [.int cd]) rfl (hb hbytes d30)
    have hh11 := q11.trans hh9
    have c12 : Steps p.tables e below (s₁.setTop (entryFrame m #[.ref x, .ref y] 3)) (T11.setTop (mkF m 33 #[.val (.ref x), .val (.ref y), .val (.ref y)] [.int cd', .int cd])) := c10.trans (st11 _ (Steps.refl _))
    by_cases hcd : cd = cd'
    · subst hcd
      have c13 : Steps p.tables e below (s₁.setTop (entryFrame m #[.ref x, .ref y] 3)) (T11.setTop (mkF m 37 #[.val (.ref x), .val (.ref y), .val (.ref y)] [.ref x])) := c12.trans (by
        refine XS.icmpNo X11.here hexec rfl (hb hbytes d33) rfl (ii_ne_f rfl) ?_
        refine XS.aloadN X11.here hexec rfl (hb hbytes d36) rfl rfl ?_
        exact Steps.refl _)
      obtain ⟨T14, X14, q14, st14⟩ := X11.hget hexec hown (wk W (.fieldLink "java/lang/String" 9 "java/lang/String" "value" "[B")) (hx.mv X11.warmed.alike hh11).2.1 (g := (mkF m 37 #[.val (.ref x), .val (.ref y), .val (.ref y)] [.ref x])) rfl (rest := []) rfl (hb hbytes d37)
      have hh14 := q14.trans hh11
      have c15 : Steps p.tables e below (s₁.setTop (entryFrame m #[.ref x, .ref y] 3)) (T14.setTop (mkF m 41 #[.val (.ref x), .val (.ref y), .val (.ref y)] [.ref y, .ref t])) := (c13.trans (st14 _ (Steps.refl _))).trans (by
        refine XS.aloadN X14.here hexec rfl (hb hbytes d40) rfl rfl ?_
        exact Steps.refl _)
      obtain ⟨T16, X16, q16, st16⟩ := X14.hget hexec hown (wk W (.fieldLink "java/lang/String" 9 "java/lang/String" "value" "[B")) (hy.mv X14.warmed.alike hh14).2.1 (g := (mkF m 41 #[.val (.ref x), .val (.ref y), .val (.ref y)] [.ref y, .ref t])) rfl (rest := [.ref t]) rfl (hb hbytes d41)
      have hh16 := q16.trans hh14
      have c17 : Steps p.tables e below (s₁.setTop (entryFrame m #[.ref x, .ref y] 3)) (T16.setTop (mkF m 44 #[.val (.ref x), .val (.ref y), .val (.ref y)] [.ref t', .ref t])) := c15.trans (st16 _ (Steps.refl _))
      obtain ⟨v18, T18, X18, E18, g18⟩ := X16.callS hexec (LEq.law l t V t' V') hown (wks W (staticW "java/lang/String" 541 LEq.yN)) (wk W LEq.tab) (W := 0) (Nat.le_of_ble_eq_true rfl) (Nat.le_of_ble_eq_true rfl) (Nat.le_refl _) (Nat.le_refl _) (g := (mkF m 44 #[.val (.ref x), .val (.ref y), .val (.ref y)] [.ref t', .ref t])) rfl (by rw [hml]; rfl) c17 (argsL := [.ref t, .ref t']) (rest := []) rfl rfl (by show 2 * 0 + 0 ≤ _; decide) (hb hbytes d44) (⟨rfl, hx.2.2.2.1.mv X16.warmed.alike hh16, hx.2.2.2.2.1.ty, hy.2.2.2.1.mv X16.warmed.alike hh16, hy.2.2.2.2.1.ty⟩)
      obtain ⟨v, rfl, q18, hv⟩ := E18
      have iff := Cod.eqv hx.2.2.2.2.1 hy.2.2.2.2.1 hx.2.2.2.2.2 hy.2.2.2.2.2
      rcases hv with ⟨rfl, he⟩ | ⟨rfl, he⟩
      · have c19 : Steps p.tables e below (s₁.setTop (entryFrame m #[.ref x, .ref y] 3)) (T18.setTop (mkF m 55 #[.val (.ref x), .val (.ref y), .val (.ref y)] [.int 1])) := Steps.trans g18 (by
          refine XS.ifNo X18.here hexec rfl (hb hbytes d47) rfl (i0_eq_f (by decide)) ?_
          refine iconstV X18.here hexec rfl 1 (hb hbytes d50) (by decide) ?_
          refine XS.goto X18.here hexec rfl (pc0 := 51) rfl (hb hbytes d51) (by decide) rfl ?_
          exact Steps.refl _)
        exact ⟨T18, some (.int 1), _, _, _, X18, rfl, rfl, rfl, (fun h => by cases h), ⟨1, rfl, q18.trans hh16, Or.inl ⟨rfl, iff.mp he⟩⟩, fun fs hl => c19.trans (X18.ireturnOut hexec hret rfl (Or.inr (Or.inl rfl)) (hb hbytes d55) hl)⟩
      · have c19 : Steps p.tables e below (s₁.setTop (entryFrame m #[.ref x, .ref y] 3)) (T18.setTop (mkF m 55 #[.val (.ref x), .val (.ref y), .val (.ref y)] [.int 0])) := Steps.trans g18 (by
          refine XS.ifYes X18.here hexec rfl (pc0 := 47) rfl (hb hbytes d47) rfl (i0_eq_t rfl) (by decide) rfl ?_
          refine iconstV X18.here hexec rfl 0 (hb hbytes d54) (by decide) ?_
          exact Steps.refl _)
        exact ⟨T18, some (.int 0), _, _, _, X18, rfl, rfl, rfl, (fun h => by cases h), ⟨0, rfl, q18.trans hh16, Or.inr ⟨rfl, fun q => he (iff.mpr q)⟩⟩, fun fs hl => c19.trans (X18.ireturnOut hexec hret rfl (Or.inr (Or.inl rfl)) (hb hbytes d55) hl)⟩
    · have c13 : Steps p.tables e below (s₁.setTop (entryFrame m #[.ref x, .ref y] 3)) (T11.setTop (mkF m 55 #[.val (.ref x), .val (.ref y), .val (.ref y)] [.int 0])) := c12.trans (by
        refine XS.icmpYes X11.here hexec rfl (pc0 := 33) rfl (hb hbytes d33) rfl (ii_ne_t hcd) (by decide) rfl ?_
        refine iconstV X11.here hexec rfl 0 (hb hbytes d54) (by decide) ?_
        exact Steps.refl _)
      exact ⟨T11, some (.int 0), _, _, _, X11, rfl, rfl, rfl, (fun h => by cases h), ⟨0, rfl, hh11, Or.inr ⟨rfl, Cod.dif hx.2.2.2.2.1 hy.2.2.2.2.1 hcd⟩⟩, fun fs hl => c13.trans (X11.ireturnOut hexec hret rfl (Or.inr (Or.inl rfl)) (hb hbytes d55) hl)⟩
theorem pays {l : Launch} {R : Room} {p : Program} {e : Env} {below : List Frame} {s : State} {sargs : Array Value} {len W : Nat} (x t : Addr) (V : Cell) (cd : Int32) (n : Nat) (f : Nat → Int32) (y t' : Addr) (V' : Cell) (cd' : Int32) (k : Nat) (g : Nat → Int32) (z : Int32) (htab : tab.before sargs s = true) (hfr : 2 ≤ R.frames) (hlo : W + 28 ≤ R.locals) :
    Back l R p e below s sargs yN len W (fun A₁ a₁ => A₁.cells + 0 ≤ R.cells ∧ A₁.slots + 0 ≤ R.slots ∧ P x t V cd n f y t' V' cd' k g z a₁ A₁.U) (fun A₁ _ v₁ B₁ => Says01 (SameT n f k g) v₁ A₁.U B₁.U ∧ B₁.locs = A₁.locs ++ [] ∧ B₁.cells = A₁.cells + 0 ∧ B₁.slots = A₁.slots + 0) :=
  (law l x t V cd n f y t' V' cd' k g z).pays htab hfr (by omega)
end SEq
end StrChars
namespace StrChars.Road
open Jvm Sem ClassFile Op Lib Jvm.Stand Jvm.Free Jvm.Free.XT
open Jvm.Lib.Cold (StaticIs)
/-- the words of String.equals(Object) -/
abbrev wordsEq : List Jvm.Cond := [.code SEq.yN SEq.yB 3 (some .boolean), .initialized ST, .classLink ST 10 ST, .fieldLink ST 38 ST "COMPACT_STRINGS" "Z", .fieldLink ST 15 ST "coder" "B", .fieldLink ST 9 ST "value" "[B", .methodLink ST 541 LEq.yN, .static LEq.yN, .code LEq.yN LEq.yB 3 (some .boolean), .initialized "java/lang/StringLatin1"]
theorem tabEq_of {a : Array Value} {s : State} (h : ∀ w ∈ wordsEq, w.before a s = true) : SEq.tab.before a s = true := by
  have hl : LEq.tab.before a s = true := unparts (wk h (.code LEq.yN LEq.yB 3 (some .boolean))) (wks h (.initialized LEq.yN.cls :: LEq.site))
  have q := consq hl h
  exact unparts (wk q (.code SEq.yN SEq.yB 3 (some .boolean))) (wks q (.initialized SEq.yN.cls :: SEq.site))
theorem movedEq {Z s : State} {a0 args : Array Value} (hZ : Z.Warmed39 s.vm) (hw : ∀ d ∈ wordsEq, d.before a0 Z = true) : ∀ d ∈ wordsEq, d.before args s = true := fun d hd => by
  have t : ∀ d ∈ wordsEq, (d.onTables && d.keepsFace) = true := by decide +kernel
  exact RoadKit.mv hZ (hw d hd) (t d hd)
/-- the road's facts of a String, as the laws ask it -/
theorem txt_of {Z U : State} {a0 : Array Value} {kI : Nat} (wi : (Jvm.Cond.instantiable ST kI).before a0 Z = true) (al : Z.vm.Alike U.vm) {x t : Addr} {kb : ClassId} {cs : List Int32} {cd N2 : Int32} {vs : List Value} (E : RoadKit.Exa Z U.heap x ST) (V : RoadKit.Fld Z U.heap x ST "value" "[B" (.ref t)) (C : RoadKit.Fld Z U.heap x ST "coder" "B" (.int cd)) (K : RoadKit.Arv Z U.heap t kb .byte N2 vs (.int 0)) (hc : CodA cs cd N2 vs) (hb : ∀ c ∈ cs, ¬ c < 0 ∧ ¬ (65535 : Int32) < c) (l2 : cs.length ≤ 4000) :
    ∃ A, Txt x t A cd cs.length (fun j => cs.getD j 0) U := by
  obtain ⟨A, K1, K2, K3, K4, K5, K6⟩ := K
  have hcod := hc.cod (by omega) K3 K5
  obtain ⟨D, fV, fC, hB, F1, F2, g1, g2, -, -⟩ := strObj wi al E V C
  exact ⟨A, ⟨_, hB.2.2.1, D, hB.1, rfl, by cases q : D.vm <;> first | rfl | exact absurd q (hB.2.1.2 _)⟩, Has.of hB F1 g1, Has.of hB F2 g2, ⟨K1.1, State.isArrayOf_alike al K1.2.1, K1.2.2, by rcases hcod with ⟨-, q, -⟩ | ⟨-, q, -⟩ <;> omega⟩, hcod, fun j hj => by
    have e : cs.getD j 0 = cs[j] := by simp [List.getD_eq_getElem?_getD, hj]
    show ¬ cs.getD j 0 < 0 ∧ ¬ 65535 < cs.getD j 0
    rw [e]; exact hb _ (List.getElem_mem _)⟩
theorem same_list (cs ds : List Int32) : SameT cs.length (fun j => cs.getD j 0) ds.length (fun j => ds.getD j 0) ↔ cs = ds := by
  constructor
  · rintro ⟨e, q⟩
    refine List.ext_getElem e fun j h1 h2 => ?_
    have := q j h1
    simpa [List.getD_eq_getElem?_getD, h1, h2] using this
  · rintro rfl
    exact ⟨rfl, fun _ _ => rfl⟩
/-- **equals(Object) OF TWO SUCH STRINGS**: 1 just where the chars are the same -/
theorem eqW {p : Program} {l : Launch} {e : Env} {R : Room} {s : State} {args : Array Value} {below : List Frame} {len W : Nat} {Z : State} {a0 : Array Value} {h : Heap} (hZ : Z.Warmed39 s.vm) (hw : ∀ d ∈ wordsEq, d.before a0 Z = true) {kI : Nat} (wi : (Jvm.Cond.instantiable ST kI).before a0 Z = true)
    {x t : Addr} {kb : ClassId} {cs : List Int32} {cd N2 : Int32} {vs : List Value} (E : RoadKit.Exa Z h x ST) (V : RoadKit.Fld Z h x ST "value" "[B" (.ref t)) (C : RoadKit.Fld Z h x ST "coder" "B" (.int cd)) (K : RoadKit.Arv Z h t kb .byte N2 vs (.int 0)) (hc : CodA cs cd N2 vs) (hb : ∀ c ∈ cs, ¬ c < 0 ∧ ¬ (65535 : Int32) < c) (l2 : cs.length ≤ 4000)
    {y t' : Addr} {kb' : ClassId} {ds : List Int32} {cd' N2' : Int32} {vs' : List Value} (E' : RoadKit.Exa Z h y ST) (V' : RoadKit.Fld Z h y ST "value" "[B" (.ref t')) (C' : RoadKit.Fld Z h y ST "coder" "B" (.int cd')) (K' : RoadKit.Arv Z h t' kb' .byte N2' vs' (.int 0)) (hc' : CodA ds cd' N2' vs') (hb' : ∀ c ∈ ds, ¬ c < 0 ∧ ¬ (65535 : Int32) < c) (l2' : ds.length ≤ 4000)
    {z : Int32} (S : RoadKit.Sta Z h ST "COMPACT_STRINGS" "Z" (.int z)) (hz : ¬ z = 0) (hfr : 2 ≤ R.frames) (hlo : W + 28 ≤ R.locals) :
    Back l R p e below s args (⟨"java/lang/String", "equals", "(Ljava/lang/Object;)Z"⟩ : MethodName) len W (fun P a => a = #[.ref x, .ref y] ∧ P.U.heap = h ∧ P.cells + 0 ≤ R.cells ∧ P.slots + 0 ≤ R.slots)
      (fun P _ v B => ∃ L, (((v = some (.int 1) ∧ cs = ds) ∨ (v = some (.int 0) ∧ ¬ cs = ds)) ∧ L = [] ∧ B.U.heap = h) ∧ B.locs = P.locs ++ L ∧ B.cells = P.cells + 0 ∧ B.slots = P.slots + 0) := by
  intro m meth c P g ig mk a X hg hsize hdg hW hn hp'
  obtain ⟨rfl, rfl, r1, r2⟩ := hp'
  have al : Z.vm.Alike P.U.vm := hZ.alike.trans X.warmed.alike
  obtain ⟨A, hx⟩ := txt_of wi al E V C K hc hb l2
  obtain ⟨A', hy⟩ := txt_of wi al E' V' C' K' hc' hb' l2'
  obtain ⟨v, B, X', ⟨⟨w, hv, hh, hq⟩, hl, hk, hs⟩, st⟩ := SEq.pays x t A cd cs.length (fun j => cs.getD j 0) y t' A' cd' ds.length (fun j => ds.getD j 0) z (tabEq_of (movedEq hZ hw)) hfr hlo m meth c P g ig mk _ X hg hsize hdg hW hn ⟨r1, r2, rfl, hx, hy, sta_is al S, hz⟩
  refine ⟨v, B, X', ⟨[], ⟨?_, rfl, hh⟩, hl, hk, hs⟩, st⟩
  rcases hq with ⟨rfl, q⟩ | ⟨rfl, q⟩
  · exact Or.inl ⟨hv, (same_list cs ds).mp q⟩
  · exact Or.inr ⟨hv, fun e => q ((same_list cs ds).mpr e)⟩
end StrChars.Road
namespace StrChars.Road
open Jvm Sem ClassFile Op Lib Jvm.Stand Jvm.Free Jvm.Free.XT
open Jvm.Lib.Cold (StaticIs)
/-- what backV says of its String, as the contracts of this text ask it: cs's low bytes, coder 0 -/
theorem codOf {cs : List Int32} {n : Nat} (hn : cs.length = n) (hb : ∀ c ∈ cs, ¬ 255 < c) : CodA cs 0 (Int32.ofNat n) ((cs.map lo8).map Value.int) := Or.inl ⟨rfl, by rw [hn], by simp [List.map_map, Function.comp_def], hb⟩
end StrChars.Road
end Jvm.Pilot.@@N@@
namespace Jvm.Pilot.@@N@@
open Jvm Jvm.ClassFile Sem Op Lib Jvm.Free Jvm.Stand Jvm.LawKit Jvm.RoadKit Bundle Jvm.Pilot.@@N@@.Jvm.D
/-! 0. own tools: the goal that a walk carries; an array's store and load by what is known of it -/
def Go (tb : Tables) (e : Env) (below : List Frame) (P : State → Prop) (s : State) : Prop := ∃ s₂, Steps tb e below s s₂ ∧ P s₂
section OwnTools
variable {tb : Tables} {e : Env} {below : List Frame} {P : State → Prop} {A B : State}
theorem Go.st (h : ∀ t, Steps tb e below A t → Steps tb e below B t) (g : Go tb e below P A) : Go tb e below P B := by
  obtain ⟨s₂, h1, h2⟩ := g
  exact ⟨s₂, h _ h1, h2⟩
theorem Go.tr (h : Steps tb e below B A) (g : Go tb e below P A) : Go tb e below P B := by
  obtain ⟨s₂, h1, h2⟩ := g
  exact ⟨s₂, h.trans h1, h2⟩
theorem Go.start {Q : Outcome → State → Prop} (h : ∀ P : State → Prop, (∀ s₂ o, s₂.status = .running → Ended s₂ below o → Q o s₂ → P s₂) → Go tb e below P A) : ∃ s₂ o, Steps tb e below A s₂ ∧ s₂.status = .running ∧ Ended s₂ below o ∧ Q o s₂ := by
  obtain ⟨s₂, h1, o, h2, h3, h4⟩ := h (fun s₂ => ∃ o, s₂.status = .running ∧ Ended s₂ below o ∧ Q o s₂) (fun s₂ o a b c => ⟨o, a, b, c⟩)
  exact ⟨s₂, o, h1, h2, h3, h4⟩
abbrev lR (a : Addr) : Slot := .val (.ref a)
abbrev lI (x : Int32) : Slot := .val (.int x)
abbrev lJ (x : Int64) : Slot := .val (.long x)
abbrev lD (x : UInt64) : Slot := .val (.double x)
abbrev lN : Slot := .val .null
abbrev lU : Slot := .unset
abbrev lS : Slot := .second
theorem ow {a0 : Array Value} {Z : State} (hw : ∀ d ∈ tables_1, d.before a0 Z = true) (i : Nat) {d : Jvm.Cond} (h : tables_1[i]? = some d) : d.before a0 Z = true := hw d (List.mem_of_getElem? h)
theorem own_oldsz {Z : State} {n0 : Nat} {h : Heap} (X : Old Z n0 h) : n0 ≤ h.size := by have := X.1; have := X.2.1; omega
theorem own_cat {v : Value} (h : v.isRef = true) : v.category = 1 := by cases v <;> first | rfl | simp [Value.isRef] at h
theorem own_refcase {v : Value} (h : v.isRef = true) : v = .null ∨ ∃ a, v = .ref a := by cases v <;> first | (left; rfl) | (right; exact ⟨_, rfl⟩) | (simp [Value.isRef] at h)
theorem own_nar_ref {v : Value} {t : FieldType} (h : v.isRef = true) : narrow t v = v := by cases v <;> first | (simp [Value.isRef] at h; done) | (cases t <;> rfl)
theorem own_fits_ref {v : Value} {t : FieldType} (h : v.isRef = true) (ht : t.isReference = true := by rfl) : fits t v = true := by cases v <;> first | (simp [Value.isRef] at h; done) | (cases t <;> first | rfl | (simp [FieldType.isReference] at ht))
theorem own_eq_ref {args : Array Value} {first s : State} {o : Option Outcome} {idx : List Nat} {a b : Term} {w : Addr} (hb : b.eval args first o idx s = some (.ref w)) (h : (Cond.eq a b).value args first o s idx = some true) : a.eval args first o idx s = some (.ref w) := by
  cases ha : a.eval args first o idx s with
  | none => simp [Cond.value, ha] at h
  | some x => cases x <;> simp [Cond.value, ha, hb] at h ⊢; exact h
theorem own_len_start {args : Array Value} {s : State} {t : Term} {n : Int32} {a : Addr} {cl : Cell} (h : (Term.length t).eval args s none [] s = some (.int n)) (ht : t.eval args s none [] s = some (.ref a)) (hc : s.heap[a]? = some cl) : cl.slots.size < 2 ^ 31 ∧ cl.slots.size.toInt32 = n := by
  simp only [Term.eval, ht, Option.bind_eq_bind, Option.bind_some] at h
  cases hq : s.arrayAt? a with
  | none => simp [hq] at h
  | some c2 =>
    have e := (State.arrayAt?_spec hq).1
    cases hc.symm.trans e
    simp only [hq, Option.bind_some] at h
    split at h
    · rename_i hlt; exact ⟨hlt, by simpa using h⟩
    · cases h
theorem own_since (s : State) : s.Since s.vm 0 := (State.WarmedH.refl s).since 0
theorem own_and255 (x : Int32) : ¬ (x &&& 255) < 0 ∧ ¬ (255 : Int32) < (x &&& 255) := by
  have h := c_and x 255 (by decide)
  have e0 : (0 : Int32).toInt = 0 := rfl
  have e1 : (255 : Int32).toInt = 255 := rfl
  rw [Int32.lt_iff_toInt_lt, Int32.lt_iff_toInt_lt]
  omega
theorem own_nar_i2c (x : Int32) : nar .char (x.toUInt32.toUInt16.toUInt32.toInt32) = x.toUInt32.toUInt16.toUInt32.toInt32 := by
  show (x.toUInt32.toUInt16.toUInt32.toInt32).toUInt32.toUInt16.toUInt32.toInt32 = _
  rw [UInt32.toUInt32_toInt32, UInt16.toUInt16_toUInt32]
theorem own_nar_i2b (x : Int32) : nar .byte (x.toInt8.toInt32) = x.toInt8.toInt32 := by
  show (x.toInt8.toInt32).toInt8.toInt32 = _
  simp
theorem own_narZ {x : Int32} (h : x = 0 ∨ x = 1) : nar .boolean x = x := by rcases h with rfl | rfl <;> rfl
theorem own_up (cs : List Int32) (h : ∀ c ∈ cs, ¬ c < 0 ∧ ¬ (255 : Int32) < c) : ∀ c ∈ cs, ¬ c < 0 ∧ ¬ (65535 : Int32) < c := fun c hc => ⟨(h c hc).1, fun q => (h c hc).2 (by rw [Int32.lt_iff_toInt_lt] at q ⊢; have e1 : (65535 : Int32).toInt = 65535 := rfl; have e2 : (255 : Int32).toInt = 255 := rfl; omega)⟩
theorem own_narC {x : Int32} (h : ¬ x < 0 ∧ ¬ (255 : Int32) < x) : nar .char x = x := by
  have e0 : (0 : Int32).toInt = 0 := rfl
  have e1 : (255 : Int32).toInt = 255 := rfl
  have a := h.1
  have b := h.2
  rw [Int32.lt_iff_toInt_lt, e0] at a
  rw [Int32.lt_iff_toInt_lt, e1] at b
  have c := c_i2c x
  exact Int32.toInt_inj.mp (show x.toUInt32.toUInt16.toUInt32.toInt32.toInt = x.toInt by omega)
theorem own_int {r : Int32} {k : Int} (h : r.toInt = k) {q : Int32} (hq : q.toInt = k) : r = q := Int32.toInt_inj.mp (by rw [h, hq])
end OwnTools
section OwnArrays
variable {p : Program} {l : Launch} {e : Env} {R : Room} {s : State} {m : MethodId} {args : Array Value} {below : List Frame} {meth : Method} {c : Code} {T : State} {locs : List Loc} {cells slots : Nat} {Z : State} {h : Heap} {a : Addr} {k : ClassId} {z : Int32} {vs : List Value} {dv : Value}
theorem own_stC (X : Stand p l e R s m args below meth c T locs cells slots) (hx : p.tables.exec = Jvm.exec) (hZ : Z.Warmed39 s.vm) (eT : T.heap = h) (V : Arv Z h a k .char z vs dv) {j x : Int32} {i : Nat} (hj : ¬ j < 0 ∧ j < z) (hji : j.toNatClampNeg = i) (hi : i < vs.length) {g : JFrame} (hg : g.method = m) {rest : List Value} (hs : g.stack = .int x :: .int j :: .ref a :: rest) (hd : decode c.code g.pc = .ok (.castore, 1)) :
    ∃ T' h', Stand p l e R s m args below meth c T' (locs ++ [⟨a, j.toNatClampNeg⟩]) cells slots ∧ T'.heap = h' ∧ Wr h h' a j.toNatClampNeg (.int (nar .char x)) ∧ Arv Z h' a k .char z (vs.set i (.int (nar .char x))) dv ∧ ∀ target, Steps p.tables e below (T'.setTop { g with pc := g.pc + 1, stack := rest }) target → Steps p.tables e below (T.setTop g) target := by
  obtain ⟨cl, A, q1, S, q3, H, G⟩ := V
  obtain ⟨T', h', X', e', W, st⟩ := stC X hx hZ eT A (inb_of S hj) hg hs hd
  exact ⟨T', h', X', e', W, Arv.set A q1 S q3 H G (fits_nar_char x) W i hji hi, st⟩
theorem own_stI (X : Stand p l e R s m args below meth c T locs cells slots) (hx : p.tables.exec = Jvm.exec) (hZ : Z.Warmed39 s.vm) (eT : T.heap = h) (V : Arv Z h a k .int z vs dv) {j x : Int32} {i : Nat} (hj : ¬ j < 0 ∧ j < z) (hji : j.toNatClampNeg = i) (hi : i < vs.length) {g : JFrame} (hg : g.method = m) {rest : List Value} (hs : g.stack = .int x :: .int j :: .ref a :: rest) (hd : decode c.code g.pc = .ok (.iastore, 1)) :
    ∃ T' h', Stand p l e R s m args below meth c T' (locs ++ [⟨a, j.toNatClampNeg⟩]) cells slots ∧ T'.heap = h' ∧ Wr h h' a j.toNatClampNeg (.int x) ∧ Arv Z h' a k .int z (vs.set i (.int x)) dv ∧ ∀ target, Steps p.tables e below (T'.setTop { g with pc := g.pc + 1, stack := rest }) target → Steps p.tables e below (T.setTop g) target := by
  obtain ⟨cl, A, q1, S, q3, H, G⟩ := V
  obtain ⟨T', h', X', e', W, st⟩ := stI X hx hZ eT A (inb_of S hj) hg hs hd
  exact ⟨T', h', X', e', W, Arv.set A q1 S q3 H G rfl W i hji hi, st⟩
theorem own_stZ (X : Stand p l e R s m args below meth c T locs cells slots) (hx : p.tables.exec = Jvm.exec) (hZ : Z.Warmed39 s.vm) (eT : T.heap = h) (V : Arv Z h a k .boolean z vs dv) {j x : Int32} {i : Nat} (hj : ¬ j < 0 ∧ j < z) (hji : j.toNatClampNeg = i) (hi : i < vs.length) {g : JFrame} (hg : g.method = m) {rest : List Value} (hs : g.stack = .int x :: .int j :: .ref a :: rest) (hd : decode c.code g.pc = .ok (.bastore, 1)) :
    ∃ T' h', Stand p l e R s m args below meth c T' (locs ++ [⟨a, j.toNatClampNeg⟩]) cells slots ∧ T'.heap = h' ∧ Wr h h' a j.toNatClampNeg (.int (nar .boolean x)) ∧ Arv Z h' a k .boolean z (vs.set i (.int (nar .boolean x))) dv ∧ ∀ target, Steps p.tables e below (T'.setTop { g with pc := g.pc + 1, stack := rest }) target → Steps p.tables e below (T.setTop g) target := by
  obtain ⟨cl, A, q1, S, q3, H, G⟩ := V
  obtain ⟨T', h', X', e', W, st⟩ := stZ X hx hZ eT A (inb_of S hj) hg hs hd
  exact ⟨T', h', X', e', W, Arv.set A q1 S q3 H G (fits_nar_bool x) W i hji hi, st⟩
theorem own_stB (X : Stand p l e R s m args below meth c T locs cells slots) (hx : p.tables.exec = Jvm.exec) (hZ : Z.Warmed39 s.vm) (eT : T.heap = h) (V : Arv Z h a k .byte z vs dv) {j x : Int32} {i : Nat} (hj : ¬ j < 0 ∧ j < z) (hji : j.toNatClampNeg = i) (hi : i < vs.length) {g : JFrame} (hg : g.method = m) {rest : List Value} (hs : g.stack = .int x :: .int j :: .ref a :: rest) (hd : decode c.code g.pc = .ok (.bastore, 1)) :
    ∃ T' h', Stand p l e R s m args below meth c T' (locs ++ [⟨a, j.toNatClampNeg⟩]) cells slots ∧ T'.heap = h' ∧ Wr h h' a j.toNatClampNeg (.int (nar .byte x)) ∧ Arv Z h' a k .byte z (vs.set i (.int (nar .byte x))) dv ∧ ∀ target, Steps p.tables e below (T'.setTop { g with pc := g.pc + 1, stack := rest }) target → Steps p.tables e below (T.setTop g) target := by
  obtain ⟨cl, A, q1, S, q3, H, G⟩ := V
  obtain ⟨T', h', X', e', W, st⟩ := stB X hx hZ eT A (inb_of S hj) hg hs hd
  exact ⟨T', h', X', e', W, Arv.set A q1 S q3 H G (fits_nar_byte x) W i hji hi, st⟩
theorem own_stD (X : Stand p l e R s m args below meth c T locs cells slots) (hx : p.tables.exec = Jvm.exec) (hZ : Z.Warmed39 s.vm) (eT : T.heap = h) (V : Arv Z h a k .double z vs dv) {j : Int32} {x : UInt64} {i : Nat} (hj : ¬ j < 0 ∧ j < z) (hji : j.toNatClampNeg = i) (hi : i < vs.length) {g : JFrame} (hg : g.method = m) {rest : List Value} (hs : g.stack = .double x :: .int j :: .ref a :: rest) (hd : decode c.code g.pc = .ok (.dastore, 1)) :
    ∃ T' h', Stand p l e R s m args below meth c T' (locs ++ [⟨a, j.toNatClampNeg⟩]) cells slots ∧ T'.heap = h' ∧ Wr h h' a j.toNatClampNeg (.double x) ∧ Arv Z h' a k .double z (vs.set i (.double x)) dv ∧ ∀ target, Steps p.tables e below (T'.setTop { g with pc := g.pc + 1, stack := rest }) target → Steps p.tables e below (T.setTop g) target := by
  obtain ⟨cl, A, q1, S, q3, H, G⟩ := V
  obtain ⟨T', h', X', e', W, st⟩ := stD X hx hZ eT A (inb_of S hj) hg hs hd
  exact ⟨T', h', X', e', W, Arv.set A q1 S q3 H G rfl W i hji hi, st⟩
theorem own_at {ty : FieldType} (V : Arv Z h a k ty z vs dv) {j : Int32} {i : Nat} {v : Value} (hj : ¬ j < 0 ∧ j < z) (hji : j.toNatClampNeg = i) (hv : vs.getD i dv = v) : ∃ cl : Cell, Arr Z h a cl ty ∧ ¬ (j < 0 ∨ cl.slots.size ≤ j.toNatClampNeg) ∧ cl.slots[j.toNatClampNeg]? = some v := by
  obtain ⟨cl, A, q1, S, q3, H, G⟩ := V
  exact ⟨cl, A, inb_of S hj, Has.at H (inb_of S hj) (by rw [hji]; exact hv)⟩
theorem own_ldI (X : Stand p l e R s m args below meth c T locs cells slots) (hx : p.tables.exec = Jvm.exec) (hZ : Z.Warmed39 s.vm) (eT : T.heap = h) (V : Arv Z h a k .int z vs dv) {j : Int32} {i : Nat} {v : Value} (hj : ¬ j < 0 ∧ j < z) (hji : j.toNatClampNeg = i) (hv : vs.getD i dv = v) {g : JFrame} (hg : g.method = m) {rest : List Value} (hs : g.stack = .int j :: .ref a :: rest) (hd : decode c.code g.pc = .ok (.iaload, 1)) (target : State) :
    Steps p.tables e below (T.setTop { g with pc := g.pc + 1, stack := v :: rest }) target → Steps p.tables e below (T.setTop g) target := by
  obtain ⟨cl, A, hin, hat⟩ := own_at V hj hji hv
  exact X.iaload hx (by rw [eT]; exact A.1) (State.isArrayOf_alike hZ.alike A.2.1) A.2.2 hin hat hg hs hd target
theorem own_ldC (X : Stand p l e R s m args below meth c T locs cells slots) (hx : p.tables.exec = Jvm.exec) (hZ : Z.Warmed39 s.vm) (eT : T.heap = h) (V : Arv Z h a k .char z vs dv) {j : Int32} {i : Nat} {v : Value} (hj : ¬ j < 0 ∧ j < z) (hji : j.toNatClampNeg = i) (hv : vs.getD i dv = v) {g : JFrame} (hg : g.method = m) {rest : List Value} (hs : g.stack = .int j :: .ref a :: rest) (hd : decode c.code g.pc = .ok (.caload, 1)) (target : State) :
    Steps p.tables e below (T.setTop { g with pc := g.pc + 1, stack := v :: rest }) target → Steps p.tables e below (T.setTop g) target := by
  obtain ⟨cl, A, hin, hat⟩ := own_at V hj hji hv
  exact X.caload hx (by rw [eT]; exact A.1) (State.isArrayOf_alike hZ.alike A.2.1) A.2.2 hin hat hg hs hd target
theorem own_ldZ (X : Stand p l e R s m args below meth c T locs cells slots) (hx : p.tables.exec = Jvm.exec) (hZ : Z.Warmed39 s.vm) (eT : T.heap = h) (V : Arv Z h a k .boolean z vs dv) {j : Int32} {i : Nat} {v : Value} (hj : ¬ j < 0 ∧ j < z) (hji : j.toNatClampNeg = i) (hv : vs.getD i dv = v) {g : JFrame} (hg : g.method = m) {rest : List Value} (hs : g.stack = .int j :: .ref a :: rest) (hd : decode c.code g.pc = .ok (.baload, 1)) (target : State) :
    Steps p.tables e below (T.setTop { g with pc := g.pc + 1, stack := v :: rest }) target → Steps p.tables e below (T.setTop g) target := by
  obtain ⟨cl, A, hin, hat⟩ := own_at V hj hji hv
  exact X.baloadBooleans hx (by rw [eT]; exact A.1) (State.isArrayOf_alike hZ.alike A.2.1) A.2.2 hin hat hg hs hd target
theorem own_ldB (X : Stand p l e R s m args below meth c T locs cells slots) (hx : p.tables.exec = Jvm.exec) (hZ : Z.Warmed39 s.vm) (eT : T.heap = h) (V : Arv Z h a k .byte z vs dv) {j : Int32} {i : Nat} {v : Value} (hj : ¬ j < 0 ∧ j < z) (hji : j.toNatClampNeg = i) (hv : vs.getD i dv = v) {g : JFrame} (hg : g.method = m) {rest : List Value} (hs : g.stack = .int j :: .ref a :: rest) (hd : decode c.code g.pc = .ok (.baload, 1)) (target : State) :
    Steps p.tables e below (T.setTop { g with pc := g.pc + 1, stack := v :: rest }) target → Steps p.tables e below (T.setTop g) target := by
  obtain ⟨cl, A, hin, hat⟩ := own_at V hj hji hv
  exact X.baloadBytes hx (by rw [eT]; exact A.1) (State.isArrayOf_alike hZ.alike A.2.1) A.2.2 hin hat hg hs hd target
theorem own_ldD (X : Stand p l e R s m args below meth c T locs cells slots) (hx : p.tables.exec = Jvm.exec) (hZ : Z.Warmed39 s.vm) (eT : T.heap = h) (V : Arv Z h a k .double z vs dv) {j : Int32} {i : Nat} {v : Value} (hj : ¬ j < 0 ∧ j < z) (hji : j.toNatClampNeg = i) (hv : vs.getD i dv = v) {g : JFrame} (hg : g.method = m) {rest : List Value} (hs : g.stack = .int j :: .ref a :: rest) (hd : decode c.code g.pc = .ok (.daload, 1)) (target : State) :
    Steps p.tables e below (T.setTop { g with pc := g.pc + 1, stack := v :: rest }) target → Steps p.tables e below (T.setTop g) target := by
  obtain ⟨cl, A, hin, hat⟩ := own_at V hj hji hv
  exact X.daload hx (by rw [eT]; exact A.1) (State.isArrayOf_alike hZ.alike A.2.1) A.2.2 hin hat hg hs hd target
theorem own_ldR {C : String} (X : Stand p l e R s m args below meth c T locs cells slots) (hx : p.tables.exec = Jvm.exec) (hZ : Z.Warmed39 s.vm) (eT : T.heap = h) (V : Arv Z h a k (.object C) z vs dv) {j : Int32} {i : Nat} {v : Value} (hj : ¬ j < 0 ∧ j < z) (hji : j.toNatClampNeg = i) (hv : vs.getD i dv = v) {g : JFrame} (hg : g.method = m) {rest : List Value} (hs : g.stack = .int j :: .ref a :: rest) (hd : decode c.code g.pc = .ok (.aaload, 1)) (target : State) :
    Steps p.tables e below (T.setTop { g with pc := g.pc + 1, stack := v :: rest }) target → Steps p.tables e below (T.setTop g) target := by
  obtain ⟨cl, A, hin, hat⟩ := own_at V hj hji hv
  exact X.aaload hx (by rw [eT]; exact A.1) (State.isArrayOf_alike hZ.alike A.2.1) rfl A.2.2 hin hat hg hs hd target
theorem own_len {ty : FieldType} (X : Stand p l e R s m args below meth c T locs cells slots) (hx : p.tables.exec = Jvm.exec) (hZ : Z.Warmed39 s.vm) (eT : T.heap = h) (V : Arv Z h a k ty z vs dv) {g : JFrame} (hg : g.method = m) {rest : List Value} (hs : g.stack = .ref a :: rest) (hd : decode c.code g.pc = .ok (.arraylength, 1)) (target : State) :
    Steps p.tables e below (T.setTop { g with pc := g.pc + 1, stack := .int z :: rest }) target → Steps p.tables e below (T.setTop g) target := by
  obtain ⟨cl, A, q1, S, q3, H, G⟩ := V
  have q := X.arraylength hx (by rw [eT]; exact A.1) (State.isArrayOf_alike hZ.alike A.2.1) hg hs hd target
  rw [len_of S q3] at q
  exact q
theorem own_getD_int (xs : List Int32) (i : Nat) : (xs.map Value.int).getD i (.int 0) = .int (xs.getD i 0) := by
  simp only [List.getD_eq_getElem?_getD, List.getElem?_map]
  cases xs[i]? <;> rfl
theorem own_arv_set {ty : FieldType} {xs : List Int32} {i : Nat} {v : Int32} (V : Arv Z h a k ty z ((xs.map Value.int).set i (.int v)) dv) : Arv Z h a k ty z ((xs.set i v).map Value.int) dv := by rw [List.map_set]; exact V
end OwnArrays

theorem own_strAtoms : ∀ a ∈ Bundle.stringAtoms, a ∈ tables_1 := by decide +kernel
theorem own_wNew : ∀ d ∈ StrChars.Road.words, d ∈ tables_1 := by decide +kernel
theorem own_wEq : ∀ d ∈ StrChars.Road.wordsEq, d ∈ tables_1 := by decide +kernel
theorem own_safe_null {Z : State} {EL : List (String × Nat)} {vm : Vm} {h : Heap} {x : Addr} (hal : Z.vm.Alike vm) (E : Exa Z h x "java/lang/String") (V : Fld Z h x "java/lang/String" "value" "[B" .null) : Safe Z EL vm h x := fun B => by
  obtain ⟨p, hp, u, a, hb, q, hqa, F, hy⟩ := B
  obtain ⟨cS, ⟨⟨s1, s2, s3, ⟨cv, kv, iv, s4, s4'⟩, s5, s6, s7, s8, s9, s10, srest⟩, hfS, hcS⟩, k1, hB, hbyt⟩ := F
  rcases hy with rfl | rfl
  · obtain ⟨cell, cf, k, i, f, h1, h2, h3, h4, h5, h6, h7⟩ := V
    have e1 : h[q.sa]? = some q.sC := s1
    cases h1.symm.trans e1
    obtain ⟨kv', z4⟩ := ff_back (U := Wst Z vm h) hal s4
    have z5 := h2.symm.trans z4
    simp only [Option.some.injEq, Prod.mk.injEq] at z5
    rw [z5.2.2.2, s8] at h7
    cases h7
  · obtain ⟨cell, k, h1, h2, h3, h4, h5⟩ := E
    have e1 : h[q.sd]? = some q.SA := s10
    cases h1.symm.trans e1
    have hB' : vm.findClass "[B" = some q.SA.cls := hB
    rw [hal.findClass] at hB'
    obtain ⟨ka, a1, a2⟩ := Vm.findClass_spec h2
    obtain ⟨kb, b1, b2⟩ := Vm.findClass_spec hB'
    cases a1.symm.trans b1
    exact absurd (a2.symm.trans b2) (by decide)
theorem own_arvN {Z : State} {h : Heap} {t : Addr} {k : ClassId} {cs : List Int32} {n : Nat} {vs : List Value} {dv : Value} (hn : cs.length = n) (A : Arv Z h t k .byte (Int32.ofNat n) vs dv) : Arv Z h t k .byte (Int32.ofNat cs.length) vs dv := by rw [hn]; exact A
theorem own_set_small {xs : List Int32} {i : Nat} {v : Int32} (h : ∀ c ∈ xs, ¬ c < 0 ∧ ¬ (255 : Int32) < c) (hv : ¬ v < 0 ∧ ¬ (255 : Int32) < v) : ∀ c ∈ xs.set i v, ¬ c < 0 ∧ ¬ (255 : Int32) < c := fun c hc => by
  rcases List.mem_or_eq_of_mem_set hc with q | q
  · exact h c q
  · rw [q]; exact hv
theorem own_set_eq {xs : List Int32} {i : Nat} {v : Int32} (hi : i < xs.length) : xs.set i v = xs ↔ v = xs.getD i 0 := by
  constructor
  · intro q
    have e := congrArg (fun l : List Int32 => l.getD i 0) q
    simp only [List.getD_eq_getElem?_getD, List.getElem?_set_self hi] at e
    simpa [List.getD_eq_getElem?_getD] using e
  · intro q
    apply List.ext_getElem?
    intro j
    rw [List.getElem?_set]
    split
    · rename_i e; subst e; rw [q, List.getD_eq_getElem?_getD, List.getElem?_eq_getElem hi]; simp [hi]
    · rfl
theorem own_natback {j : Int32} (h : ¬ j < 0) : j = Int32.ofNat j.toNatClampNeg := (back32 h).1.symm
section OwnInt
theorem own_ishl0 (x : Int32) : x <<< ((0 : Int32) &&& 31) = x := by
  rw [show (0 : Int32) &&& 31 = 0 from by decide]; exact Int32.toBitVec_inj.mp (by simp)
theorem own_ishr0 (x : Int32) : x >>> ((0 : Int32) &&& 31) = x := by
  rw [show (0 : Int32) &&& 31 = 0 from by decide]; exact Int32.toBitVec_inj.mp (by simp)
theorem own_sub0 (x : Int32) : x - (0 : Int32) = x := Int32.sub_zero x
theorem own_ofN {n : Nat} (h : n < 2 ^ 31) : (Int32.ofNat n).toInt = (n : Int) := len_toInt h
theorem own_clamp {n : Nat} (h : n < 2 ^ 31) : (Int32.ofNat n).toNatClampNeg = n := by
  have := own_ofN h
  show (Int32.ofNat n).toInt.toNat = n
  omega
theorem own_zlt (z : Int32) : z.toNatClampNeg < 2 ^ 31 := by have := z.toInt_lt; show z.toInt.toNat < 2 ^ 31; omega
theorem own_znat {z : Int32} (h : ¬ z < 0) : z.toInt = (z.toNatClampNeg : Int) := by
  rw [Int32.lt_iff_toInt_lt, show (0 : Int32).toInt = 0 from rfl] at h
  show z.toInt = (z.toInt.toNat : Int)
  omega
theorem own_arvnn {Z : State} {h : Heap} {a : Addr} {k : ClassId} {ty : FieldType} {z : Int32} {vs : List Value} {d : Value} (A : Arv Z h a k ty z vs d) : ¬ z < 0 := by
  obtain ⟨c, -, -, -, q, -⟩ := A
  exact q
theorem own_nneg {n : Nat} (h : n < 2 ^ 31) : ¬ (Int32.ofNat n < 0) := by
  rw [Int32.lt_iff_toInt_lt, own_ofN h, show (0 : Int32).toInt = 0 from rfl]; omega
theorem own_ltz {p2 za : Int32} {nv : Nat} (hz : ¬ za < 0) (hnv : p2 = Int32.ofNat nv) (hzc : nv ≤ za.toNatClampNeg) (hne : ¬ (p2 = za)) : p2 < za := by
  have hl := own_zlt za
  have e1 := own_ofN (n := nv) (by omega)
  have e2 := own_znat hz
  rw [Int32.lt_iff_toInt_lt]
  have : p2.toInt ≠ za.toInt := fun q => hne (Int32.toInt_inj.mp q)
  rw [hnv] at this ⊢
  omega
end OwnInt

section OwnU16
theorem own_pad0 (X : List Int32) : ∀ i, ((X ++ [0]).map Value.int).getD i (.int 0) = (X.map Value.int).getD i (.int 0) := fun i => by
  simp only [List.getD_eq_getElem?_getD, List.getElem?_map, List.getElem?_append]
  split
  · rfl
  · rename_i h
    rw [List.getElem?_eq_none (show X.length ≤ i by omega)]
    by_cases q : i - X.length = 0
    · rw [q]; rfl
    · rw [List.getElem?_eq_none (by simp; omega)]
theorem own_pad1 (X : List Int32) : X.length < ((X ++ [0]).map Value.int).length := by simp
theorem own_setlast (X : List Int32) (v : Int32) : ((X ++ [0]).map Value.int).set X.length (.int v) = (X ++ [v]).map Value.int := by
  induction X with
  | nil => rfl
  | cons a t ih => exact congrArg (List.cons (Value.int a)) ih
def own_b0 (c : Int32) : Int32 := c.toInt8.toInt32
def own_b1 (c : Int32) : Int32 := (c >>> ((8 : Int32) &&& 31)).toInt8.toInt32
def own_wb (cs : List Int32) : List Int32 := cs.flatMap (fun c => [own_b0 c, own_b1 c])
theorem own_wb_len (cs : List Int32) : (own_wb cs).length = 2 * cs.length := by
  induction cs with
  | nil => rfl
  | cons a t ih => simp only [own_wb, List.flatMap_cons, List.length_append, List.length_cons, List.length_nil] at ih ⊢; omega
theorem own_wb_snoc {xs : List Int32} {i : Nat} (h : i < xs.length) : own_wb (xs.take (i + 1)) = ((own_wb (xs.take i)) ++ [own_b0 (xs.getD i 0)]) ++ [own_b1 (xs.getD i 0)] := by
  rw [List.take_add_one, List.getElem?_eq_getElem h, Option.toList_some, List.getD_eq_getElem?_getD, List.getElem?_eq_getElem h, Option.getD_some]
  simp only [own_wb, List.flatMap_append, List.flatMap_cons, List.flatMap_nil, List.append_assoc, List.cons_append, List.nil_append, List.append_nil]
theorem own_wb_at : ∀ (xs : List Int32) (j : Nat), j < xs.length → (own_wb xs).getD (2 * j) 0 = own_b0 (xs.getD j 0) ∧ (own_wb xs).getD (2 * j + 1) 0 = own_b1 (xs.getD j 0) := by
  intro xs
  induction xs with
  | nil => intro j h; simp at h
  | cons a t ih =>
    intro j h
    cases j with
    | zero => exact ⟨rfl, rfl⟩
    | succ j => exact ih j (by simpa using h)
theorem own_shl1 {n : Nat} (h : n ≤ 4000) : (Int32.ofNat n) <<< ((1 : Int32) &&& 31) = Int32.ofNat (2 * n) := by
  have key : ∀ x : Int32, x <<< ((1 : Int32) &&& 31) = x + x := fun x => by
    apply Int32.toBitVec_inj.mp
    rw [show (1 : Int32) &&& 31 = 1 from by decide, Int32.toBitVec_shiftLeft, Int32.toBitVec_add]
    simp [BitVec.shiftLeft_eq', BitVec.two_mul]
    bv_omega
  rw [key, ← Int32.ofNat_add]
  congr 1
  omega
theorem own_ltza {k : Nat} {z : Int32} (h : k < z.toNatClampNeg) : ¬ (Int32.ofNat k) < 0 ∧ (Int32.ofNat k) < z := by
  have hl := own_zlt z
  have e1 := own_ofN (n := k) (by omega)
  have hz : z.toInt.toNat = z.toNatClampNeg := rfl
  rw [Int32.lt_iff_toInt_lt, Int32.lt_iff_toInt_lt, e1, show (0 : Int32).toInt = 0 from rfl]
  omega
theorem own_addj {p : Int32} {k : Nat} (j : Nat) (h : p = Int32.ofNat k) : p + Int32.ofNat j = Int32.ofNat (k + j) := by rw [h]; exact (Int32.ofNat_add k j).symm
theorem own_pair {c : Int32} (h : ¬ c < 0 ∧ ¬ (65535 : Int32) < c) : nar .char ((((own_b0 c) &&& (255 : Int32)) ||| (((own_b1 c) &&& (255 : Int32)) <<< ((8 : Int32) &&& 31))).toUInt32.toUInt16.toUInt32.toInt32) = c := by
  rw [own_nar_i2c]
  have q := StrChars.pair_says h.1 h.2
  rw [StrChars.pairCh, own_ishl0] at q
  exact q
theorem own_nar16 {c : Int32} (h : ¬ c < 0 ∧ ¬ (65535 : Int32) < c) : nar .char c = c := by
  show c.toUInt32.toUInt16.toUInt32.toInt32 = c
  obtain ⟨h1, h2⟩ := h
  rw [Int32.lt_iff_toInt_lt, show (0 : Int32).toInt = 0 from rfl] at h1
  rw [Int32.lt_iff_toInt_lt, show (65535 : Int32).toInt = 65535 from rfl] at h2
  have q := own_pair (c := c) ⟨by rw [Int32.lt_iff_toInt_lt, show (0 : Int32).toInt = 0 from rfl]; exact h1, by rw [Int32.lt_iff_toInt_lt, show (65535 : Int32).toInt = 65535 from rfl]; exact h2⟩
  rw [own_nar_i2c] at q
  rw [← q]
  exact own_nar_i2c _
theorem own_and16 (x : Int32) : ¬ (x &&& (65535 : Int32)) < 0 ∧ ¬ (65535 : Int32) < (x &&& (65535 : Int32)) := by
  have h : (x &&& 65535).toInt = x.toInt % (2 ^ 16 : Nat) := c_mask x 65535 16 (by decide) (by decide)
  rw [Int32.lt_iff_toInt_lt, Int32.lt_iff_toInt_lt, show (0 : Int32).toInt = 0 from rfl, show (65535 : Int32).toInt = 65535 from rfl]
  omega
theorem own_coder1 {n : Nat} (h1 : 1 ≤ n) (h : n ≤ 32) : nar .byte (((((Int32.ofNat n) - (Int32.ofNat (2 * n))).toUInt32 >>> ((31 : Int32) &&& 31).toUInt32).toInt32).toInt8.toInt32) = 1 := by
  have key : ∀ k : Fin 33, 1 ≤ k.val → nar .byte (((((Int32.ofNat k.val) - (Int32.ofNat (2 * k.val))).toUInt32 >>> ((31 : Int32) &&& 31).toUInt32).toInt32).toInt8.toInt32) = 1 := by decide +kernel
  exact key ⟨n, by omega⟩ h1
def own_W (xs : List Int32) (j : Nat) : Prop := j < xs.length ∧ (∀ t, t < j → ¬ (255 : Int32) < xs.getD t 0) ∧ (255 : Int32) < xs.getD j 0
def own_C (xs : List Int32) : Prop := ∀ t, t < xs.length → ¬ xs.getD t 0 < 0 ∧ ¬ (65535 : Int32) < xs.getD t 0
theorem own_lenne {a b : List Int32} (h : a.length ≠ b.length) : ¬ (a = b) := fun q => h (congrArg List.length q)
theorem own_big {x : Int32} (h : (255 : Int32) < x) {n : Nat} : ¬ (x = Int32.ofNat n) ∨ 255 < n := by
  by_cases q : 255 < n
  · exact Or.inr q
  · refine Or.inl fun e => ?_
    rw [e, Int32.lt_iff_toInt_lt, own_ofN (by omega), show (255 : Int32).toInt = 255 from rfl] at h
    omega
end OwnU16

theorem own_EW (Z : State) (a0 : Array Value) (hw : ∀ d ∈ tables_1, d.before a0 Z = true) : EW Z a0 consts_1 := (EW.cons (ow hw 126 rfl) (by decide) EW.nil)
theorem own_ef_rm_emp2 (m : MethodId) (x0 : Addr) (x1 : Addr) (x2 : Int32) (x3 : Int32) : entryFrame m #[(.ref x0), (.ref x1), (.int x2), (.int x3), .null] 6 = mkF m 0 #[.val (.ref x0), .val (.ref x1), .val (.int x2), .val (.int x3), .val .null, .unset] [] := by first | (simp [entryFrame, mkF, argsToLocals, Value.category]; done) | rfl
theorem own_pn0 : plainName "java/lang/String" = true := by first | (simp [plainName, overriddenIn]; done) | decide +kernel
theorem od0_0 : decode jdk_42_method_149_code 0 = .ok (.aload_n 0, 1) := by decide +kernel
theorem od0_1 : decode jdk_42_method_149_code 1 = .ok (.invokespecial 1, 3) := by decide +kernel
theorem od0_4 : decode jdk_42_method_149_code 4 = .ok (.iload_n 3, 1) := by decide +kernel
theorem od0_5 : decode jdk_42_method_149_code 5 = .ok (.ifCond .ne 22, 3) := by decide +kernel
theorem od0_8 : decode jdk_42_method_149_code 8 = .ok (.aload_n 0, 1) := by decide +kernel
theorem od0_9 : decode jdk_42_method_149_code 9 = .ok (.ldc 7, 2) := by decide +kernel
theorem od0_11 : decode jdk_42_method_149_code 11 = .ok (.getfield 9, 3) := by decide +kernel
theorem od0_14 : decode jdk_42_method_149_code 14 = .ok (.putfield 9, 3) := by decide +kernel
theorem od0_17 : decode jdk_42_method_149_code 17 = .ok (.aload_n 0, 1) := by decide +kernel
theorem od0_18 : decode jdk_42_method_149_code 18 = .ok (.ldc 7, 2) := by decide +kernel
theorem od0_20 : decode jdk_42_method_149_code 20 = .ok (.getfield 15, 3) := by decide +kernel
theorem od0_23 : decode jdk_42_method_149_code 23 = .ok (.putfield 15, 3) := by decide +kernel
theorem od0_26 : decode jdk_42_method_149_code 26 = .ok (.return_, 1) := by decide +kernel
def Q_rm_emp2 (Z : State) (g_CS : Int32) (p0 : Addr) (p1 : Addr) (h0 : Heap) (n0 : Nat) (v : Option Value) (h : Heap) (L : List Loc) : Prop := ∃ (vb : Addr) (kb : ClassId), v = none ∧ Fr n0 L ∧ Keep h0 h [p0] ∧ Exa Z h p0 "java/lang/String" ∧ Fld Z h p0 "java/lang/String" "coder" "B" (.int 0) ∧ Fld Z h p0 "java/lang/String" "value" "[B" (.ref vb) ∧ Arv Z h vb kb .byte (0 : Int32) [] (.int 0)
set_option maxRecDepth 65536 in
set_option maxHeartbeats 40000000 in
theorem rm_emp2 (l : Launch) (Z : State) (a0 : Array Value) (hw : ∀ d ∈ tables_1, d.before a0 Z = true) (ws : List Jvm.Cond) (g_CS : Int32) (S_CS : Sta Z Z.heap "java/lang/String" "COMPACT_STRINGS" "Z" (.int g_CS)) (nz_CS : ¬ (g_CS = (0 : Int32))) (p0 : Addr) (p1 : Addr) (h0 : Heap) (n0 : Nat) (X00 : Old Z n0 h0) (hp0 : Exa Z h0 p0 "java/lang/String") (hp1 : Fld Z h0 p0 "java/lang/String" "value" "[B" .null) (hp2 : Fld Z h0 p0 "java/lang/String" "coder" "B" (.int 0)) (hp3 : n0 ≤ p0) :
    MetFree l (⟨"java/lang/String", "<init>", "([CIILjava/lang/Void;)V"⟩ : MethodName) (head1 (Jvm.Cond.code (⟨"java/lang/String", "<init>", "([CIILjava/lang/Void;)V"⟩ : MethodName) jdk_42_method_149_code 6 none :: ws) ({ frames := 1, cells := 4, slots := 8, locals := 12 } : Room)) (fun a U => a = #[(.ref p0), (.ref p1), (.int 0), (.int 0), .null] ∧ Z.Warmed39 U.vm ∧ U.heap = h0 ∧ CHv Z consts_1 U.vm h0) (fun _ _ _ _ _ => True) (fun _ U o U' => ∃ v L, o = .returned v ∧ Q_rm_emp2 Z g_CS p0 p1 h0 n0 v U'.heap L ∧ CHr Z consts_1 U.vm U.heap U'.vm U'.heap ∧ ReturnedEndW U o U' L ({ frames := 1, cells := 4, slots := 8, locals := 12 } : Room).cells ({ frames := 1, cells := 4, slots := 8, locals := 12 } : Room).slots) := by
 refine MetFree.of_bodySF (plainFor_of_name own_pn0) hisR ?_
 intro p e s m args below meth c s₁ Bd hml0 hP hK
 obtain ⟨rfl, hZ, hh, hCH⟩ := hP
 have hEL := own_EW Z a0 hw
 have CR0 : CHr Z consts_1 s.vm h0 s.vm h0 := CHr.refl hCH
 have hx := Bd.exec
 have hby := Bd.bytes
 have hml : c.maxLocals = 6 := hml0
 have hown : s.vm.findClass "java/lang/String" = some m.cls := findClass_of_methodNamed Bd.named
 have hnm := (name_of_methodNamed Bd.named Bd.method).1
 have X0 : Stand p l e ({ frames := 1, cells := 4, slots := 8, locals := 12 } : Room) (s.setVm s.vm) m #[(.ref p0), (.ref p1), (.int 0), (.int 0), .null] below meth c s₁ [] 0 0 := Stand.of_body Bd
 have e0 : s₁.heap = h0 := by rw [← hh, Bd.state]; rfl
 have N0 := Fr.nil n0
 have hS0 : s.Since s.vm 0 := own_since s
 have hk0 : 0 ≤ h0.size := Nat.zero_le _
 have hZ : Z.Warmed39 (s.setVm s.vm).vm := hZ
 have hown : (s.setVm s.vm).vm.findClass "java/lang/String" = some m.cls := hown
 refine Go.start fun P hPend => ?_
 refine Go.st (fun _ k => castTop (own_ef_rm_emp2 m p0 p1 ((0 : Int32)) ((0 : Int32))) k) ?_
 show Go _ _ _ _ (s₁.setTop (mkF m 0 #[lR p0, lR p1, lI (0 : Int32), lI (0 : Int32), lN, lU] []))
 refine Go.st (fun _ => XS.aloadN X0.here hx rfl (hb hby od0_0) rfl rfl) ?_
 show Go _ _ _ _ (s₁.setTop (mkF m 1 #[lR p0, lR p1, lI (0 : Int32), lI (0 : Int32), lN, lU] [(.ref p0)]))
 obtain ⟨T1, X1, e1, st1⟩ := initO X0 hx hZ hown (ow hw 19 rfl) (ow hw 20 rfl) (ow hw 21 rfl) e0 (g := (mkF m 1 #[lR p0, lR p1, lI (0 : Int32), lI (0 : Int32), lN, lU] [(.ref p0)])) rfl (by rw [hml]; rfl) rfl (hb hby od0_1) (by decide) (W := 0) (by show 2 * 0 + _ ≤ _; exact Nat.le_of_eq rfl) (by decide)
 refine Go.st st1 ?_
 show Go _ _ _ _ (T1.setTop (mkF m 4 #[lR p0, lR p1, lI (0 : Int32), lI (0 : Int32), lN, lU] []))
 refine Go.st (fun _ => XS.iloadN X1.here hx rfl (hb hby od0_4) rfl) ?_
 show Go _ _ _ _ (T1.setTop (mkF m 5 #[lR p0, lR p1, lI (0 : Int32), lI (0 : Int32), lN, lU] [(.int 0)]))
 refine Go.st (fun _ => XS.ifNo X1.here hx rfl (hb hby od0_5) rfl ((if0 _ _).trans (teq (by decide)).2)) ?_
 show Go _ _ _ _ (T1.setTop (mkF m 8 #[lR p0, lR p1, lI (0 : Int32), lI (0 : Int32), lN, lU] []))
 refine Go.st (fun _ => XS.aloadN X1.here hx rfl (hb hby od0_8) rfl rfl) ?_
 show Go _ _ _ _ (T1.setTop (mkF m 9 #[lR p0, lR p1, lI (0 : Int32), lI (0 : Int32), lN, lU] [(.ref p0)]))
 obtain ⟨a2, T2, h2, kk2, b2, kb2, X2, e2, E2, hS2, hk2, hZ2, hown2, Ea2, Ca2, Va2, Ab2, alt2, blt2, hCR2, Li2, hne2, st2⟩ := ldcCH X1 hx hZ hown (ow hw 126 rfl) (fun a ha => hw a (own_strAtoms a ha)) e1 hS0 hk0 hEL (by decide +kernel) CR0.1 (vs := []) (z := (0 : Int32)) (by decide +kernel) (by decide) rfl (g := (mkF m 9 #[lR p0, lR p1, lI (0 : Int32), lI (0 : Int32), lN, lU] [(.ref p0)])) rfl (hb hby od0_9) (n := 0) (by decide +kernel) (by decide) (by decide) (by decide)
 refine Go.st st2 ?_
 have K2 : Keep h0 h2 [p0] := (Keep.refl h0 [p0]).ext E2
 have O2 := X00.ext E2
 have CR2 := CR0.trans hCR2
 have c3 := (hp0.ext E2)
 have c4 := (hp1.ext E2)
 have ne5 := hne2 p0 (own_safe_null hZ2.alike c3 c4)
 show Go _ _ _ _ (T2.setTop (mkF m 11 #[lR p0, lR p1, lI (0 : Int32), lI (0 : Int32), lN, lU] [(.ref a2), (.ref p0)]))
 obtain ⟨T6, X6, e6, st6⟩ := getF X2 hx hZ2 hown2 (host := "") (Or.inl (ow hw 36 rfl)) Via.refl e2 Va2 (g := (mkF m 11 #[lR p0, lR p1, lI (0 : Int32), lI (0 : Int32), lN, lU] [(.ref a2), (.ref p0)])) rfl rfl (hb hby od0_11)
 refine Go.st st6 ?_
 show Go _ _ _ _ (T6.setTop (mkF m 14 #[lR p0, lR p1, lI (0 : Int32), lI (0 : Int32), lN, lU] [(.ref b2), (.ref p0)]))
 have sf7 : Safe Z consts_1 T2.vm h2 p0 := (own_safe_null hZ2.alike c3 c4)
 obtain ⟨T8, h8, X8, e8, W8, st8⟩ := putF X6 hx hZ2 hown2 (host := "") (Or.inl (ow hw 36 rfl)) Via.refl e6 c4 c3 (Or.inr ⟨(ow hw 37 rfl), rfl, hnm⟩) (ow hw 10 rfl) (ty := (.array .byte)) (by decide) rfl rfl (g := (mkF m 14 #[lR p0, lR p1, lI (0 : Int32), lI (0 : Int32), lN, lU] [(.ref b2), (.ref p0)])) rfl rfl (hb hby od0_14)
 refine Go.st st8 ?_
 have sf9 := Safe.wr W8 sf7 CR2.1 sf7
 have CR8 := CR2.trans (CHr.wr W8 sf7 CR2.1)
 have K8 : Keep h0 h8 [p0] := K2.wr W8 (Or.inl (List.mem_of_getElem? (i := 0) rfl))
 have O8 := O2.wr W8 hp3
 have N8 := Fr.snoc X8 N0 hp3
 have F8 := c4.same W8
 show Go _ _ _ _ (T8.setTop (mkF m 17 #[lR p0, lR p1, lI (0 : Int32), lI (0 : Int32), lN, lU] []))
 refine Go.st (fun _ => XS.aloadN X8.here hx rfl (hb hby od0_17) rfl rfl) ?_
 show Go _ _ _ _ (T8.setTop (mkF m 18 #[lR p0, lR p1, lI (0 : Int32), lI (0 : Int32), lN, lU] [(.ref p0)]))
 have c11 := (c3.wr W8)
 have c12 := (Ea2.wr W8)
 have c13 := (Ab2.other W8 (Ne.symm ne5.2))
 obtain ⟨a10, T10, h10, kk10, b10, kb10, X10, e10, E10, hS10, hk10, hZ10, hown10, Ea10, Ca10, Va10, Ab10, alt10, blt10, hCR10, Li10, hne10, st10⟩ := ldcCH X8 hx hZ2 hown2 (ow hw 126 rfl) (fun a ha => hw a (own_strAtoms a ha)) e8 hS2 (Nat.le_trans hk2 (Keep.of_wr W8).1) hEL (by decide +kernel) CR8.1 (vs := []) (z := (0 : Int32)) (by decide +kernel) (by decide) rfl (g := (mkF m 18 #[lR p0, lR p1, lI (0 : Int32), lI (0 : Int32), lN, lU] [(.ref p0)])) rfl (hb hby od0_18) (n := 0) (by decide +kernel) (by decide) (by decide) (by decide)
 refine Go.st st10 ?_
 have K10 : Keep h0 h10 [p0] := K8.ext E10
 have O10 := O8.ext E10
 have sf14 := hCR10.safe c11.lt sf9
 have CR10 := CR8.trans hCR10
 have ne15 := hne10 p0 sf14
 show Go _ _ _ _ (T10.setTop (mkF m 20 #[lR p0, lR p1, lI (0 : Int32), lI (0 : Int32), lN, lU] [(.ref a10), (.ref p0)]))
 obtain ⟨T16, X16, e16, st16⟩ := getF X10 hx hZ10 hown10 (host := "") (Or.inl (ow hw 34 rfl)) Via.refl e10 Ca10 (g := (mkF m 20 #[lR p0, lR p1, lI (0 : Int32), lI (0 : Int32), lN, lU] [(.ref a10), (.ref p0)])) rfl rfl (hb hby od0_20)
 refine Go.st st16 ?_
 show Go _ _ _ _ (T16.setTop (mkF m 23 #[lR p0, lR p1, lI (0 : Int32), lI (0 : Int32), lN, lU] [(.int 0), (.ref p0)]))
 have c17 := (((hp2.ext E2).other W8 (Or.inr (slot_ne (Or.inr (ow hw 35 rfl)) (Or.inr (ow hw 37 rfl)) (by decide) (t := .byte) (t' := (.array .byte)) (by decide) (by decide)))).ext E10)
 have c18 := (c11.ext E10)
 obtain ⟨T19, h19, X19, e19, W19, st19⟩ := putF X16 hx hZ10 hown10 (host := "") (Or.inl (ow hw 34 rfl)) Via.refl e16 c17 c18 (Or.inr ⟨(ow hw 35 rfl), rfl, hnm⟩) (ow hw 10 rfl) (ty := .byte) (by decide) rfl rfl (g := (mkF m 23 #[lR p0, lR p1, lI (0 : Int32), lI (0 : Int32), lN, lU] [(.int 0), (.ref p0)])) rfl rfl (hb hby od0_23)
 refine Go.st st19 ?_
 have sf20 := Safe.wr W19 sf14 CR10.1 sf14
 have CR19 := CR10.trans (CHr.wr W19 sf14 CR10.1)
 have K19 : Keep h0 h19 [p0] := K10.wr W19 (Or.inl (List.mem_of_getElem? (i := 0) rfl))
 have O19 := O10.wr W19 hp3
 have N19 := Fr.snoc X19 N8 hp3
 have F19 := c17.same W19
 show Go _ _ _ _ (T19.setTop (mkF m 26 #[lR p0, lR p1, lI (0 : Int32), lI (0 : Int32), lN, lU] []))
 obtain ⟨fs, hr, hrun, hended, -, hW, hpair, hsame⟩ := X19.leaveW hS10 (by rw [e19]; exact (Nat.le_trans hk10 (Keep.of_wr W19).1)) (v := none) (fun _ => rfl)
 have hCRe := CR19.trans (CHv.at X19 hZ10 hEL CR19.1)
 refine ⟨_, ?_, hPend _ _ hrun hended ⟨_, _, rfl, ?_, ?_, ⟨_, rfl⟩, hW, hpair, hsame.mono (by decide) (by decide)⟩⟩
 ·exact X19.returnOut hx Bd.returns (hb hby od0_26) hr
 ·show Q_rm_emp2 Z _ _ _ h0 n0 _ T19.heap _
  rw [e19]
  have c21 := (c18.wr W19)
  have c22 := ((F8.ext E10).other W19 (Or.inr (slot_ne (Or.inr (ow hw 37 rfl)) (Or.inr (ow hw 35 rfl)) (by decide) (t := (.array .byte)) (t' := .byte) (by decide) (by decide))))
  have c23 := ((c13.ext E10).other W19 (Ne.symm ne5.2))
  exact ⟨b2, kb2, rfl, N19, K19, c21, F19, c22, c23⟩
 ·show CHr Z consts_1 s.vm s.heap T19.vm T19.heap
  rw [hh, e19]
  exact hCRe
theorem own_ef_rm_emp1 (m : MethodId) (x0 : Addr) (x1 : Addr) : entryFrame m #[(.ref x0), (.ref x1)] 2 = mkF m 0 #[.val (.ref x0), .val (.ref x1)] [] := by first | (simp [entryFrame, mkF, argsToLocals, Value.category]; done) | rfl
theorem od1_0 : decode jdk_42_method_3_code 0 = .ok (.aload_n 0, 1) := by decide +kernel
theorem od1_1 : decode jdk_42_method_3_code 1 = .ok (.aload_n 1, 1) := by decide +kernel
theorem od1_2 : decode jdk_42_method_3_code 2 = .ok (.iconst 0, 1) := by decide +kernel
theorem od1_3 : decode jdk_42_method_3_code 3 = .ok (.aload_n 1, 1) := by decide +kernel
theorem od1_4 : decode jdk_42_method_3_code 4 = .ok (.arraylength, 1) := by decide +kernel
theorem od1_5 : decode jdk_42_method_3_code 5 = .ok (.aconst_null, 1) := by decide +kernel
theorem od1_6 : decode jdk_42_method_3_code 6 = .ok (.invokespecial 27, 3) := by decide +kernel
theorem own_pd0 : parseMethodDescriptor "([CIILjava/lang/Void;)V" = some ⟨[(.array .char), .int, .int, (.object "java/lang/Void")], none⟩ := by decide +kernel
theorem od1_9 : decode jdk_42_method_3_code 9 = .ok (.return_, 1) := by decide +kernel
def Q_rm_emp1 (Z : State) (g_CS : Int32) (p0 : Addr) (p1 : Addr) (ka : ClassId) (h0 : Heap) (n0 : Nat) (v : Option Value) (h : Heap) (L : List Loc) : Prop := ∃ (vb : Addr) (kb : ClassId), v = none ∧ Fr n0 L ∧ Keep h0 h [p0] ∧ Exa Z h p0 "java/lang/String" ∧ Fld Z h p0 "java/lang/String" "coder" "B" (.int 0) ∧ Fld Z h p0 "java/lang/String" "value" "[B" (.ref vb) ∧ Arv Z h vb kb .byte (0 : Int32) [] (.int 0)
set_option maxRecDepth 65536 in
set_option maxHeartbeats 40000000 in
theorem rm_emp1 (l : Launch) (Z : State) (a0 : Array Value) (hw : ∀ d ∈ tables_1, d.before a0 Z = true) (ws : List Jvm.Cond) (g_CS : Int32) (S_CS : Sta Z Z.heap "java/lang/String" "COMPACT_STRINGS" "Z" (.int g_CS)) (nz_CS : ¬ (g_CS = (0 : Int32))) (p0 : Addr) (p1 : Addr) (ka : ClassId) (h0 : Heap) (n0 : Nat) (X00 : Old Z n0 h0) (hp0 : Exa Z h0 p0 "java/lang/String") (hp1 : Fld Z h0 p0 "java/lang/String" "value" "[B" .null) (hp2 : Fld Z h0 p0 "java/lang/String" "coder" "B" (.int 0)) (hp3 : n0 ≤ p0) (hp4 : Arv Z h0 p1 ka .char (0 : Int32) [] (.int 0)) :
    MetFree l (⟨"java/lang/String", "<init>", "([C)V"⟩ : MethodName) (head1 (Jvm.Cond.code (⟨"java/lang/String", "<init>", "([C)V"⟩ : MethodName) jdk_42_method_3_code 2 none :: ws) ({ frames := 2, cells := 4, slots := 8, locals := 29 } : Room)) (fun a U => a = #[(.ref p0), (.ref p1)] ∧ Z.Warmed39 U.vm ∧ U.heap = h0 ∧ CHv Z consts_1 U.vm h0) (fun _ _ _ _ _ => True) (fun _ U o U' => ∃ v L, o = .returned v ∧ Q_rm_emp1 Z g_CS p0 p1 ka h0 n0 v U'.heap L ∧ CHr Z consts_1 U.vm U.heap U'.vm U'.heap ∧ ReturnedEndW U o U' L ({ frames := 2, cells := 4, slots := 8, locals := 29 } : Room).cells ({ frames := 2, cells := 4, slots := 8, locals := 29 } : Room).slots) := by
 refine MetFree.of_bodySF (plainFor_of_name own_pn0) hisR ?_
 intro p e s m args below meth c s₁ Bd hml0 hP hK
 obtain ⟨rfl, hZ, hh, hCH⟩ := hP
 have hEL := own_EW Z a0 hw
 have CR0 : CHr Z consts_1 s.vm h0 s.vm h0 := CHr.refl hCH
 have hx := Bd.exec
 have hby := Bd.bytes
 have hml : c.maxLocals = 2 := hml0
 have hown : s.vm.findClass "java/lang/String" = some m.cls := findClass_of_methodNamed Bd.named
 have hnm := (name_of_methodNamed Bd.named Bd.method).1
 have X0 : Stand p l e ({ frames := 2, cells := 4, slots := 8, locals := 29 } : Room) (s.setVm s.vm) m #[(.ref p0), (.ref p1)] below meth c s₁ [] 0 0 := Stand.of_body Bd
 have e0 : s₁.heap = h0 := by rw [← hh, Bd.state]; rfl
 have N0 := Fr.nil n0
 have hS0 : s.Since s.vm 0 := own_since s
 have hk0 : 0 ≤ h0.size := Nat.zero_le _
 have hZ : Z.Warmed39 (s.setVm s.vm).vm := hZ
 have hown : (s.setVm s.vm).vm.findClass "java/lang/String" = some m.cls := hown
 refine Go.start fun P hPend => ?_
 refine Go.st (fun _ k => castTop (own_ef_rm_emp1 m p0 p1) k) ?_
 show Go _ _ _ _ (s₁.setTop (mkF m 0 #[lR p0, lR p1] []))
 refine Go.st (fun _ => XS.aloadN X0.here hx rfl (hb hby od1_0) rfl rfl) ?_
 refine Go.st (fun _ => XS.aloadN X0.here hx rfl (hb hby od1_1) rfl rfl) ?_
 refine Go.st (fun _ => XS.iconst X0.here hx rfl (hb hby od1_2)) ?_
 refine Go.st (fun _ => XS.aloadN X0.here hx rfl (hb hby od1_3) rfl rfl) ?_
 show Go _ _ _ _ (s₁.setTop (mkF m 4 #[lR p0, lR p1] [(.ref p1), (.int 0), (.ref p1), (.ref p0)]))
 refine Go.st (fun _ => own_len X0 hx hZ e0 hp4 (g := (mkF m 4 #[lR p0, lR p1] [(.ref p1), (.int 0), (.ref p1), (.ref p0)])) rfl rfl (hb hby od1_4) _) ?_
 show Go _ _ _ _ (s₁.setTop (mkF m 5 #[lR p0, lR p1] [(.int 0), (.int 0), (.ref p1), (.ref p0)]))
 refine Go.st (fun _ => XS.aconstNull X0.here hx rfl (hb hby od1_5)) ?_
 show Go _ _ _ _ (s₁.setTop (mkF m 6 #[lR p0, lR p1] [.null, (.int 0), (.int 0), (.ref p1), (.ref p0)]))
 obtain ⟨_, _, ⟨T1, L1, k1, n1⟩, -, X1, hS1, hg1, ⟨Lc1, hQ1, l1, y1, z1, hCR1⟩, st1⟩ := X0.specialBackS hx (y := (⟨"java/lang/String", "<init>", "([CIILjava/lang/Void;)V"⟩ : MethodName)) rfl hown (mvT hZ (ow hw 15 rfl)) (mvT hZ (ow hw 16 rfl)) (mvT hZ (ow hw 18 rfl)) (by decide) (backOfSH (W := 0) (rm_emp2 l Z a0 hw [] g_CS S_CS nz_CS p0 p1 h0 n0 X00 hp0 hp1 hp2 hp3) hZ (ow hw 18 rfl) (ow hw 11 rfl) (by decide) (by decide) hEL CR0.1) (g := (mkF m 6 #[lR p0, lR p1] [.null, (.int 0), (.int 0), (.ref p1), (.ref p0)])) rfl (by rw [hml]; rfl) (Steps.refl _) (a := p0) (argsL := [(.ref p1), (.int 0), (.int 0), .null]) (rest := []) (lenOf own_pd0 rfl) rfl (by show 2 * 0 + _ ≤ _; exact Nat.le_of_eq rfl) (hb hby od1_6) (fun _ _ => ⟨rfl, e0, (by decide : 0 + 4 ≤ _), (by decide : 0 + 8 ≤ _)⟩)
 dsimp only [Pt.U, Pt.locs, Pt.cells, Pt.slots] at X1 l1 y1 z1 st1 hQ1 hS1 hg1 hCR1
 subst y1 z1
 refine Go.tr st1 ?_
 obtain ⟨XX1, hSS1, hZ1, hown1⟩ := rebS hS0 (by rw [e0]; exact hk0) X1 hS1 hg1 hZ hown
 obtain ⟨vb_2, kb_3, rfl, N1q, K1q, q1_0, q1_1, q1_2, q1_3⟩ := hQ1
 have N1 : Fr n0 L1 := by rw [l1]; exact Fr.app N0 N1q
 have CR1 := CR0.trans hCR1
 have O1 := X00.keep K1q (allS hp3 all0)
 have K1 : Keep h0 T1.heap [p0] := (Keep.refl h0 [p0]).trans K1q (allS (Or.inl (List.mem_of_getElem? (i := 0) rfl)) all0)
 show Go _ _ _ _ (T1.setTop (mkF m 9 #[lR p0, lR p1] []))
 obtain ⟨fs, hr, hrun, hended, -, hW, hpair, hsame⟩ := XX1.leaveW hSS1 (Nat.le_refl _) (v := none) (fun _ => rfl)
 have hCRe := CR1.trans (CHv.at XX1 hZ1 hEL CR1.1)
 refine ⟨_, ?_, hPend _ _ hrun hended ⟨_, _, rfl, ?_, ?_, ⟨_, rfl⟩, hW, hpair, hsame.mono (by decide) (by decide)⟩⟩
 ·exact XX1.returnOut hx Bd.returns (hb hby od1_9) hr
 ·show Q_rm_emp1 Z _ _ _ _ h0 n0 _ T1.heap _
  exact ⟨vb_2, kb_3, rfl, N1, K1, q1_0, q1_1, q1_2, q1_3⟩
 ·show CHr Z consts_1 s.vm s.heap T1.vm T1.heap
  rw [hh]
  exact hCRe
theorem own_ef_rm_canEnc (m : MethodId) (x0 : Int32) : entryFrame m #[(.int x0)] 1 = mkF m 0 #[.val (.int x0)] [] := by first | (simp [entryFrame, mkF, argsToLocals, Value.category]; done) | rfl
theorem own_pn1 : plainName "java/lang/StringLatin1" = true := by first | (simp [plainName, overriddenIn]; done) | decide +kernel
theorem od2_0 : decode jdk_43_method_3_code 0 = .ok (.iload_n 0, 1) := by decide +kernel
theorem od2_1 : decode jdk_43_method_3_code 1 = .ok (.sipush 255, 3) := by decide +kernel
theorem od2_4 : decode jdk_43_method_3_code 4 = .ok (.if_icmp .gt 7, 3) := by decide +kernel
theorem od2_7 : decode jdk_43_method_3_code 7 = .ok (.iconst 1, 1) := by decide +kernel
theorem od2_8 : decode jdk_43_method_3_code 8 = .ok (.goto 4, 3) := by decide +kernel
theorem od2_12 : decode jdk_43_method_3_code 12 = .ok (.ireturn, 1) := by decide +kernel
def Q_rm_canEnc (Z : State) (g_CS : Int32) (p0 : Int32) (h0 : Heap) (n0 : Nat) (v : Option Value) (h : Heap) (L : List Loc) : Prop := v = some (.int 1) ∧ Fr n0 L ∧ h = h0
set_option maxRecDepth 65536 in
set_option maxHeartbeats 40000000 in
theorem rm_canEnc (l : Launch) (Z : State) (a0 : Array Value) (hw : ∀ d ∈ tables_1, d.before a0 Z = true) (ws : List Jvm.Cond) (g_CS : Int32) (S_CS : Sta Z Z.heap "java/lang/String" "COMPACT_STRINGS" "Z" (.int g_CS)) (nz_CS : ¬ (g_CS = (0 : Int32))) (p0 : Int32) (h0 : Heap) (n0 : Nat) (X00 : Old Z n0 h0) (hsm : ¬ p0 < 0 ∧ ¬ (255 : Int32) < p0) :
    MetFree l (⟨"java/lang/StringLatin1", "canEncode", "(C)Z"⟩ : MethodName) (head1 (Jvm.Cond.code (⟨"java/lang/StringLatin1", "canEncode", "(C)Z"⟩ : MethodName) jdk_43_method_3_code 1 (some .boolean) :: ws) ({ frames := 0, cells := 0, slots := 0, locals := 0 } : Room)) (fun a U => a = #[(.int p0)] ∧ Z.Warmed39 U.vm ∧ U.heap = h0) (fun _ _ _ _ _ => True) (fun _ U o U' => ∃ v L, o = .returned v ∧ Q_rm_canEnc Z g_CS p0 h0 n0 v U'.heap L ∧ FrameEnd U o U' L ({ frames := 0, cells := 0, slots := 0, locals := 0 } : Room).cells ({ frames := 0, cells := 0, slots := 0, locals := 0 } : Room).slots) := by
 refine MetFree.of_bodySF (plainFor_of_name own_pn1) hisR ?_
 intro p e s m args below meth c s₁ Bd hml0 hP hK
 obtain ⟨rfl, hZ, hh⟩ := hP
 have hx := Bd.exec
 have hby := Bd.bytes
 have hml : c.maxLocals = 1 := hml0
 have hown : s.vm.findClass "java/lang/StringLatin1" = some m.cls := findClass_of_methodNamed Bd.named
 have hnm := (name_of_methodNamed Bd.named Bd.method).1
 have X0 : Stand p l e ({ frames := 0, cells := 0, slots := 0, locals := 0 } : Room) s m #[(.int p0)] below meth c s₁ [] 0 0 := Stand.of_body Bd
 have e0 : s₁.heap = h0 := by rw [← hh, Bd.state]; rfl
 have N0 := Fr.nil n0
 refine Go.start fun P hPend => ?_
 refine Go.st (fun _ k => castTop (own_ef_rm_canEnc m p0) k) ?_
 show Go _ _ _ _ (s₁.setTop (mkF m 0 #[lI p0] []))
 refine Go.st (fun _ => XS.iloadN X0.here hx rfl (hb hby od2_0) rfl) ?_
 refine Go.st (fun _ => XS.sipush X0.here hx rfl (hb hby od2_1)) ?_
 show Go _ _ _ _ (s₁.setTop (mkF m 4 #[lI p0] [(.int 255), (.int p0)]))
 have hb1 : ¬ ((255 : Int32) < p0) := hsm.2
 refine Go.st (fun _ => XS.icmpNo X0.here hx rfl (hb hby od2_4) rfl (flt hb1).2.2.1) ?_
 show Go _ _ _ _ (s₁.setTop (mkF m 7 #[lI p0] []))
 refine Go.st (fun _ => XS.iconst X0.here hx rfl (hb hby od2_7)) ?_
 show Go _ _ _ _ (s₁.setTop (mkF m 8 #[lI p0] [(.int 1)]))
 refine Go.st (fun _ => XS.goto X0.here hx rfl (pc0 := 8) (pc' := 12) rfl (hb hby od2_8) (by decide) (by decide)) ?_
 show Go _ _ _ _ (s₁.setTop (mkF m 12 #[lI p0] [(.int 1)]))
 obtain ⟨fs, hr, hrun, hended, hW, hsame⟩ := X0.leave (v := some (.int 1)) (fun h => by rw [Bd.returns] at h; cases h)
 refine ⟨_, ?_, hPend _ _ hrun hended ⟨_, _, rfl, ?_, ⟨_, rfl⟩, hW, hsame.mono (by decide) (by decide)⟩⟩
 ·exact retN X0 hx (t := .boolean) Bd.returns (by simp) (hb hby od2_12) hr
 ·show Q_rm_canEnc Z _ _ h0 n0 _ s₁.heap _
  rw [e0]
  exact ⟨rfl, N0, rfl⟩
theorem own_ef_rm_toB (m : MethodId) (x0 : Int32) : entryFrame m #[(.int x0)] 1 = mkF m 0 #[.val (.int x0)] [] := by first | (simp [entryFrame, mkF, argsToLocals, Value.category]; done) | rfl
theorem od3_0 : decode jdk_43_method_46_code 0 = .ok (.iconst 1, 1) := by decide +kernel
theorem od3_1 : decode jdk_43_method_46_code 1 = .ok (.newarray .byte, 2) := by decide +kernel
theorem od3_3 : decode jdk_43_method_46_code 3 = .ok (.dup, 1) := by decide +kernel
theorem od3_4 : decode jdk_43_method_46_code 4 = .ok (.iconst 0, 1) := by decide +kernel
theorem od3_5 : decode jdk_43_method_46_code 5 = .ok (.iload_n 0, 1) := by decide +kernel
theorem od3_6 : decode jdk_43_method_46_code 6 = .ok (.i2b, 1) := by decide +kernel
theorem od3_7 : decode jdk_43_method_46_code 7 = .ok (.bastore, 1) := by decide +kernel
theorem od3_8 : decode jdk_43_method_46_code 8 = .ok (.areturn, 1) := by decide +kernel
def Q_rm_toB (Z : State) (g_CS : Int32) (p0 : Int32) (h0 : Heap) (n0 : Nat) (v : Option Value) (h : Heap) (L : List Loc) : Prop := ∃ (ob : Addr) (kb : ClassId), v = some (.ref ob) ∧ Fr n0 L ∧ Keep h0 h [] ∧ h0.size ≤ ob ∧ Arv Z h ob kb .byte (1 : Int32) [(.int p0.toInt8.toInt32)] (.int 0)
set_option maxRecDepth 65536 in
set_option maxHeartbeats 40000000 in
theorem rm_toB (l : Launch) (Z : State) (a0 : Array Value) (hw : ∀ d ∈ tables_1, d.before a0 Z = true) (ws : List Jvm.Cond) (g_CS : Int32) (S_CS : Sta Z Z.heap "java/lang/String" "COMPACT_STRINGS" "Z" (.int g_CS)) (nz_CS : ¬ (g_CS = (0 : Int32))) (p0 : Int32) (h0 : Heap) (n0 : Nat) (X00 : Old Z n0 h0)  :
    MetFree l (⟨"java/lang/StringLatin1", "toBytes", "(C)[B"⟩ : MethodName) (head1 (Jvm.Cond.code (⟨"java/lang/StringLatin1", "toBytes", "(C)[B"⟩ : MethodName) jdk_43_method_46_code 1 (some (.array .byte)) :: ws) ({ frames := 0, cells := 1, slots := 1, locals := 0 } : Room)) (fun a U => a = #[(.int p0)] ∧ Z.Warmed39 U.vm ∧ U.heap = h0) (fun _ _ _ _ _ => True) (fun _ U o U' => ∃ v L, o = .returned v ∧ Q_rm_toB Z g_CS p0 h0 n0 v U'.heap L ∧ FrameEnd U o U' L ({ frames := 0, cells := 1, slots := 1, locals := 0 } : Room).cells ({ frames := 0, cells := 1, slots := 1, locals := 0 } : Room).slots) := by
 refine MetFree.of_bodySF (plainFor_of_name own_pn1) hisR ?_
 intro p e s m args below meth c s₁ Bd hml0 hP hK
 obtain ⟨rfl, hZ, hh⟩ := hP
 have hx := Bd.exec
 have hby := Bd.bytes
 have hml : c.maxLocals = 1 := hml0
 have hown : s.vm.findClass "java/lang/StringLatin1" = some m.cls := findClass_of_methodNamed Bd.named
 have hnm := (name_of_methodNamed Bd.named Bd.method).1
 have X0 : Stand p l e ({ frames := 0, cells := 1, slots := 1, locals := 0 } : Room) s m #[(.int p0)] below meth c s₁ [] 0 0 := Stand.of_body Bd
 have e0 : s₁.heap = h0 := by rw [← hh, Bd.state]; rfl
 have N0 := Fr.nil n0
 refine Go.start fun P hPend => ?_
 refine Go.st (fun _ k => castTop (own_ef_rm_toB m p0) k) ?_
 show Go _ _ _ _ (s₁.setTop (mkF m 0 #[lI p0] []))
 refine Go.st (fun _ => XS.iconst X0.here hx rfl (hb hby od3_0)) ?_
 show Go _ _ _ _ (s₁.setTop (mkF m 1 #[lI p0] [(.int 1)]))
 obtain ⟨T1, h1, k1, X1, e1, E1, A1, st1⟩ := newP X0 hx hZ (ow hw 27 rfl) e0 (g := (mkF m 1 #[lI p0] [(.int 1)])) rfl (hb hby od3_1) rfl (by decide) (cap := 1) (by decide) (by decide) (by decide) (by decide)
 obtain ⟨b1, g1⟩ : ∃ z, z = h0.size := ⟨_, rfl⟩
 rw [← g1] at A1 st1
 refine Go.st st1 ?_
 have g_b1 : n0 ≤ b1 := Nat.le_trans (own_oldsz X00) (Nat.le_of_eq g1.symm)
 have sz_b1 : h0.size ≤ b1 := Nat.le_trans (Keep.refl h0 []).1 (Nat.le_of_eq g1.symm)
 have K1 : Keep h0 h1 [] := (Keep.refl h0 []).ext E1
 have O1 := X00.ext E1
 have V1 : Arv Z h1 b1 k1 .byte (1 : Int32) [(.int 0)] (.int 0) := (Arv.new A1 (by decide)).pad (pad_rep [] (.int 0) 1)
 show Go _ _ _ _ (T1.setTop (mkF m 3 #[lI p0] [(.ref b1)]))
 refine Go.st (fun _ => XS.dup X1.here hx rfl (hb hby od3_3) rfl rfl) ?_
 refine Go.st (fun _ => XS.iconst X1.here hx rfl (hb hby od3_4)) ?_
 refine Go.st (fun _ => XS.iloadN X1.here hx rfl (hb hby od3_5) rfl) ?_
 show Go _ _ _ _ (T1.setTop (mkF m 6 #[lI p0] [(.int p0), (.int 0), (.ref b1), (.ref b1)]))
 refine Go.st (fun _ => XS.i2b X1.here hx rfl (hb hby od3_6) rfl) ?_
 show Go _ _ _ _ (T1.setTop (mkF m 7 #[lI p0] [(.int (p0.toInt8.toInt32)), (.int 0), (.ref b1), (.ref b1)]))
 obtain ⟨T2, h2, X2, e2, W2, V2, st2⟩ := own_stB X1 hx hZ e1 V1 (j := (0 : Int32)) (i := 0) (by decide) (by decide) (Nat.le_of_ble_eq_true rfl) (g := (mkF m 7 #[lI p0] [(.int (p0.toInt8.toInt32)), (.int 0), (.ref b1), (.ref b1)])) rfl rfl (hb hby od3_7)
 refine Go.st st2 ?_
 rw [show nar .byte (p0.toInt8.toInt32) = (p0.toInt8.toInt32) from own_nar_i2b _] at V2
 have K2 : Keep h0 h2 [] := K1.wr W2 (Or.inr sz_b1)
 have O2 := O1.wr W2 g_b1
 have N2 := Fr.snoc X2 N0 g_b1
 have V2' : Arv Z h2 b1 k1 .byte (1 : Int32) [(.int (p0.toInt8.toInt32))] (.int 0) := V2
 show Go _ _ _ _ (T2.setTop (mkF m 8 #[lI p0] [(.ref b1)]))
 obtain ⟨fs, hr, hrun, hended, hW, hsame⟩ := X2.leave (v := some (.ref b1)) (fun h => by rw [Bd.returns] at h; cases h)
 refine ⟨_, ?_, hPend _ _ hrun hended ⟨_, _, rfl, ?_, ⟨_, rfl⟩, hW, hsame.mono (by decide) (by decide)⟩⟩
 ·exact retOut X2 hx (t := (.array .byte)) Bd.returns rfl (Or.inr (Or.inr (Or.inr (Or.inr ⟨rfl, rfl, rfl⟩)))) (hb hby od3_8) hr
 ·show Q_rm_toB Z _ _ h0 n0 _ T2.heap _
  rw [e2]
  exact ⟨b1, k1, rfl, N2, K2, sz_b1, V2'⟩
theorem own_ef_rm_sBB (m : MethodId) (x0 : Addr) (x1 : Addr) (x2 : Int32) : entryFrame m #[(.ref x0), (.ref x1), (.int x2)] 3 = mkF m 0 #[.val (.ref x0), .val (.ref x1), .val (.int x2)] [] := by first | (simp [entryFrame, mkF, argsToLocals, Value.category]; done) | rfl
theorem od4_0 : decode jdk_42_method_151_code 0 = .ok (.aload_n 0, 1) := by decide +kernel
theorem od4_1 : decode jdk_42_method_151_code 1 = .ok (.invokespecial 1, 3) := by decide +kernel
theorem od4_4 : decode jdk_42_method_151_code 4 = .ok (.aload_n 0, 1) := by decide +kernel
theorem od4_5 : decode jdk_42_method_151_code 5 = .ok (.aload_n 1, 1) := by decide +kernel
theorem od4_6 : decode jdk_42_method_151_code 6 = .ok (.putfield 9, 3) := by decide +kernel
theorem od4_9 : decode jdk_42_method_151_code 9 = .ok (.aload_n 0, 1) := by decide +kernel
theorem od4_10 : decode jdk_42_method_151_code 10 = .ok (.iload_n 2, 1) := by decide +kernel
theorem od4_11 : decode jdk_42_method_151_code 11 = .ok (.putfield 15, 3) := by decide +kernel
theorem od4_14 : decode jdk_42_method_151_code 14 = .ok (.return_, 1) := by decide +kernel
def Q_rm_sBB (Z : State) (g_CS : Int32) (p0 : Addr) (p1 : Addr) (p2 : Int32) (h0 : Heap) (n0 : Nat) (v : Option Value) (h : Heap) (L : List Loc) : Prop := v = none ∧ Fr n0 L ∧ Keep h0 h [p0] ∧ Exa Z h p0 "java/lang/String" ∧ Fld Z h p0 "java/lang/String" "value" "[B" (.ref p1) ∧ Fld Z h p0 "java/lang/String" "coder" "B" (.int p2)
set_option maxRecDepth 65536 in
set_option maxHeartbeats 40000000 in
theorem rm_sBB (l : Launch) (Z : State) (a0 : Array Value) (hw : ∀ d ∈ tables_1, d.before a0 Z = true) (ws : List Jvm.Cond) (g_CS : Int32) (S_CS : Sta Z Z.heap "java/lang/String" "COMPACT_STRINGS" "Z" (.int g_CS)) (nz_CS : ¬ (g_CS = (0 : Int32))) (p0 : Addr) (p1 : Addr) (p2 : Int32) (h0 : Heap) (n0 : Nat) (X00 : Old Z n0 h0) (hp0 : Exa Z h0 p0 "java/lang/String") (hp1 : Fld Z h0 p0 "java/lang/String" "value" "[B" .null) (hp2 : Fld Z h0 p0 "java/lang/String" "coder" "B" (.int 0)) (hp3 : n0 ≤ p0) (hn2 : narrow .byte (.int p2) = .int p2) (hf2 : fits .byte (.int p2) = true) :
    MetFree l (⟨"java/lang/String", "<init>", "([BB)V"⟩ : MethodName) (head1 (Jvm.Cond.code (⟨"java/lang/String", "<init>", "([BB)V"⟩ : MethodName) jdk_42_method_151_code 3 none :: ws) ({ frames := 1, cells := 0, slots := 0, locals := 12 } : Room)) (fun a U => a = #[(.ref p0), (.ref p1), (.int p2)] ∧ Z.Warmed39 U.vm ∧ U.heap = h0) (fun _ _ _ _ _ => True) (fun _ U o U' => ∃ v L, o = .returned v ∧ Q_rm_sBB Z g_CS p0 p1 p2 h0 n0 v U'.heap L ∧ FrameEnd U o U' L ({ frames := 1, cells := 0, slots := 0, locals := 12 } : Room).cells ({ frames := 1, cells := 0, slots := 0, locals := 12 } : Room).slots) := by
 refine MetFree.of_bodySF (plainFor_of_name own_pn0) hisR ?_
 intro p e s m args below meth c s₁ Bd hml0 hP hK
 obtain ⟨rfl, hZ, hh⟩ := hP
 have hx := Bd.exec
 have hby := Bd.bytes
 have hml : c.maxLocals = 3 := hml0
 have hown : s.vm.findClass "java/lang/String" = some m.cls := findClass_of_methodNamed Bd.named
 have hnm := (name_of_methodNamed Bd.named Bd.method).1
 have X0 : Stand p l e ({ frames := 1, cells := 0, slots := 0, locals := 12 } : Room) s m #[(.ref p0), (.ref p1), (.int p2)] below meth c s₁ [] 0 0 := Stand.of_body Bd
 have e0 : s₁.heap = h0 := by rw [← hh, Bd.state]; rfl
 have N0 := Fr.nil n0
 refine Go.start fun P hPend => ?_
 refine Go.st (fun _ k => castTop (own_ef_rm_sBB m p0 p1 p2) k) ?_
 show Go _ _ _ _ (s₁.setTop (mkF m 0 #[lR p0, lR p1, lI p2] []))
 refine Go.st (fun _ => XS.aloadN X0.here hx rfl (hb hby od4_0) rfl rfl) ?_
 show Go _ _ _ _ (s₁.setTop (mkF m 1 #[lR p0, lR p1, lI p2] [(.ref p0)]))
 obtain ⟨T1, X1, e1, st1⟩ := initO X0 hx hZ hown (ow hw 19 rfl) (ow hw 20 rfl) (ow hw 21 rfl) e0 (g := (mkF m 1 #[lR p0, lR p1, lI p2] [(.ref p0)])) rfl (by rw [hml]; rfl) rfl (hb hby od4_1) (by decide) (W := 0) (by show 2 * 0 + _ ≤ _; exact Nat.le_of_eq rfl) (by decide)
 refine Go.st st1 ?_
 show Go _ _ _ _ (T1.setTop (mkF m 4 #[lR p0, lR p1, lI p2] []))
 refine Go.st (fun _ => XS.aloadN X1.here hx rfl (hb hby od4_4) rfl rfl) ?_
 refine Go.st (fun _ => XS.aloadN X1.here hx rfl (hb hby od4_5) rfl rfl) ?_
 show Go _ _ _ _ (T1.setTop (mkF m 6 #[lR p0, lR p1, lI p2] [(.ref p1), (.ref p0)]))
 obtain ⟨T2, h2, X2, e2, W2, st2⟩ := putF X1 hx hZ hown (host := "") (Or.inl (ow hw 36 rfl)) Via.refl e1 hp1 hp0 (Or.inr ⟨(ow hw 37 rfl), rfl, hnm⟩) (ow hw 10 rfl) (ty := (.array .byte)) (by decide) rfl rfl (g := (mkF m 6 #[lR p0, lR p1, lI p2] [(.ref p1), (.ref p0)])) rfl rfl (hb hby od4_6)
 refine Go.st st2 ?_
 have K2 : Keep h0 h2 [p0] := (Keep.refl h0 [p0]).wr W2 (Or.inl (List.mem_of_getElem? (i := 0) rfl))
 have O2 := X00.wr W2 hp3
 have N2 := Fr.snoc X2 N0 hp3
 have F2 := hp1.same W2
 show Go _ _ _ _ (T2.setTop (mkF m 9 #[lR p0, lR p1, lI p2] []))
 refine Go.st (fun _ => XS.aloadN X2.here hx rfl (hb hby od4_9) rfl rfl) ?_
 refine Go.st (fun _ => XS.iloadN X2.here hx rfl (hb hby od4_10) rfl) ?_
 show Go _ _ _ _ (T2.setTop (mkF m 11 #[lR p0, lR p1, lI p2] [(.int p2), (.ref p0)]))
 have c3 := (hp2.other W2 (Or.inr (slot_ne (Or.inr (ow hw 35 rfl)) (Or.inr (ow hw 37 rfl)) (by decide) (t := .byte) (t' := (.array .byte)) (by decide) (by decide))))
 have c4 := (hp0.wr W2)
 obtain ⟨T5, h5, X5, e5, W5, st5⟩ := putF X2 hx hZ hown (host := "") (Or.inl (ow hw 34 rfl)) Via.refl e2 c3 c4 (Or.inr ⟨(ow hw 35 rfl), rfl, hnm⟩) (ow hw 10 rfl) (ty := .byte) (by decide) hn2 hf2 (g := (mkF m 11 #[lR p0, lR p1, lI p2] [(.int p2), (.ref p0)])) rfl rfl (hb hby od4_11)
 refine Go.st st5 ?_
 have K5 : Keep h0 h5 [p0] := K2.wr W5 (Or.inl (List.mem_of_getElem? (i := 0) rfl))
 have O5 := O2.wr W5 hp3
 have N5 := Fr.snoc X5 N2 hp3
 have F5 := c3.same W5
 show Go _ _ _ _ (T5.setTop (mkF m 14 #[lR p0, lR p1, lI p2] []))
 obtain ⟨fs, hr, hrun, hended, hW, hsame⟩ := X5.leave (v := none) (fun _ => rfl)
 refine ⟨_, ?_, hPend _ _ hrun hended ⟨_, _, rfl, ?_, ⟨_, rfl⟩, hW, hsame.mono (by decide) (by decide)⟩⟩
 ·exact X5.returnOut hx Bd.returns (hb hby od4_14) hr
 ·show Q_rm_sBB Z _ _ _ _ h0 n0 _ T5.heap _
  rw [e5]
  have c6 := (c4.wr W5)
  have c7 := (F2.other W5 (Or.inr (slot_ne (Or.inr (ow hw 37 rfl)) (Or.inr (ow hw 35 rfl)) (by decide) (t := (.array .byte)) (t' := .byte) (by decide) (by decide))))
  exact ⟨rfl, N5, K5, c6, c7, F5⟩
theorem own_ef_rm_valOf (m : MethodId) (x0 : Int32) : entryFrame m #[(.int x0)] 1 = mkF m 0 #[.val (.int x0)] [] := by first | (simp [entryFrame, mkF, argsToLocals, Value.category]; done) | rfl
theorem od5_0 : decode jdk_42_method_139_code 0 = .ok (.getstatic 38, 3) := by decide +kernel
theorem od5_3 : decode jdk_42_method_139_code 3 = .ok (.ifCond .eq 23, 3) := by decide +kernel
theorem od5_6 : decode jdk_42_method_139_code 6 = .ok (.iload_n 0, 1) := by decide +kernel
theorem od5_7 : decode jdk_42_method_139_code 7 = .ok (.invokestatic 1015, 3) := by decide +kernel
theorem own_pd1 : parseMethodDescriptor "(C)Z" = some ⟨[.char], some .boolean⟩ := by decide +kernel
theorem od5_10 : decode jdk_42_method_139_code 10 = .ok (.ifCond .eq 16, 3) := by decide +kernel
theorem od5_13 : decode jdk_42_method_139_code 13 = .ok (.new 10, 3) := by decide +kernel
theorem od5_16 : decode jdk_42_method_139_code 16 = .ok (.dup, 1) := by decide +kernel
theorem od5_17 : decode jdk_42_method_139_code 17 = .ok (.iload_n 0, 1) := by decide +kernel
theorem od5_18 : decode jdk_42_method_139_code 18 = .ok (.invokestatic 1018, 3) := by decide +kernel
theorem own_pd2 : parseMethodDescriptor "(C)[B" = some ⟨[.char], some (.array .byte)⟩ := by decide +kernel
theorem od5_21 : decode jdk_42_method_139_code 21 = .ok (.iconst 0, 1) := by decide +kernel
theorem od5_22 : decode jdk_42_method_139_code 22 = .ok (.invokespecial 209, 3) := by decide +kernel
theorem own_pd3 : parseMethodDescriptor "([BB)V" = some ⟨[(.array .byte), .byte], none⟩ := by decide +kernel
theorem od5_25 : decode jdk_42_method_139_code 25 = .ok (.areturn, 1) := by decide +kernel
def Q_rm_valOf (Z : State) (g_CS : Int32) (p0 : Int32) (h0 : Heap) (n0 : Nat) (v : Option Value) (h : Heap) (L : List Loc) : Prop := ∃ (ob : Addr) (vb : Addr) (kb : ClassId), v = some (.ref ob) ∧ Fr n0 L ∧ Keep h0 h [] ∧ h0.size ≤ ob ∧ h0.size ≤ vb ∧ Exa Z h ob "java/lang/String" ∧ Fld Z h ob "java/lang/String" "coder" "B" (.int 0) ∧ Fld Z h ob "java/lang/String" "value" "[B" (.ref vb) ∧ Arv Z h vb kb .byte (1 : Int32) [(.int p0.toInt8.toInt32)] (.int 0)
set_option maxRecDepth 65536 in
set_option maxHeartbeats 40000000 in
theorem rm_valOf (l : Launch) (Z : State) (a0 : Array Value) (hw : ∀ d ∈ tables_1, d.before a0 Z = true) (ws : List Jvm.Cond) (g_CS : Int32) (S_CS : Sta Z Z.heap "java/lang/String" "COMPACT_STRINGS" "Z" (.int g_CS)) (nz_CS : ¬ (g_CS = (0 : Int32))) (p0 : Int32) (h0 : Heap) (n0 : Nat) (X00 : Old Z n0 h0) (hsm : ¬ p0 < 0 ∧ ¬ (255 : Int32) < p0) :
    MetFree l (⟨"java/lang/String", "valueOf", "(C)Ljava/lang/String;"⟩ : MethodName) (head1 (Jvm.Cond.code (⟨"java/lang/String", "valueOf", "(C)Ljava/lang/String;"⟩ : MethodName) jdk_42_method_139_code 1 (some (.object "java/lang/String")) :: ws) ({ frames := 2, cells := 2, slots := 5, locals := 27 } : Room)) (fun a U => a = #[(.int p0)] ∧ Z.Warmed39 U.vm ∧ U.heap = h0) (fun _ _ _ _ _ => True) (fun _ U o U' => ∃ v L, o = .returned v ∧ Q_rm_valOf Z g_CS p0 h0 n0 v U'.heap L ∧ FrameEnd U o U' L ({ frames := 2, cells := 2, slots := 5, locals := 27 } : Room).cells ({ frames := 2, cells := 2, slots := 5, locals := 27 } : Room).slots) := by
 refine MetFree.of_bodySF (plainFor_of_name own_pn0) hisR ?_
 intro p e s m args below meth c s₁ Bd hml0 hP hK
 obtain ⟨rfl, hZ, hh⟩ := hP
 have hx := Bd.exec
 have hby := Bd.bytes
 have hml : c.maxLocals = 1 := hml0
 have hown : s.vm.findClass "java/lang/String" = some m.cls := findClass_of_methodNamed Bd.named
 have hnm := (name_of_methodNamed Bd.named Bd.method).1
 have X0 : Stand p l e ({ frames := 2, cells := 2, slots := 5, locals := 27 } : Room) s m #[(.int p0)] below meth c s₁ [] 0 0 := Stand.of_body Bd
 have e0 : s₁.heap = h0 := by rw [← hh, Bd.state]; rfl
 have N0 := Fr.nil n0
 refine Go.start fun P hPend => ?_
 refine Go.st (fun _ k => castTop (own_ef_rm_valOf m p0) k) ?_
 show Go _ _ _ _ (s₁.setTop (mkF m 0 #[lI p0] []))
 obtain ⟨T1, X1, e1, st1⟩ := getS2 X0 hx hZ hown (host := "") (Or.inl (ow hw 22 rfl)) Via.refl e0 (S_CS.ext X00.2) (g := (mkF m 0 #[lI p0] [])) rfl (hb hby od5_0)
 refine Go.st st1 ?_
 show Go _ _ _ _ (T1.setTop (mkF m 3 #[lI p0] [(.int g_CS)]))
 have hb2 : ¬ (g_CS = (0 : Int32)) := nz_CS
 refine Go.st (fun _ => XS.ifNo X1.here hx rfl (hb hby od5_3) rfl ((if0 _ _).trans (feq hb2).1)) ?_
 show Go _ _ _ _ (T1.setTop (mkF m 6 #[lI p0] []))
 refine Go.st (fun _ => XS.iloadN X1.here hx rfl (hb hby od5_6) rfl) ?_
 show Go _ _ _ _ (T1.setTop (mkF m 7 #[lI p0] [(.int p0)]))
 obtain ⟨_, _, ⟨T3, L3, k3, n3⟩, -, X3, ⟨Lc3, hQ3, l3, y3, z3⟩, st3⟩ := Jvm.LawKit.callS X1 hx (y := (⟨"java/lang/StringLatin1", "canEncode", "(C)Z"⟩ : MethodName)) hown (mvT hZ (ow hw 108 rfl)) (mvT hZ (ow hw 109 rfl)) (mvT hZ (ow hw 67 rfl)) (mvT hZ (ow hw 110 rfl)) (by decide) (backOf (W := 0) (rm_canEnc l Z a0 hw [] g_CS S_CS nz_CS p0 h0 n0 X00 hsm) hZ (ow hw 110 rfl) (ow hw 67 rfl) (by decide) (by decide)) (g := (mkF m 7 #[lI p0] [(.int p0)])) rfl (by rw [hml]; rfl) (argsL := [(.int p0)]) (rest := []) (lenOf own_pd1 rfl) rfl (by show 2 * 0 + _ ≤ _; exact Nat.le_of_eq rfl) (hb hby od5_7) (fun _ _ => ⟨rfl, e1, (by decide : 0 + 0 ≤ _), (by decide : 0 + 0 ≤ _)⟩)
 dsimp only [Pt.U, Pt.locs, Pt.cells, Pt.slots] at X3 l3 y3 z3 st3 hQ3
 subst y3 z3
 refine Go.st st3 ?_
 obtain ⟨rfl, N3q, e3⟩ := hQ3
 have N3 : Fr n0 L3 := by rw [l3]; exact Fr.app N0 N3q
 show Go _ _ _ _ (T3.setTop (mkF m 10 #[lI p0] [(.int 1)]))
 refine Go.st (fun _ => XS.ifNo X3.here hx rfl (hb hby od5_10) rfl ((if0 _ _).trans (feq (by decide)).1)) ?_
 show Go _ _ _ _ (T3.setTop (mkF m 13 #[lI p0] []))
 obtain ⟨T4, h4, X4, e4, E4, A4, D4, -, st4⟩ := newO X3 hx hZ hown (ow hw 64 rfl) (ow hw 10 rfl) (ow hw 11 rfl) e3 (g := (mkF m 13 #[lI p0] [])) rfl (hb hby od5_13) (by decide) (by decide)
 obtain ⟨b4, g4⟩ : ∃ z, z = h0.size := ⟨_, rfl⟩
 rw [← g4] at A4 D4 st4
 refine Go.st st4 ?_
 have g_b4 : n0 ≤ b4 := Nat.le_trans (own_oldsz X00) (Nat.le_of_eq g4.symm)
 have sz_b4 : h0.size ≤ b4 := Nat.le_trans (Keep.refl h0 []).1 (Nat.le_of_eq g4.symm)
 have K4 : Keep h0 h4 [] := (Keep.refl h0 []).ext E4
 have O4 := X00.ext E4
 have F5 : Fld Z h4 b4 "java/lang/String" "coder" "B" (.int 0) := D4 (Or.inr (ow hw 35 rfl)) (ty := .byte) (by decide)
 have F6 : Fld Z h4 b4 "java/lang/String" "value" "[B" .null := D4 (Or.inr (ow hw 37 rfl)) (ty := (.array .byte)) (by decide)
 show Go _ _ _ _ (T4.setTop (mkF m 16 #[lI p0] [(.ref b4)]))
 refine Go.st (fun _ => XS.dup X4.here hx rfl (hb hby od5_16) rfl rfl) ?_
 refine Go.st (fun _ => XS.iloadN X4.here hx rfl (hb hby od5_17) rfl) ?_
 show Go _ _ _ _ (T4.setTop (mkF m 18 #[lI p0] [(.int p0), (.ref b4), (.ref b4)]))
 obtain ⟨_, _, ⟨T7, L7, k7, n7⟩, -, X7, ⟨Lc7, hQ7, l7, y7, z7⟩, st7⟩ := Jvm.LawKit.callS X4 hx (y := (⟨"java/lang/StringLatin1", "toBytes", "(C)[B"⟩ : MethodName)) hown (mvT hZ (ow hw 145 rfl)) (mvT hZ (ow hw 146 rfl)) (mvT hZ (ow hw 67 rfl)) (mvT hZ (ow hw 147 rfl)) (by decide) (backOf (W := 2) (rm_toB l Z a0 hw [] g_CS S_CS nz_CS p0 h4 n0 O4 ) hZ (ow hw 147 rfl) (ow hw 67 rfl) (by decide) (by decide)) (g := (mkF m 18 #[lI p0] [(.int p0), (.ref b4), (.ref b4)])) rfl (by rw [hml]; rfl) (argsL := [(.int p0)]) (rest := [(.ref b4), (.ref b4)]) (lenOf own_pd2 rfl) rfl (by show 2 * 0 + _ ≤ _; exact Nat.le_of_eq rfl) (hb hby od5_18) (fun _ _ => ⟨rfl, e4, (by decide : 1 + 1 ≤ _), (by decide : 4 + 1 ≤ _)⟩)
 dsimp only [Pt.U, Pt.locs, Pt.cells, Pt.slots] at X7 l7 y7 z7 st7 hQ7
 subst y7 z7
 refine Go.st st7 ?_
 obtain ⟨ob_8, kb_9, rfl, N7q, K7q, q7_0, q7_1⟩ := hQ7
 have N7 : Fr n0 L7 := by rw [l7]; exact Fr.app N3 N7q
 have O7 := O4.keep K7q all0
 have K7 : Keep h0 T7.heap [] := K4.trans K7q all0
 have sz_ob_8 : h0.size ≤ ob_8 := Nat.le_trans K4.1 q7_0
 have g_ob_8 : n0 ≤ ob_8 := Nat.le_trans (own_oldsz X00) sz_ob_8
 show Go _ _ _ _ (T7.setTop (mkF m 21 #[lI p0] [(.ref ob_8), (.ref b4), (.ref b4)]))
 refine Go.st (fun _ => XS.iconst X7.here hx rfl (hb hby od5_21)) ?_
 show Go _ _ _ _ (T7.setTop (mkF m 22 #[lI p0] [(.int 0), (.ref ob_8), (.ref b4), (.ref b4)]))
 have c11 := (A4.keep K7q)
 have c12 := (F6.keep K7q nin0)
 have c13 := (F5.keep K7q nin0)
 obtain ⟨_, _, ⟨T10, L10, k10, n10⟩, -, X10, ⟨Lc10, hQ10, l10, y10, z10⟩, st10⟩ := X7.specialBack hx (y := (⟨"java/lang/String", "<init>", "([BB)V"⟩ : MethodName)) rfl hown (mvT hZ (ow hw 120 rfl)) (mvT hZ (ow hw 121 rfl)) (mvT hZ (ow hw 122 rfl)) (by decide) (backOf (W := 1) (rm_sBB l Z a0 hw [] g_CS S_CS nz_CS b4 ob_8 (0 : Int32) T7.heap n0 O7 c11 c12 c13 g_b4 rfl rfl) hZ (ow hw 122 rfl) (ow hw 11 rfl) (by decide) (by decide)) (g := (mkF m 22 #[lI p0] [(.int 0), (.ref ob_8), (.ref b4), (.ref b4)])) rfl (by rw [hml]; rfl) (Steps.refl _) (a := b4) (argsL := [(.ref ob_8), (.int 0)]) (rest := [(.ref b4)]) (lenOf own_pd3 rfl) rfl (by show 2 * 0 + _ ≤ _; exact Nat.le_of_eq rfl) (hb hby od5_22) (fun _ _ => ⟨rfl, rfl, (by decide : 2 + 0 ≤ _), (by decide : 5 + 0 ≤ _)⟩)
 dsimp only [Pt.U, Pt.locs, Pt.cells, Pt.slots] at X10 l10 y10 z10 st10 hQ10
 subst y10 z10
 refine Go.tr st10 ?_
 obtain ⟨rfl, N10q, K10q, q10_0, q10_1, q10_2⟩ := hQ10
 have N10 : Fr n0 L10 := by rw [l10]; exact Fr.app N7 N10q
 have O10 := O7.keep K10q (allS g_b4 all0)
 have K10 : Keep h0 T10.heap [] := K7.trans K10q (allS (Or.inr sz_b4) all0)
 show Go _ _ _ _ (T10.setTop (mkF m 25 #[lI p0] [(.ref b4)]))
 obtain ⟨fs, hr, hrun, hended, hW, hsame⟩ := X10.leave (v := some (.ref b4)) (fun h => by rw [Bd.returns] at h; cases h)
 refine ⟨_, ?_, hPend _ _ hrun hended ⟨_, _, rfl, ?_, ⟨_, rfl⟩, hW, hsame.mono (by decide) (by decide)⟩⟩
 ·exact retOut X10 hx (t := (.object "java/lang/String")) Bd.returns rfl (Or.inr (Or.inr (Or.inr (Or.inr ⟨rfl, rfl, rfl⟩)))) (hb hby od5_25) hr
 ·show Q_rm_valOf Z _ _ h0 n0 _ T10.heap _
  have c14 := (q7_1.keep K10q (ninS (Ne.symm (Nat.ne_of_lt (Nat.lt_of_lt_of_le A4.lt q7_0))) nin0))
  exact ⟨b4, ob_8, kb_9, rfl, N10, K10, sz_b4, sz_ob_8, q10_0, q10_2, q10_1, c14⟩
theorem own_ef_rm_rn1 (m : MethodId) (x0 : Addr) : entryFrame m #[(.ref x0)] 1 = mkF m 0 #[.val (.ref x0)] [] := by first | (simp [entryFrame, mkF, argsToLocals, Value.category]; done) | rfl
theorem own_pn2 : plainName "java/util/Objects" = true := by first | (simp [plainName, overriddenIn]; done) | decide +kernel
theorem od6_0 : decode jdk_31_method_10_code 0 = .ok (.aload_n 0, 1) := by decide +kernel
theorem od6_1 : decode jdk_31_method_10_code 1 = .ok (.ifnonnull 11, 3) := by decide +kernel
theorem od6_12 : decode jdk_31_method_10_code 12 = .ok (.aload_n 0, 1) := by decide +kernel
theorem od6_13 : decode jdk_31_method_10_code 13 = .ok (.areturn, 1) := by decide +kernel
def Q_rm_rn1 (Z : State) (w_OE : Addr) (p0 : Addr) (h0 : Heap) (n0 : Nat) (v : Option Value) (h : Heap) (L : List Loc) : Prop := v = some (.ref p0) ∧ Fr n0 L ∧ h = h0
set_option maxRecDepth 65536 in
set_option maxHeartbeats 40000000 in
theorem rm_rn1 (l : Launch) (Z : State) (a0 : Array Value) (hw : ∀ d ∈ tables_1, d.before a0 Z = true) (ws : List Jvm.Cond) (w_OE : Addr) (S_OE : Sta Z Z.heap "java/util/Optional" "EMPTY" "Ljava/util/Optional;" (.ref w_OE)) (X_OE : Exa Z Z.heap w_OE "java/util/Optional") (I_OE_value : Fld Z Z.heap w_OE "java/util/Optional" "value" "Ljava/lang/Object;" .null) (p0 : Addr) (h0 : Heap) (n0 : Nat) (X00 : Old Z n0 h0)  :
    MetFree l (⟨"java/util/Objects", "requireNonNull", "(Ljava/lang/Object;)Ljava/lang/Object;"⟩ : MethodName) (head1 (Jvm.Cond.code (⟨"java/util/Objects", "requireNonNull", "(Ljava/lang/Object;)Ljava/lang/Object;"⟩ : MethodName) jdk_31_method_10_code 1 (some (.object "java/lang/Object")) :: ws) ({ frames := 0, cells := 0, slots := 0, locals := 0 } : Room)) (fun a U => a = #[(.ref p0)] ∧ Z.Warmed39 U.vm ∧ U.heap = h0) (fun _ _ _ _ _ => True) (fun _ U o U' => ∃ v L, o = .returned v ∧ Q_rm_rn1 Z w_OE p0 h0 n0 v U'.heap L ∧ FrameEnd U o U' L ({ frames := 0, cells := 0, slots := 0, locals := 0 } : Room).cells ({ frames := 0, cells := 0, slots := 0, locals := 0 } : Room).slots) := by
 refine MetFree.of_bodySF (plainFor_of_name own_pn2) hisR ?_
 intro p e s m args below meth c s₁ Bd hml0 hP hK
 obtain ⟨rfl, hZ, hh⟩ := hP
 have hx := Bd.exec
 have hby := Bd.bytes
 have hml : c.maxLocals = 1 := hml0
 have hown : s.vm.findClass "java/util/Objects" = some m.cls := findClass_of_methodNamed Bd.named
 have hnm := (name_of_methodNamed Bd.named Bd.method).1
 have X0 : Stand p l e ({ frames := 0, cells := 0, slots := 0, locals := 0 } : Room) s m #[(.ref p0)] below meth c s₁ [] 0 0 := Stand.of_body Bd
 have e0 : s₁.heap = h0 := by rw [← hh, Bd.state]; rfl
 have N0 := Fr.nil n0
 refine Go.start fun P hPend => ?_
 refine Go.st (fun _ k => castTop (own_ef_rm_rn1 m p0) k) ?_
 show Go _ _ _ _ (s₁.setTop (mkF m 0 #[lR p0] []))
 refine Go.st (fun _ => XS.aloadN X0.here hx rfl (hb hby od6_0) rfl rfl) ?_
 show Go _ _ _ _ (s₁.setTop (mkF m 1 #[lR p0] [(.ref p0)]))
 refine Go.st (fun _ => XS.ifnonnullYes X0.here hx rfl (pc0 := 1) (pc' := 12) rfl (hb hby od6_1) rfl (by decide) (by decide)) ?_
 show Go _ _ _ _ (s₁.setTop (mkF m 12 #[lR p0] []))
 refine Go.st (fun _ => XS.aloadN X0.here hx rfl (hb hby od6_12) rfl rfl) ?_
 show Go _ _ _ _ (s₁.setTop (mkF m 13 #[lR p0] [(.ref p0)]))
 obtain ⟨fs, hr, hrun, hended, hW, hsame⟩ := X0.leave (v := some (.ref p0)) (fun h => by rw [Bd.returns] at h; cases h)
 refine ⟨_, ?_, hPend _ _ hrun hended ⟨_, _, rfl, ?_, ⟨_, rfl⟩, hW, hsame.mono (by decide) (by decide)⟩⟩
 ·exact retOut X0 hx (t := (.object "java/lang/Object")) Bd.returns rfl (Or.inr (Or.inr (Or.inr (Or.inr ⟨rfl, rfl, rfl⟩)))) (hb hby od6_13) hr
 ·show Q_rm_rn1 Z _ _ h0 n0 _ s₁.heap _
  rw [e0]
  exact ⟨rfl, N0, rfl⟩
theorem own_ef_rm_oin (m : MethodId) (x0 : Addr) (x1 : Addr) : entryFrame m #[(.ref x0), (.ref x1)] 2 = mkF m 0 #[.val (.ref x0), .val (.ref x1)] [] := by first | (simp [entryFrame, mkF, argsToLocals, Value.category]; done) | rfl
theorem own_pn3 : plainName "java/util/Optional" = true := by first | (simp [plainName, overriddenIn]; done) | decide +kernel
theorem od7_0 : decode jdk_32_method_2_code 0 = .ok (.aload_n 0, 1) := by decide +kernel
theorem od7_1 : decode jdk_32_method_2_code 1 = .ok (.invokespecial 7, 3) := by decide +kernel
theorem od7_4 : decode jdk_32_method_2_code 4 = .ok (.aload_n 0, 1) := by decide +kernel
theorem od7_5 : decode jdk_32_method_2_code 5 = .ok (.aload_n 1, 1) := by decide +kernel
theorem od7_6 : decode jdk_32_method_2_code 6 = .ok (.putfield 13, 3) := by decide +kernel
theorem od7_9 : decode jdk_32_method_2_code 9 = .ok (.return_, 1) := by decide +kernel
def Q_rm_oin (Z : State) (w_OE : Addr) (p0 : Addr) (p1 : Addr) (h0 : Heap) (n0 : Nat) (v : Option Value) (h : Heap) (L : List Loc) : Prop := v = none ∧ Fr n0 L ∧ Keep h0 h [p0] ∧ Exa Z h p0 "java/util/Optional" ∧ Fld Z h p0 "java/util/Optional" "value" "Ljava/lang/Object;" (.ref p1)
set_option maxRecDepth 65536 in
set_option maxHeartbeats 40000000 in
theorem rm_oin (l : Launch) (Z : State) (a0 : Array Value) (hw : ∀ d ∈ tables_1, d.before a0 Z = true) (ws : List Jvm.Cond) (w_OE : Addr) (S_OE : Sta Z Z.heap "java/util/Optional" "EMPTY" "Ljava/util/Optional;" (.ref w_OE)) (X_OE : Exa Z Z.heap w_OE "java/util/Optional") (I_OE_value : Fld Z Z.heap w_OE "java/util/Optional" "value" "Ljava/lang/Object;" .null) (p0 : Addr) (p1 : Addr) (h0 : Heap) (n0 : Nat) (X00 : Old Z n0 h0) (hp0 : Exa Z h0 p0 "java/util/Optional") (hp1 : Fld Z h0 p0 "java/util/Optional" "value" "Ljava/lang/Object;" .null) (hp2 : n0 ≤ p0) :
    MetFree l (⟨"java/util/Optional", "<init>", "(Ljava/lang/Object;)V"⟩ : MethodName) (head1 (Jvm.Cond.code (⟨"java/util/Optional", "<init>", "(Ljava/lang/Object;)V"⟩ : MethodName) jdk_32_method_2_code 2 none :: ws) ({ frames := 1, cells := 0, slots := 0, locals := 12 } : Room)) (fun a U => a = #[(.ref p0), (.ref p1)] ∧ Z.Warmed39 U.vm ∧ U.heap = h0) (fun _ _ _ _ _ => True) (fun _ U o U' => ∃ v L, o = .returned v ∧ Q_rm_oin Z w_OE p0 p1 h0 n0 v U'.heap L ∧ FrameEnd U o U' L ({ frames := 1, cells := 0, slots := 0, locals := 12 } : Room).cells ({ frames := 1, cells := 0, slots := 0, locals := 12 } : Room).slots) := by
 refine MetFree.of_bodySF (plainFor_of_name own_pn3) hisR ?_
 intro p e s m args below meth c s₁ Bd hml0 hP hK
 obtain ⟨rfl, hZ, hh⟩ := hP
 have hx := Bd.exec
 have hby := Bd.bytes
 have hml : c.maxLocals = 2 := hml0
 have hown : s.vm.findClass "java/util/Optional" = some m.cls := findClass_of_methodNamed Bd.named
 have hnm := (name_of_methodNamed Bd.named Bd.method).1
 have X0 : Stand p l e ({ frames := 1, cells := 0, slots := 0, locals := 12 } : Room) s m #[(.ref p0), (.ref p1)] below meth c s₁ [] 0 0 := Stand.of_body Bd
 have e0 : s₁.heap = h0 := by rw [← hh, Bd.state]; rfl
 have N0 := Fr.nil n0
 refine Go.start fun P hPend => ?_
 refine Go.st (fun _ k => castTop (own_ef_rm_oin m p0 p1) k) ?_
 show Go _ _ _ _ (s₁.setTop (mkF m 0 #[lR p0, lR p1] []))
 refine Go.st (fun _ => XS.aloadN X0.here hx rfl (hb hby od7_0) rfl rfl) ?_
 show Go _ _ _ _ (s₁.setTop (mkF m 1 #[lR p0, lR p1] [(.ref p0)]))
 obtain ⟨T1, X1, e1, st1⟩ := initO X0 hx hZ hown (ow hw 83 rfl) (ow hw 20 rfl) (ow hw 21 rfl) e0 (g := (mkF m 1 #[lR p0, lR p1] [(.ref p0)])) rfl (by rw [hml]; rfl) rfl (hb hby od7_1) (by decide) (W := 0) (by show 2 * 0 + _ ≤ _; exact Nat.le_of_eq rfl) (by decide)
 refine Go.st st1 ?_
 show Go _ _ _ _ (T1.setTop (mkF m 4 #[lR p0, lR p1] []))
 refine Go.st (fun _ => XS.aloadN X1.here hx rfl (hb hby od7_4) rfl rfl) ?_
 refine Go.st (fun _ => XS.aloadN X1.here hx rfl (hb hby od7_5) rfl rfl) ?_
 show Go _ _ _ _ (T1.setTop (mkF m 6 #[lR p0, lR p1] [(.ref p1), (.ref p0)]))
 obtain ⟨T2, h2, X2, e2, W2, st2⟩ := putF X1 hx hZ hown (host := "") (Or.inl (ow hw 84 rfl)) Via.refl e1 hp1 hp0 (Or.inr ⟨(ow hw 85 rfl), rfl, hnm⟩) (ow hw 74 rfl) (ty := (.object "java/lang/Object")) (by decide) rfl rfl (g := (mkF m 6 #[lR p0, lR p1] [(.ref p1), (.ref p0)])) rfl rfl (hb hby od7_6)
 refine Go.st st2 ?_
 have K2 : Keep h0 h2 [p0] := (Keep.refl h0 [p0]).wr W2 (Or.inl (List.mem_of_getElem? (i := 0) rfl))
 have O2 := X00.wr W2 hp2
 have N2 := Fr.snoc X2 N0 hp2
 have F2 := hp1.same W2
 show Go _ _ _ _ (T2.setTop (mkF m 9 #[lR p0, lR p1] []))
 obtain ⟨fs, hr, hrun, hended, hW, hsame⟩ := X2.leave (v := none) (fun _ => rfl)
 refine ⟨_, ?_, hPend _ _ hrun hended ⟨_, _, rfl, ?_, ⟨_, rfl⟩, hW, hsame.mono (by decide) (by decide)⟩⟩
 ·exact X2.returnOut hx Bd.returns (hb hby od7_9) hr
 ·show Q_rm_oin Z _ _ _ h0 n0 _ T2.heap _
  rw [e2]
  have c3 := (hp0.wr W2)
  exact ⟨rfl, N2, K2, c3, F2⟩
theorem own_ef_rm_oof (m : MethodId) (x0 : Addr) : entryFrame m #[(.ref x0)] 1 = mkF m 0 #[.val (.ref x0)] [] := by first | (simp [entryFrame, mkF, argsToLocals, Value.category]; done) | rfl
theorem od8_0 : decode jdk_32_method_3_code 0 = .ok (.new 2, 3) := by decide +kernel
theorem od8_3 : decode jdk_32_method_3_code 3 = .ok (.dup, 1) := by decide +kernel
theorem od8_4 : decode jdk_32_method_3_code 4 = .ok (.aload_n 0, 1) := by decide +kernel
theorem od8_5 : decode jdk_32_method_3_code 5 = .ok (.invokestatic 17, 3) := by decide +kernel
theorem own_pd4 : parseMethodDescriptor "(Ljava/lang/Object;)Ljava/lang/Object;" = some ⟨[(.object "java/lang/Object")], some (.object "java/lang/Object")⟩ := by decide +kernel
theorem od8_8 : decode jdk_32_method_3_code 8 = .ok (.invokespecial 23, 3) := by decide +kernel
theorem own_pd5 : parseMethodDescriptor "(Ljava/lang/Object;)V" = some ⟨[(.object "java/lang/Object")], none⟩ := by decide +kernel
theorem od8_11 : decode jdk_32_method_3_code 11 = .ok (.areturn, 1) := by decide +kernel
def Q_rm_oof (Z : State) (w_OE : Addr) (p0 : Addr) (h0 : Heap) (n0 : Nat) (v : Option Value) (h : Heap) (L : List Loc) : Prop := ∃ (ob : Addr), v = some (.ref ob) ∧ Fr n0 L ∧ Keep h0 h [] ∧ h0.size ≤ ob ∧ Exa Z h ob "java/util/Optional" ∧ Fld Z h ob "java/util/Optional" "value" "Ljava/lang/Object;" (.ref p0)
set_option maxRecDepth 65536 in
set_option maxHeartbeats 40000000 in
theorem rm_oof (l : Launch) (Z : State) (a0 : Array Value) (hw : ∀ d ∈ tables_1, d.before a0 Z = true) (ws : List Jvm.Cond) (w_OE : Addr) (S_OE : Sta Z Z.heap "java/util/Optional" "EMPTY" "Ljava/util/Optional;" (.ref w_OE)) (X_OE : Exa Z Z.heap w_OE "java/util/Optional") (I_OE_value : Fld Z Z.heap w_OE "java/util/Optional" "value" "Ljava/lang/Object;" .null) (p0 : Addr) (h0 : Heap) (n0 : Nat) (X00 : Old Z n0 h0)  :
    MetFree l (⟨"java/util/Optional", "of", "(Ljava/lang/Object;)Ljava/util/Optional;"⟩ : MethodName) (head1 (Jvm.Cond.code (⟨"java/util/Optional", "of", "(Ljava/lang/Object;)Ljava/util/Optional;"⟩ : MethodName) jdk_32_method_3_code 1 (some (.object "java/util/Optional")) :: ws) ({ frames := 2, cells := 1, slots := 1, locals := 26 } : Room)) (fun a U => a = #[(.ref p0)] ∧ Z.Warmed39 U.vm ∧ U.heap = h0) (fun _ _ _ _ _ => True) (fun _ U o U' => ∃ v L, o = .returned v ∧ Q_rm_oof Z w_OE p0 h0 n0 v U'.heap L ∧ FrameEnd U o U' L ({ frames := 2, cells := 1, slots := 1, locals := 26 } : Room).cells ({ frames := 2, cells := 1, slots := 1, locals := 26 } : Room).slots) := by
 refine MetFree.of_bodySF (plainFor_of_name own_pn3) hisR ?_
 intro p e s m args below meth c s₁ Bd hml0 hP hK
 obtain ⟨rfl, hZ, hh⟩ := hP
 have hx := Bd.exec
 have hby := Bd.bytes
 have hml : c.maxLocals = 1 := hml0
 have hown : s.vm.findClass "java/util/Optional" = some m.cls := findClass_of_methodNamed Bd.named
 have hnm := (name_of_methodNamed Bd.named Bd.method).1
 have X0 : Stand p l e ({ frames := 2, cells := 1, slots := 1, locals := 26 } : Room) s m #[(.ref p0)] below meth c s₁ [] 0 0 := Stand.of_body Bd
 have e0 : s₁.heap = h0 := by rw [← hh, Bd.state]; rfl
 have N0 := Fr.nil n0
 refine Go.start fun P hPend => ?_
 refine Go.st (fun _ k => castTop (own_ef_rm_oof m p0) k) ?_
 show Go _ _ _ _ (s₁.setTop (mkF m 0 #[lR p0] []))
 obtain ⟨T1, h1, X1, e1, E1, A1, D1, -, st1⟩ := newO X0 hx hZ hown (ow hw 73 rfl) (ow hw 74 rfl) (ow hw 71 rfl) e0 (g := (mkF m 0 #[lR p0] [])) rfl (hb hby od8_0) (by decide) (by decide)
 obtain ⟨b1, g1⟩ : ∃ z, z = h0.size := ⟨_, rfl⟩
 rw [← g1] at A1 D1 st1
 refine Go.st st1 ?_
 have g_b1 : n0 ≤ b1 := Nat.le_trans (own_oldsz X00) (Nat.le_of_eq g1.symm)
 have sz_b1 : h0.size ≤ b1 := Nat.le_trans (Keep.refl h0 []).1 (Nat.le_of_eq g1.symm)
 have K1 : Keep h0 h1 [] := (Keep.refl h0 []).ext E1
 have O1 := X00.ext E1
 have F2 : Fld Z h1 b1 "java/util/Optional" "value" "Ljava/lang/Object;" .null := D1 (Or.inr (ow hw 85 rfl)) (ty := (.object "java/lang/Object")) (by decide)
 show Go _ _ _ _ (T1.setTop (mkF m 3 #[lR p0] [(.ref b1)]))
 refine Go.st (fun _ => XS.dup X1.here hx rfl (hb hby od8_3) rfl rfl) ?_
 refine Go.st (fun _ => XS.aloadN X1.here hx rfl (hb hby od8_4) rfl rfl) ?_
 show Go _ _ _ _ (T1.setTop (mkF m 5 #[lR p0] [(.ref p0), (.ref b1), (.ref b1)]))
 obtain ⟨_, _, ⟨T3, L3, k3, n3⟩, -, X3, ⟨Lc3, hQ3, l3, y3, z3⟩, st3⟩ := Jvm.LawKit.callS X1 hx (y := (⟨"java/util/Objects", "requireNonNull", "(Ljava/lang/Object;)Ljava/lang/Object;"⟩ : MethodName)) hown (mvT hZ (ow hw 75 rfl)) (mvT hZ (ow hw 76 rfl)) (mvT hZ (ow hw 77 rfl)) (mvT hZ (ow hw 78 rfl)) (by decide) (backOf (W := 2) (rm_rn1 l Z a0 hw [] w_OE S_OE X_OE I_OE_value p0 h1 n0 O1 ) hZ (ow hw 78 rfl) (ow hw 77 rfl) (by decide) (by decide)) (g := (mkF m 5 #[lR p0] [(.ref p0), (.ref b1), (.ref b1)])) rfl (by rw [hml]; rfl) (argsL := [(.ref p0)]) (rest := [(.ref b1), (.ref b1)]) (lenOf own_pd4 rfl) rfl (by show 2 * 0 + _ ≤ _; exact Nat.le_of_eq rfl) (hb hby od8_5) (fun _ _ => ⟨rfl, e1, (by decide : 1 + 0 ≤ _), (by decide : 1 + 0 ≤ _)⟩)
 dsimp only [Pt.U, Pt.locs, Pt.cells, Pt.slots] at X3 l3 y3 z3 st3 hQ3
 subst y3 z3
 refine Go.st st3 ?_
 obtain ⟨rfl, N3q, e3⟩ := hQ3
 have N3 : Fr n0 L3 := by rw [l3]; exact Fr.app N0 N3q
 show Go _ _ _ _ (T3.setTop (mkF m 8 #[lR p0] [(.ref p0), (.ref b1), (.ref b1)]))
 obtain ⟨_, _, ⟨T4, L4, k4, n4⟩, -, X4, ⟨Lc4, hQ4, l4, y4, z4⟩, st4⟩ := X3.specialBack hx (y := (⟨"java/util/Optional", "<init>", "(Ljava/lang/Object;)V"⟩ : MethodName)) rfl hown (mvT hZ (ow hw 79 rfl)) (mvT hZ (ow hw 80 rfl)) (mvT hZ (ow hw 82 rfl)) (by decide) (backOf (W := 1) (rm_oin l Z a0 hw [] w_OE S_OE X_OE I_OE_value b1 p0 h1 n0 O1 A1 F2 g_b1) hZ (ow hw 82 rfl) (ow hw 71 rfl) (by decide) (by decide)) (g := (mkF m 8 #[lR p0] [(.ref p0), (.ref b1), (.ref b1)])) rfl (by rw [hml]; rfl) (Steps.refl _) (a := b1) (argsL := [(.ref p0)]) (rest := [(.ref b1)]) (lenOf own_pd5 rfl) rfl (by show 2 * 0 + _ ≤ _; exact Nat.le_of_eq rfl) (hb hby od8_8) (fun _ _ => ⟨rfl, e3, (by decide : 1 + 0 ≤ _), (by decide : 1 + 0 ≤ _)⟩)
 dsimp only [Pt.U, Pt.locs, Pt.cells, Pt.slots] at X4 l4 y4 z4 st4 hQ4
 subst y4 z4
 refine Go.tr st4 ?_
 obtain ⟨rfl, N4q, K4q, q4_0, q4_1⟩ := hQ4
 have N4 : Fr n0 L4 := by rw [l4]; exact Fr.app N3 N4q
 have O4 := O1.keep K4q (allS g_b1 all0)
 have K4 : Keep h0 T4.heap [] := K1.trans K4q (allS (Or.inr sz_b1) all0)
 show Go _ _ _ _ (T4.setTop (mkF m 11 #[lR p0] [(.ref b1)]))
 obtain ⟨fs, hr, hrun, hended, hW, hsame⟩ := X4.leave (v := some (.ref b1)) (fun h => by rw [Bd.returns] at h; cases h)
 refine ⟨_, ?_, hPend _ _ hrun hended ⟨_, _, rfl, ?_, ⟨_, rfl⟩, hW, hsame.mono (by decide) (by decide)⟩⟩
 ·exact retOut X4 hx (t := (.object "java/util/Optional")) Bd.returns rfl (Or.inr (Or.inr (Or.inr (Or.inr ⟨rfl, rfl, rfl⟩)))) (hb hby od8_11) hr
 ·show Q_rm_oof Z _ _ h0 n0 _ T4.heap _
  exact ⟨b1, rfl, N4, K4, sz_b1, q4_0, q4_1⟩
theorem own_ef_rm_oem (m : MethodId)  : entryFrame m #[] 1 = mkF m 0 #[.unset] [] := by first | (simp [entryFrame, mkF, argsToLocals, Value.category]; done) | rfl
theorem od9_0 : decode jdk_32_method_1_code 0 = .ok (.getstatic 1, 3) := by decide +kernel
theorem od9_3 : decode jdk_32_method_1_code 3 = .ok (.astore_n 0, 1) := by decide +kernel
theorem od9_4 : decode jdk_32_method_1_code 4 = .ok (.aload_n 0, 1) := by decide +kernel
theorem od9_5 : decode jdk_32_method_1_code 5 = .ok (.areturn, 1) := by decide +kernel
def Q_rm_oem (Z : State) (w_OE : Addr) (h0 : Heap) (n0 : Nat) (v : Option Value) (h : Heap) (L : List Loc) : Prop := v = some (.ref w_OE) ∧ Fr n0 L ∧ h = h0
set_option maxRecDepth 65536 in
set_option maxHeartbeats 40000000 in
theorem rm_oem (l : Launch) (Z : State) (a0 : Array Value) (hw : ∀ d ∈ tables_1, d.before a0 Z = true) (ws : List Jvm.Cond) (w_OE : Addr) (S_OE : Sta Z Z.heap "java/util/Optional" "EMPTY" "Ljava/util/Optional;" (.ref w_OE)) (X_OE : Exa Z Z.heap w_OE "java/util/Optional") (I_OE_value : Fld Z Z.heap w_OE "java/util/Optional" "value" "Ljava/lang/Object;" .null) (h0 : Heap) (n0 : Nat) (X00 : Old Z n0 h0)  :
    MetFree l (⟨"java/util/Optional", "empty", "()Ljava/util/Optional;"⟩ : MethodName) (head1 (Jvm.Cond.code (⟨"java/util/Optional", "empty", "()Ljava/util/Optional;"⟩ : MethodName) jdk_32_method_1_code 1 (some (.object "java/util/Optional")) :: ws) ({ frames := 0, cells := 0, slots := 0, locals := 0 } : Room)) (fun a U => a = #[] ∧ Z.Warmed39 U.vm ∧ U.heap = h0) (fun _ _ _ _ _ => True) (fun _ U o U' => ∃ v L, o = .returned v ∧ Q_rm_oem Z w_OE h0 n0 v U'.heap L ∧ FrameEnd U o U' L ({ frames := 0, cells := 0, slots := 0, locals := 0 } : Room).cells ({ frames := 0, cells := 0, slots := 0, locals := 0 } : Room).slots) := by
 refine MetFree.of_bodySF (plainFor_of_name own_pn3) hisR ?_
 intro p e s m args below meth c s₁ Bd hml0 hP hK
 obtain ⟨rfl, hZ, hh⟩ := hP
 have hx := Bd.exec
 have hby := Bd.bytes
 have hml : c.maxLocals = 1 := hml0
 have hown : s.vm.findClass "java/util/Optional" = some m.cls := findClass_of_methodNamed Bd.named
 have hnm := (name_of_methodNamed Bd.named Bd.method).1
 have X0 : Stand p l e ({ frames := 0, cells := 0, slots := 0, locals := 0 } : Room) s m #[] below meth c s₁ [] 0 0 := Stand.of_body Bd
 have e0 : s₁.heap = h0 := by rw [← hh, Bd.state]; rfl
 have N0 := Fr.nil n0
 refine Go.start fun P hPend => ?_
 refine Go.st (fun _ k => castTop (own_ef_rm_oem m ) k) ?_
 show Go _ _ _ _ (s₁.setTop (mkF m 0 #[lU] []))
 obtain ⟨T1, X1, e1, st1⟩ := getS2 X0 hx hZ hown (host := "") (Or.inl (ow hw 104 rfl)) Via.refl e0 (S_OE.ext X00.2) (g := (mkF m 0 #[lU] [])) rfl (hb hby od9_0)
 refine Go.st st1 ?_
 show Go _ _ _ _ (T1.setTop (mkF m 3 #[lU] [(.ref w_OE)]))
 refine Go.st (fun _ => XS.astoreN X1.here hx rfl (hb hby od9_3) rfl rfl (l' := #[lR w_OE]) rfl) ?_
 show Go _ _ _ _ (T1.setTop (mkF m 4 #[lR w_OE] []))
 refine Go.st (fun _ => XS.aloadN X1.here hx rfl (hb hby od9_4) rfl rfl) ?_
 show Go _ _ _ _ (T1.setTop (mkF m 5 #[lR w_OE] [(.ref w_OE)]))
 obtain ⟨fs, hr, hrun, hended, hW, hsame⟩ := X1.leave (v := some (.ref w_OE)) (fun h => by rw [Bd.returns] at h; cases h)
 refine ⟨_, ?_, hPend _ _ hrun hended ⟨_, _, rfl, ?_, ⟨_, rfl⟩, hW, hsame.mono (by decide) (by decide)⟩⟩
 ·exact retOut X1 hx (t := (.object "java/util/Optional")) Bd.returns rfl (Or.inr (Or.inr (Or.inr (Or.inr ⟨rfl, rfl, rfl⟩)))) (hb hby od9_5) hr
 ·show Q_rm_oem Z _ h0 n0 _ T1.heap _
  rw [e1]
  exact ⟨rfl, N0, rfl⟩
theorem own_ef_rm_ip1 (m : MethodId) (x0 : Addr) : entryFrame m #[(.ref x0)] 1 = mkF m 0 #[.val (.ref x0)] [] := by first | (simp [entryFrame, mkF, argsToLocals, Value.category]; done) | rfl
theorem od10_0 : decode jdk_32_method_6_code 0 = .ok (.aload_n 0, 1) := by decide +kernel
theorem od10_1 : decode jdk_32_method_6_code 1 = .ok (.getfield 13, 3) := by decide +kernel
theorem od10_4 : decode jdk_32_method_6_code 4 = .ok (.ifnull 7, 3) := by decide +kernel
theorem od10_7 : decode jdk_32_method_6_code 7 = .ok (.iconst 1, 1) := by decide +kernel
theorem od10_8 : decode jdk_32_method_6_code 8 = .ok (.goto 4, 3) := by decide +kernel
theorem od10_12 : decode jdk_32_method_6_code 12 = .ok (.ireturn, 1) := by decide +kernel
def Q_rm_ip1 (Z : State) (p0 : Addr) (pv : Addr) (h0 : Heap) (n0 : Nat) (v : Option Value) (h : Heap) (L : List Loc) : Prop := v = some (.int 1) ∧ Fr n0 L ∧ h = h0
set_option maxRecDepth 65536 in
set_option maxHeartbeats 40000000 in
theorem rm_ip1 (l : Launch) (Z : State) (a0 : Array Value) (hw : ∀ d ∈ tables_1, d.before a0 Z = true) (ws : List Jvm.Cond) (p0 : Addr) (pv : Addr) (h0 : Heap) (n0 : Nat) (X00 : Old Z n0 h0) (hp0 : Fld Z h0 p0 "java/util/Optional" "value" "Ljava/lang/Object;" (.ref pv)) :
    MetFree l (⟨"java/util/Optional", "isPresent", "()Z"⟩ : MethodName) (head1 (Jvm.Cond.code (⟨"java/util/Optional", "isPresent", "()Z"⟩ : MethodName) jdk_32_method_6_code 1 (some .boolean) :: ws) ({ frames := 0, cells := 0, slots := 0, locals := 0 } : Room)) (fun a U => a = #[(.ref p0)] ∧ Z.Warmed39 U.vm ∧ U.heap = h0) (fun _ _ _ _ _ => True) (fun _ U o U' => ∃ v L, o = .returned v ∧ Q_rm_ip1 Z p0 pv h0 n0 v U'.heap L ∧ FrameEnd U o U' L ({ frames := 0, cells := 0, slots := 0, locals := 0 } : Room).cells ({ frames := 0, cells := 0, slots := 0, locals := 0 } : Room).slots) := by
 refine MetFree.of_bodySF (plainFor_of_name own_pn3) hisR ?_
 intro p e s m args below meth c s₁ Bd hml0 hP hK
 obtain ⟨rfl, hZ, hh⟩ := hP
 have hx := Bd.exec
 have hby := Bd.bytes
 have hml : c.maxLocals = 1 := hml0
 have hown : s.vm.findClass "java/util/Optional" = some m.cls := findClass_of_methodNamed Bd.named
 have hnm := (name_of_methodNamed Bd.named Bd.method).1
 have X0 : Stand p l e ({ frames := 0, cells := 0, slots := 0, locals := 0 } : Room) s m #[(.ref p0)] below meth c s₁ [] 0 0 := Stand.of_body Bd
 have e0 : s₁.heap = h0 := by rw [← hh, Bd.state]; rfl
 have N0 := Fr.nil n0
 refine Go.start fun P hPend => ?_
 refine Go.st (fun _ k => castTop (own_ef_rm_ip1 m p0) k) ?_
 show Go _ _ _ _ (s₁.setTop (mkF m 0 #[lR p0] []))
 refine Go.st (fun _ => XS.aloadN X0.here hx rfl (hb hby od10_0) rfl rfl) ?_
 show Go _ _ _ _ (s₁.setTop (mkF m 1 #[lR p0] [(.ref p0)]))
 obtain ⟨T1, X1, e1, st1⟩ := getF X0 hx hZ hown (host := "") (Or.inl (ow hw 84 rfl)) Via.refl e0 hp0 (g := (mkF m 1 #[lR p0] [(.ref p0)])) rfl rfl (hb hby od10_1)
 refine Go.st st1 ?_
 show Go _ _ _ _ (T1.setTop (mkF m 4 #[lR p0] [(.ref pv)]))
 refine Go.st (fun _ => XS.ifnullNo X1.here hx rfl (hb hby od10_4) rfl) ?_
 show Go _ _ _ _ (T1.setTop (mkF m 7 #[lR p0] []))
 refine Go.st (fun _ => XS.iconst X1.here hx rfl (hb hby od10_7)) ?_
 show Go _ _ _ _ (T1.setTop (mkF m 8 #[lR p0] [(.int 1)]))
 refine Go.st (fun _ => XS.goto X1.here hx rfl (pc0 := 8) (pc' := 12) rfl (hb hby od10_8) (by decide) (by decide)) ?_
 show Go _ _ _ _ (T1.setTop (mkF m 12 #[lR p0] [(.int 1)]))
 obtain ⟨fs, hr, hrun, hended, hW, hsame⟩ := X1.leave (v := some (.int 1)) (fun h => by rw [Bd.returns] at h; cases h)
 refine ⟨_, ?_, hPend _ _ hrun hended ⟨_, _, rfl, ?_, ⟨_, rfl⟩, hW, hsame.mono (by decide) (by decide)⟩⟩
 ·exact retN X1 hx (t := .boolean) Bd.returns (by simp) (hb hby od10_12) hr
 ·show Q_rm_ip1 Z _ _ h0 n0 _ T1.heap _
  rw [e1]
  exact ⟨rfl, N0, rfl⟩
theorem own_ef_rm_ip0 (m : MethodId) (x0 : Addr) : entryFrame m #[(.ref x0)] 1 = mkF m 0 #[.val (.ref x0)] [] := by first | (simp [entryFrame, mkF, argsToLocals, Value.category]; done) | rfl
theorem od10_11 : decode jdk_32_method_6_code 11 = .ok (.iconst 0, 1) := by decide +kernel
def Q_rm_ip0 (Z : State) (p0 : Addr) (h0 : Heap) (n0 : Nat) (v : Option Value) (h : Heap) (L : List Loc) : Prop := v = some (.int 0) ∧ Fr n0 L ∧ h = h0
set_option maxRecDepth 65536 in
set_option maxHeartbeats 40000000 in
theorem rm_ip0 (l : Launch) (Z : State) (a0 : Array Value) (hw : ∀ d ∈ tables_1, d.before a0 Z = true) (ws : List Jvm.Cond) (p0 : Addr) (h0 : Heap) (n0 : Nat) (X00 : Old Z n0 h0) (hp0 : Fld Z h0 p0 "java/util/Optional" "value" "Ljava/lang/Object;" .null) :
    MetFree l (⟨"java/util/Optional", "isPresent", "()Z"⟩ : MethodName) (head1 (Jvm.Cond.code (⟨"java/util/Optional", "isPresent", "()Z"⟩ : MethodName) jdk_32_method_6_code 1 (some .boolean) :: ws) ({ frames := 0, cells := 0, slots := 0, locals := 0 } : Room)) (fun a U => a = #[(.ref p0)] ∧ Z.Warmed39 U.vm ∧ U.heap = h0) (fun _ _ _ _ _ => True) (fun _ U o U' => ∃ v L, o = .returned v ∧ Q_rm_ip0 Z p0 h0 n0 v U'.heap L ∧ FrameEnd U o U' L ({ frames := 0, cells := 0, slots := 0, locals := 0 } : Room).cells ({ frames := 0, cells := 0, slots := 0, locals := 0 } : Room).slots) := by
 refine MetFree.of_bodySF (plainFor_of_name own_pn3) hisR ?_
 intro p e s m args below meth c s₁ Bd hml0 hP hK
 obtain ⟨rfl, hZ, hh⟩ := hP
 have hx := Bd.exec
 have hby := Bd.bytes
 have hml : c.maxLocals = 1 := hml0
 have hown : s.vm.findClass "java/util/Optional" = some m.cls := findClass_of_methodNamed Bd.named
 have hnm := (name_of_methodNamed Bd.named Bd.method).1
 have X0 : Stand p l e ({ frames := 0, cells := 0, slots := 0, locals := 0 } : Room) s m #[(.ref p0)] below meth c s₁ [] 0 0 := Stand.of_body Bd
 have e0 : s₁.heap = h0 := by rw [← hh, Bd.state]; rfl
 have N0 := Fr.nil n0
 refine Go.start fun P hPend => ?_
 refine Go.st (fun _ k => castTop (own_ef_rm_ip0 m p0) k) ?_
 show Go _ _ _ _ (s₁.setTop (mkF m 0 #[lR p0] []))
 refine Go.st (fun _ => XS.aloadN X0.here hx rfl (hb hby od10_0) rfl rfl) ?_
 show Go _ _ _ _ (s₁.setTop (mkF m 1 #[lR p0] [(.ref p0)]))
 obtain ⟨T1, X1, e1, st1⟩ := getF X0 hx hZ hown (host := "") (Or.inl (ow hw 84 rfl)) Via.refl e0 hp0 (g := (mkF m 1 #[lR p0] [(.ref p0)])) rfl rfl (hb hby od10_1)
 refine Go.st st1 ?_
 show Go _ _ _ _ (T1.setTop (mkF m 4 #[lR p0] [.null]))
 refine Go.st (fun _ => XS.ifnullYes X1.here hx rfl (pc0 := 4) (pc' := 11) rfl (hb hby od10_4) rfl (by decide) (by decide)) ?_
 show Go _ _ _ _ (T1.setTop (mkF m 11 #[lR p0] []))
 refine Go.st (fun _ => XS.iconst X1.here hx rfl (hb hby od10_11)) ?_
 show Go _ _ _ _ (T1.setTop (mkF m 12 #[lR p0] [(.int 0)]))
 obtain ⟨fs, hr, hrun, hended, hW, hsame⟩ := X1.leave (v := some (.int 0)) (fun h => by rw [Bd.returns] at h; cases h)
 refine ⟨_, ?_, hPend _ _ hrun hended ⟨_, _, rfl, ?_, ⟨_, rfl⟩, hW, hsame.mono (by decide) (by decide)⟩⟩
 ·exact retN X1 hx (t := .boolean) Bd.returns (by simp) (hb hby od10_12) hr
 ·show Q_rm_ip0 Z _ h0 n0 _ T1.heap _
  rw [e1]
  exact ⟨rfl, N0, rfl⟩
theorem own_ef_rm_oget (m : MethodId) (x0 : Addr) : entryFrame m #[(.ref x0)] 1 = mkF m 0 #[.val (.ref x0)] [] := by first | (simp [entryFrame, mkF, argsToLocals, Value.category]; done) | rfl
theorem od11_0 : decode jdk_32_method_5_code 0 = .ok (.aload_n 0, 1) := by decide +kernel
theorem od11_1 : decode jdk_32_method_5_code 1 = .ok (.getfield 13, 3) := by decide +kernel
theorem od11_4 : decode jdk_32_method_5_code 4 = .ok (.ifnonnull 13, 3) := by decide +kernel
theorem od11_17 : decode jdk_32_method_5_code 17 = .ok (.aload_n 0, 1) := by decide +kernel
theorem od11_18 : decode jdk_32_method_5_code 18 = .ok (.getfield 13, 3) := by decide +kernel
theorem od11_21 : decode jdk_32_method_5_code 21 = .ok (.areturn, 1) := by decide +kernel
def Q_rm_oget (Z : State) (p0 : Addr) (pv : Addr) (h0 : Heap) (n0 : Nat) (v : Option Value) (h : Heap) (L : List Loc) : Prop := v = some (.ref pv) ∧ Fr n0 L ∧ h = h0
set_option maxRecDepth 65536 in
set_option maxHeartbeats 40000000 in
theorem rm_oget (l : Launch) (Z : State) (a0 : Array Value) (hw : ∀ d ∈ tables_1, d.before a0 Z = true) (ws : List Jvm.Cond) (p0 : Addr) (pv : Addr) (h0 : Heap) (n0 : Nat) (X00 : Old Z n0 h0) (hp0 : Fld Z h0 p0 "java/util/Optional" "value" "Ljava/lang/Object;" (.ref pv)) :
    MetFree l (⟨"java/util/Optional", "get", "()Ljava/lang/Object;"⟩ : MethodName) (head1 (Jvm.Cond.code (⟨"java/util/Optional", "get", "()Ljava/lang/Object;"⟩ : MethodName) jdk_32_method_5_code 1 (some (.object "java/lang/Object")) :: ws) ({ frames := 0, cells := 0, slots := 0, locals := 0 } : Room)) (fun a U => a = #[(.ref p0)] ∧ Z.Warmed39 U.vm ∧ U.heap = h0) (fun _ _ _ _ _ => True) (fun _ U o U' => ∃ v L, o = .returned v ∧ Q_rm_oget Z p0 pv h0 n0 v U'.heap L ∧ FrameEnd U o U' L ({ frames := 0, cells := 0, slots := 0, locals := 0 } : Room).cells ({ frames := 0, cells := 0, slots := 0, locals := 0 } : Room).slots) := by
 refine MetFree.of_bodySF (plainFor_of_name own_pn3) hisR ?_
 intro p e s m args below meth c s₁ Bd hml0 hP hK
 obtain ⟨rfl, hZ, hh⟩ := hP
 have hx := Bd.exec
 have hby := Bd.bytes
 have hml : c.maxLocals = 1 := hml0
 have hown : s.vm.findClass "java/util/Optional" = some m.cls := findClass_of_methodNamed Bd.named
 have hnm := (name_of_methodNamed Bd.named Bd.method).1
 have X0 : Stand p l e ({ frames := 0, cells := 0, slots := 0, locals := 0 } : Room) s m #[(.ref p0)] below meth c s₁ [] 0 0 := Stand.of_body Bd
 have e0 : s₁.heap = h0 := by rw [← hh, Bd.state]; rfl
 have N0 := Fr.nil n0
 refine Go.start fun P hPend => ?_
 refine Go.st (fun _ k => castTop (own_ef_rm_oget m p0) k) ?_
 show Go _ _ _ _ (s₁.setTop (mkF m 0 #[lR p0] []))
 refine Go.st (fun _ => XS.aloadN X0.here hx rfl (hb hby od11_0) rfl rfl) ?_
 show Go _ _ _ _ (s₁.setTop (mkF m 1 #[lR p0] [(.ref p0)]))
 obtain ⟨T1, X1, e1, st1⟩ := getF X0 hx hZ hown (host := "") (Or.inl (ow hw 84 rfl)) Via.refl e0 hp0 (g := (mkF m 1 #[lR p0] [(.ref p0)])) rfl rfl (hb hby od11_1)
 refine Go.st st1 ?_
 show Go _ _ _ _ (T1.setTop (mkF m 4 #[lR p0] [(.ref pv)]))
 refine Go.st (fun _ => XS.ifnonnullYes X1.here hx rfl (pc0 := 4) (pc' := 17) rfl (hb hby od11_4) rfl (by decide) (by decide)) ?_
 show Go _ _ _ _ (T1.setTop (mkF m 17 #[lR p0] []))
 refine Go.st (fun _ => XS.aloadN X1.here hx rfl (hb hby od11_17) rfl rfl) ?_
 show Go _ _ _ _ (T1.setTop (mkF m 18 #[lR p0] [(.ref p0)]))
 obtain ⟨T2, X2, e2, st2⟩ := getF X1 hx hZ hown (host := "") (Or.inl (ow hw 84 rfl)) Via.refl e1 hp0 (g := (mkF m 18 #[lR p0] [(.ref p0)])) rfl rfl (hb hby od11_18)
 refine Go.st st2 ?_
 show Go _ _ _ _ (T2.setTop (mkF m 21 #[lR p0] [(.ref pv)]))
 obtain ⟨fs, hr, hrun, hended, hW, hsame⟩ := X2.leave (v := some (.ref pv)) (fun h => by rw [Bd.returns] at h; cases h)
 refine ⟨_, ?_, hPend _ _ hrun hended ⟨_, _, rfl, ?_, ⟨_, rfl⟩, hW, hsame.mono (by decide) (by decide)⟩⟩
 ·exact retOut X2 hx (t := (.object "java/lang/Object")) Bd.returns rfl (Or.inr (Or.inr (Or.inr (Or.inr ⟨rfl, rfl, rfl⟩)))) (hb hby od11_21) hr
 ·show Q_rm_oget Z _ _ h0 n0 _ T2.heap _
  rw [e2]
  exact ⟨rfl, N0, rfl⟩
theorem own_ef_rm_putc (m : MethodId) (x0 : Addr) (x1 : Int32) (x2 : Int32) : entryFrame m #[(.ref x0), (.int x1), (.int x2)] 3 = mkF m 0 #[.val (.ref x0), .val (.int x1), .val (.int x2)] [] := by first | (simp [entryFrame, mkF, argsToLocals, Value.category]; done) | rfl
theorem own_pn4 : plainName "java/lang/StringUTF16" = true := by first | (simp [plainName, overriddenIn]; done) | decide +kernel
theorem od12_0 : decode jdk_52_method_4_code 0 = .ok (.getstatic 44, 3) := by decide +kernel
theorem od12_3 : decode jdk_52_method_4_code 3 = .ok (.ifCond .ne 25, 3) := by decide +kernel
theorem od12_28 : decode jdk_52_method_4_code 28 = .ok (.iload_n 1, 1) := by decide +kernel
theorem od12_29 : decode jdk_52_method_4_code 29 = .ok (.iconst 1, 1) := by decide +kernel
theorem od12_30 : decode jdk_52_method_4_code 30 = .ok (.ishl, 1) := by decide +kernel
theorem od12_31 : decode jdk_52_method_4_code 31 = .ok (.istore_n 1, 1) := by decide +kernel
theorem od12_32 : decode jdk_52_method_4_code 32 = .ok (.aload_n 0, 1) := by decide +kernel
theorem od12_33 : decode jdk_52_method_4_code 33 = .ok (.iload_n 1, 1) := by decide +kernel
theorem od12_34 : decode jdk_52_method_4_code 34 = .ok (.iinc 1 1, 3) := by decide +kernel
theorem od12_37 : decode jdk_52_method_4_code 37 = .ok (.iload_n 2, 1) := by decide +kernel
theorem od12_38 : decode jdk_52_method_4_code 38 = .ok (.getstatic 59, 3) := by decide +kernel
theorem od12_41 : decode jdk_52_method_4_code 41 = .ok (.ishr, 1) := by decide +kernel
theorem od12_42 : decode jdk_52_method_4_code 42 = .ok (.i2b, 1) := by decide +kernel
theorem od12_43 : decode jdk_52_method_4_code 43 = .ok (.bastore, 1) := by decide +kernel
theorem od12_44 : decode jdk_52_method_4_code 44 = .ok (.aload_n 0, 1) := by decide +kernel
theorem od12_45 : decode jdk_52_method_4_code 45 = .ok (.iload_n 1, 1) := by decide +kernel
theorem od12_46 : decode jdk_52_method_4_code 46 = .ok (.iload_n 2, 1) := by decide +kernel
theorem od12_47 : decode jdk_52_method_4_code 47 = .ok (.getstatic 63, 3) := by decide +kernel
theorem od12_50 : decode jdk_52_method_4_code 50 = .ok (.ishr, 1) := by decide +kernel
theorem od12_51 : decode jdk_52_method_4_code 51 = .ok (.i2b, 1) := by decide +kernel
theorem od12_52 : decode jdk_52_method_4_code 52 = .ok (.bastore, 1) := by decide +kernel
theorem od12_53 : decode jdk_52_method_4_code 53 = .ok (.return_, 1) := by decide +kernel
def Q_rm_putc (Z : State) (g_CS : Int32) (p0 : Addr) (p1 : Int32) (p2 : Int32) (xs : List Int32) (ka : ClassId) (za : Int32) (ii : Nat) (h0 : Heap) (n0 : Nat) (v : Option Value) (h : Heap) (L : List Loc) : Prop := v = none ∧ Fr n0 L ∧ Keep h0 h [p0] ∧ Arv Z h p0 ka .byte za (((xs ++ [own_b0 p2]) ++ [own_b1 p2]).map Value.int) (.int 0)
set_option maxRecDepth 65536 in
set_option maxHeartbeats 40000000 in
theorem rm_putc (l : Launch) (Z : State) (a0 : Array Value) (hw : ∀ d ∈ tables_1, d.before a0 Z = true) (ws : List Jvm.Cond) (S_AD : Sta Z Z.heap "java/lang/StringUTF16" "$assertionsDisabled" "Z" (.int 1)) (S_HI : Sta Z Z.heap "java/lang/StringUTF16" "HI_BYTE_SHIFT" "I" (.int 0)) (S_LO : Sta Z Z.heap "java/lang/StringUTF16" "LO_BYTE_SHIFT" "I" (.int 8)) (g_CS : Int32) (S_CS : Sta Z Z.heap "java/lang/String" "COMPACT_STRINGS" "Z" (.int g_CS)) (nz_CS : ¬ (g_CS = (0 : Int32))) (p0 : Addr) (p1 : Int32) (p2 : Int32) (xs : List Int32) (ka : ClassId) (za : Int32) (ii : Nat) (h0 : Heap) (n0 : Nat) (X00 : Old Z n0 h0) (hp0 : Arv Z h0 p0 ka .byte za (xs.map Value.int) (.int 0)) (hp1 : n0 ≤ p0) (hnn : p1 = Int32.ofNat ii) (hxl : xs.length = 2 * ii) (hcap : 2 * ii + 1 < za.toNatClampNeg) (hi4 : ii ≤ 4000) :
    MetFree l (⟨"java/lang/StringUTF16", "putChar", "([BII)V"⟩ : MethodName) (head1 (Jvm.Cond.code (⟨"java/lang/StringUTF16", "putChar", "([BII)V"⟩ : MethodName) jdk_52_method_4_code 3 none :: ws) ({ frames := 0, cells := 0, slots := 0, locals := 0 } : Room)) (fun a U => a = #[(.ref p0), (.int p1), (.int p2)] ∧ Z.Warmed39 U.vm ∧ U.heap = h0) (fun _ _ _ _ _ => True) (fun _ U o U' => ∃ v L, o = .returned v ∧ Q_rm_putc Z g_CS p0 p1 p2 xs ka za ii h0 n0 v U'.heap L ∧ FrameEnd U o U' L ({ frames := 0, cells := 0, slots := 0, locals := 0 } : Room).cells ({ frames := 0, cells := 0, slots := 0, locals := 0 } : Room).slots) := by
 refine MetFree.of_bodySF (plainFor_of_name own_pn4) hisR ?_
 intro p e s m args below meth c s₁ Bd hml0 hP hK
 obtain ⟨rfl, hZ, hh⟩ := hP
 have hx := Bd.exec
 have hby := Bd.bytes
 have hml : c.maxLocals = 3 := hml0
 have hown : s.vm.findClass "java/lang/StringUTF16" = some m.cls := findClass_of_methodNamed Bd.named
 have hnm := (name_of_methodNamed Bd.named Bd.method).1
 have X0 : Stand p l e ({ frames := 0, cells := 0, slots := 0, locals := 0 } : Room) s m #[(.ref p0), (.int p1), (.int p2)] below meth c s₁ [] 0 0 := Stand.of_body Bd
 have e0 : s₁.heap = h0 := by rw [← hh, Bd.state]; rfl
 have N0 := Fr.nil n0
 refine Go.start fun P hPend => ?_
 refine Go.st (fun _ k => castTop (own_ef_rm_putc m p0 p1 p2) k) ?_
 show Go _ _ _ _ (s₁.setTop (mkF m 0 #[lR p0, lI p1, lI p2] []))
 obtain ⟨T1, X1, e1, st1⟩ := getS2 X0 hx hZ hown (host := "") (Or.inl (ow hw 117 rfl)) Via.refl e0 (S_AD.ext X00.2) (g := (mkF m 0 #[lR p0, lI p1, lI p2] [])) rfl (hb hby od12_0)
 refine Go.st st1 ?_
 show Go _ _ _ _ (T1.setTop (mkF m 3 #[lR p0, lI p1, lI p2] [(.int 1)]))
 refine Go.st (fun _ => XS.ifYes X1.here hx rfl (pc0 := 3) (pc' := 28) rfl (hb hby od12_3) rfl ((if0 _ _).trans (feq (by decide)).2) (by decide) (by decide)) ?_
 show Go _ _ _ _ (T1.setTop (mkF m 28 #[lR p0, lI p1, lI p2] []))
 refine Go.st (fun _ => XS.iloadN X1.here hx rfl (hb hby od12_28) rfl) ?_
 refine Go.st (fun _ => XS.iconst X1.here hx rfl (hb hby od12_29)) ?_
 show Go _ _ _ _ (T1.setTop (mkF m 30 #[lR p0, lI p1, lI p2] [(.int 1), (.int p1)]))
 refine Go.st (fun _ => XS.ishl X1.here hx rfl (hb hby od12_30) rfl) ?_
 show Go _ _ _ _ (T1.setTop (mkF m 31 #[lR p0, lI p1, lI p2] [(.int (p1 <<< ((1 : Int32) &&& 31)))]))
 rw [show (p1 <<< ((1 : Int32) &&& 31)) = (Int32.ofNat (2 * ii)) from by rw [hnn]; exact own_shl1 hi4]
 show Go _ _ _ _ (T1.setTop (mkF m 31 #[lR p0, lI p1, lI p2] [(.int (Int32.ofNat (2 * ii)))]))
 refine Go.st (fun _ => XS.istoreN X1.here hx rfl (hb hby od12_31) rfl (l' := #[lR p0, lI (Int32.ofNat (2 * ii)), lI p2]) rfl) ?_
 show Go _ _ _ _ (T1.setTop (mkF m 32 #[lR p0, lI (Int32.ofNat (2 * ii)), lI p2] []))
 refine Go.st (fun _ => XS.aloadN X1.here hx rfl (hb hby od12_32) rfl rfl) ?_
 refine Go.st (fun _ => XS.iloadN X1.here hx rfl (hb hby od12_33) rfl) ?_
 show Go _ _ _ _ (T1.setTop (mkF m 34 #[lR p0, lI (Int32.ofNat (2 * ii)), lI p2] [(.int (Int32.ofNat (2 * ii))), (.ref p0)]))
 refine Go.st (fun _ => XS.iinc X1.here hx rfl (hb hby od12_34) rfl (l' := #[lR p0, lI ((Int32.ofNat (2 * ii)) + (1 : Int32)), lI p2]) rfl) ?_
 show Go _ _ _ _ (T1.setTop (mkF m 37 #[lR p0, lI ((Int32.ofNat (2 * ii)) + (1 : Int32)), lI p2] [(.int (Int32.ofNat (2 * ii))), (.ref p0)]))
 refine Go.st (fun _ => XS.iloadN X1.here hx rfl (hb hby od12_37) rfl) ?_
 show Go _ _ _ _ (T1.setTop (mkF m 38 #[lR p0, lI ((Int32.ofNat (2 * ii)) + (1 : Int32)), lI p2] [(.int p2), (.int (Int32.ofNat (2 * ii))), (.ref p0)]))
 obtain ⟨T2, X2, e2, st2⟩ := getS2 X1 hx hZ hown (host := "") (Or.inl (ow hw 118 rfl)) Via.refl e1 (S_HI.ext X00.2) (g := (mkF m 38 #[lR p0, lI ((Int32.ofNat (2 * ii)) + (1 : Int32)), lI p2] [(.int p2), (.int (Int32.ofNat (2 * ii))), (.ref p0)])) rfl (hb hby od12_38)
 refine Go.st st2 ?_
 show Go _ _ _ _ (T2.setTop (mkF m 41 #[lR p0, lI ((Int32.ofNat (2 * ii)) + (1 : Int32)), lI p2] [(.int 0), (.int p2), (.int (Int32.ofNat (2 * ii))), (.ref p0)]))
 refine Go.st (fun _ => XS.ishr X2.here hx rfl (hb hby od12_41) rfl) ?_
 show Go _ _ _ _ (T2.setTop (mkF m 42 #[lR p0, lI ((Int32.ofNat (2 * ii)) + (1 : Int32)), lI p2] [(.int (p2 >>> ((0 : Int32) &&& 31))), (.int (Int32.ofNat (2 * ii))), (.ref p0)]))
 rw [show (p2 >>> ((0 : Int32) &&& 31)) = p2 from own_ishr0 _]
 show Go _ _ _ _ (T2.setTop (mkF m 42 #[lR p0, lI ((Int32.ofNat (2 * ii)) + (1 : Int32)), lI p2] [(.int p2), (.int (Int32.ofNat (2 * ii))), (.ref p0)]))
 refine Go.st (fun _ => XS.i2b X2.here hx rfl (hb hby od12_42) rfl) ?_
 show Go _ _ _ _ (T2.setTop (mkF m 43 #[lR p0, lI ((Int32.ofNat (2 * ii)) + (1 : Int32)), lI p2] [(.int (p2.toInt8.toInt32)), (.int (Int32.ofNat (2 * ii))), (.ref p0)]))
 have P3 : Arv Z h0 p0 ka .byte za ((xs ++ [0]).map Value.int) (.int 0) := Arv.pad hp0 (own_pad0 xs)
 obtain ⟨T3, h3, X3, e3, W3, V3, st3⟩ := own_stB X2 hx hZ e2 P3 (j := (Int32.ofNat (2 * ii))) (i := xs.length) (own_ltza (by omega)) (by rw [own_clamp (by omega)]; exact hxl.symm) (own_pad1 xs) (g := (mkF m 43 #[lR p0, lI ((Int32.ofNat (2 * ii)) + (1 : Int32)), lI p2] [(.int (p2.toInt8.toInt32)), (.int (Int32.ofNat (2 * ii))), (.ref p0)])) rfl rfl (hb hby od12_43)
 refine Go.st st3 ?_
 rw [show nar .byte (p2.toInt8.toInt32) = (p2.toInt8.toInt32) from own_nar_i2b _] at V3
 have K3 : Keep h0 h3 [p0] := (Keep.refl h0 [p0]).wr W3 (Or.inl (List.mem_of_getElem? (i := 0) rfl))
 have O3 := X00.wr W3 hp1
 have N3 := Fr.snoc X3 N0 hp1
 have V3' : Arv Z h3 p0 ka .byte za ((xs ++ [(p2.toInt8.toInt32)]).map Value.int) (.int 0) := by rw [← own_setlast]; exact V3
 show Go _ _ _ _ (T3.setTop (mkF m 44 #[lR p0, lI ((Int32.ofNat (2 * ii)) + (1 : Int32)), lI p2] []))
 rw [show ((Int32.ofNat (2 * ii)) + (1 : Int32)) = (Int32.ofNat (2 * ii + 1)) from own_addj 1 rfl]
 show Go _ _ _ _ (T3.setTop (mkF m 44 #[lR p0, lI (Int32.ofNat (2 * ii + 1)), lI p2] []))
 refine Go.st (fun _ => XS.aloadN X3.here hx rfl (hb hby od12_44) rfl rfl) ?_
 refine Go.st (fun _ => XS.iloadN X3.here hx rfl (hb hby od12_45) rfl) ?_
 refine Go.st (fun _ => XS.iloadN X3.here hx rfl (hb hby od12_46) rfl) ?_
 show Go _ _ _ _ (T3.setTop (mkF m 47 #[lR p0, lI (Int32.ofNat (2 * ii + 1)), lI p2] [(.int p2), (.int (Int32.ofNat (2 * ii + 1))), (.ref p0)]))
 obtain ⟨T4, X4, e4, st4⟩ := getS2 X3 hx hZ hown (host := "") (Or.inl (ow hw 119 rfl)) Via.refl e3 (S_LO.ext O3.2) (g := (mkF m 47 #[lR p0, lI (Int32.ofNat (2 * ii + 1)), lI p2] [(.int p2), (.int (Int32.ofNat (2 * ii + 1))), (.ref p0)])) rfl (hb hby od12_47)
 refine Go.st st4 ?_
 show Go _ _ _ _ (T4.setTop (mkF m 50 #[lR p0, lI (Int32.ofNat (2 * ii + 1)), lI p2] [(.int 8), (.int p2), (.int (Int32.ofNat (2 * ii + 1))), (.ref p0)]))
 refine Go.st (fun _ => XS.ishr X4.here hx rfl (hb hby od12_50) rfl) ?_
 show Go _ _ _ _ (T4.setTop (mkF m 51 #[lR p0, lI (Int32.ofNat (2 * ii + 1)), lI p2] [(.int (p2 >>> ((8 : Int32) &&& 31))), (.int (Int32.ofNat (2 * ii + 1))), (.ref p0)]))
 refine Go.st (fun _ => XS.i2b X4.here hx rfl (hb hby od12_51) rfl) ?_
 show Go _ _ _ _ (T4.setTop (mkF m 52 #[lR p0, lI (Int32.ofNat (2 * ii + 1)), lI p2] [(.int ((p2 >>> ((8 : Int32) &&& 31)).toInt8.toInt32)), (.int (Int32.ofNat (2 * ii + 1))), (.ref p0)]))
 have P5 : Arv Z h3 p0 ka .byte za (((xs ++ [(p2.toInt8.toInt32)]) ++ [0]).map Value.int) (.int 0) := Arv.pad V3' (own_pad0 (xs ++ [(p2.toInt8.toInt32)]))
 obtain ⟨T5, h5, X5, e5, W5, V5, st5⟩ := own_stB X4 hx hZ e4 P5 (j := (Int32.ofNat (2 * ii + 1))) (i := (xs ++ [(p2.toInt8.toInt32)]).length) (own_ltza (by omega)) (by rw [own_clamp (by omega), List.length_append, hxl]; rfl) (own_pad1 (xs ++ [(p2.toInt8.toInt32)])) (g := (mkF m 52 #[lR p0, lI (Int32.ofNat (2 * ii + 1)), lI p2] [(.int ((p2 >>> ((8 : Int32) &&& 31)).toInt8.toInt32)), (.int (Int32.ofNat (2 * ii + 1))), (.ref p0)])) rfl rfl (hb hby od12_52)
 refine Go.st st5 ?_
 rw [show nar .byte ((p2 >>> ((8 : Int32) &&& 31)).toInt8.toInt32) = ((p2 >>> ((8 : Int32) &&& 31)).toInt8.toInt32) from own_nar_i2b _] at V5
 have K5 : Keep h0 h5 [p0] := K3.wr W5 (Or.inl (List.mem_of_getElem? (i := 0) rfl))
 have O5 := O3.wr W5 hp1
 have N5 := Fr.snoc X5 N3 hp1
 have V5' : Arv Z h5 p0 ka .byte za (((xs ++ [(p2.toInt8.toInt32)]) ++ [((p2 >>> ((8 : Int32) &&& 31)).toInt8.toInt32)]).map Value.int) (.int 0) := by rw [← own_setlast]; exact V5
 show Go _ _ _ _ (T5.setTop (mkF m 53 #[lR p0, lI (Int32.ofNat (2 * ii + 1)), lI p2] []))
 obtain ⟨fs, hr, hrun, hended, hW, hsame⟩ := X5.leave (v := none) (fun _ => rfl)
 refine ⟨_, ?_, hPend _ _ hrun hended ⟨_, _, rfl, ?_, ⟨_, rfl⟩, hW, hsame.mono (by decide) (by decide)⟩⟩
 ·exact X5.returnOut hx Bd.returns (hb hby od12_53) hr
 ·show Q_rm_putc Z _ _ _ _ _ _ _ _ h0 n0 _ T5.heap _
  rw [e5]
  exact ⟨rfl, N5, K5, V5'⟩
theorem own_ef_rm_u16b1 (m : MethodId) (x0 : Int32) : entryFrame m #[(.int x0)] 2 = mkF m 0 #[.val (.int x0), .unset] [] := by first | (simp [entryFrame, mkF, argsToLocals, Value.category]; done) | rfl
theorem od13_0 : decode jdk_52_method_24_code 0 = .ok (.iconst 2, 1) := by decide +kernel
theorem od13_1 : decode jdk_52_method_24_code 1 = .ok (.newarray .byte, 2) := by decide +kernel
theorem od13_3 : decode jdk_52_method_24_code 3 = .ok (.astore_n 1, 1) := by decide +kernel
theorem od13_4 : decode jdk_52_method_24_code 4 = .ok (.aload_n 1, 1) := by decide +kernel
theorem od13_5 : decode jdk_52_method_24_code 5 = .ok (.iconst 0, 1) := by decide +kernel
theorem od13_6 : decode jdk_52_method_24_code 6 = .ok (.iload_n 0, 1) := by decide +kernel
theorem od13_7 : decode jdk_52_method_24_code 7 = .ok (.invokestatic 111, 3) := by decide +kernel
theorem own_pd6 : parseMethodDescriptor "([BII)V" = some ⟨[(.array .byte), .int, .int], none⟩ := by decide +kernel
theorem od13_10 : decode jdk_52_method_24_code 10 = .ok (.aload_n 1, 1) := by decide +kernel
theorem od13_11 : decode jdk_52_method_24_code 11 = .ok (.areturn, 1) := by decide +kernel
def Q_rm_u16b1 (Z : State) (g_CS : Int32) (p0 : Int32) (h0 : Heap) (n0 : Nat) (v : Option Value) (h : Heap) (L : List Loc) : Prop := ∃ (ob : Addr) (kb : ClassId), v = some (.ref ob) ∧ Fr n0 L ∧ Keep h0 h [] ∧ h0.size ≤ ob
set_option maxRecDepth 65536 in
set_option maxHeartbeats 40000000 in
theorem rm_u16b1 (l : Launch) (Z : State) (a0 : Array Value) (hw : ∀ d ∈ tables_1, d.before a0 Z = true) (ws : List Jvm.Cond) (S_AD : Sta Z Z.heap "java/lang/StringUTF16" "$assertionsDisabled" "Z" (.int 1)) (S_HI : Sta Z Z.heap "java/lang/StringUTF16" "HI_BYTE_SHIFT" "I" (.int 0)) (S_LO : Sta Z Z.heap "java/lang/StringUTF16" "LO_BYTE_SHIFT" "I" (.int 8)) (g_CS : Int32) (S_CS : Sta Z Z.heap "java/lang/String" "COMPACT_STRINGS" "Z" (.int g_CS)) (nz_CS : ¬ (g_CS = (0 : Int32))) (p0 : Int32) (h0 : Heap) (n0 : Nat) (X00 : Old Z n0 h0)  :
    MetFree l (⟨"java/lang/StringUTF16", "toBytes", "(C)[B"⟩ : MethodName) (head1 (Jvm.Cond.code (⟨"java/lang/StringUTF16", "toBytes", "(C)[B"⟩ : MethodName) jdk_52_method_24_code 2 (some (.array .byte)) :: ws) ({ frames := 1, cells := 1, slots := 2, locals := 14 } : Room)) (fun a U => a = #[(.int p0)] ∧ Z.Warmed39 U.vm ∧ U.heap = h0) (fun _ _ _ _ _ => True) (fun _ U o U' => ∃ v L, o = .returned v ∧ Q_rm_u16b1 Z g_CS p0 h0 n0 v U'.heap L ∧ FrameEnd U o U' L ({ frames := 1, cells := 1, slots := 2, locals := 14 } : Room).cells ({ frames := 1, cells := 1, slots := 2, locals := 14 } : Room).slots) := by
 refine MetFree.of_bodySF (plainFor_of_name own_pn4) hisR ?_
 intro p e s m args below meth c s₁ Bd hml0 hP hK
 obtain ⟨rfl, hZ, hh⟩ := hP
 have hx := Bd.exec
 have hby := Bd.bytes
 have hml : c.maxLocals = 2 := hml0
 have hown : s.vm.findClass "java/lang/StringUTF16" = some m.cls := findClass_of_methodNamed Bd.named
 have hnm := (name_of_methodNamed Bd.named Bd.method).1
 have X0 : Stand p l e ({ frames := 1, cells := 1, slots := 2, locals := 14 } : Room) s m #[(.int p0)] below meth c s₁ [] 0 0 := Stand.of_body Bd
 have e0 : s₁.heap = h0 := by rw [← hh, Bd.state]; rfl
 have N0 := Fr.nil n0
 refine Go.start fun P hPend => ?_
 refine Go.st (fun _ k => castTop (own_ef_rm_u16b1 m p0) k) ?_
 show Go _ _ _ _ (s₁.setTop (mkF m 0 #[lI p0, lU] []))
 refine Go.st (fun _ => XS.iconst X0.here hx rfl (hb hby od13_0)) ?_
 show Go _ _ _ _ (s₁.setTop (mkF m 1 #[lI p0, lU] [(.int 2)]))
 obtain ⟨T1, h1, k1, X1, e1, E1, A1, st1⟩ := newP X0 hx hZ (ow hw 27 rfl) e0 (g := (mkF m 1 #[lI p0, lU] [(.int 2)])) rfl (hb hby od13_1) rfl (by decide) (cap := 2) (by decide) (by decide) (by decide) (by decide)
 obtain ⟨b1, g1⟩ : ∃ z, z = h0.size := ⟨_, rfl⟩
 rw [← g1] at A1 st1
 refine Go.st st1 ?_
 have g_b1 : n0 ≤ b1 := Nat.le_trans (own_oldsz X00) (Nat.le_of_eq g1.symm)
 have sz_b1 : h0.size ≤ b1 := Nat.le_trans (Keep.refl h0 []).1 (Nat.le_of_eq g1.symm)
 have K1 : Keep h0 h1 [] := (Keep.refl h0 []).ext E1
 have O1 := X00.ext E1
 have V1 : Arv Z h1 b1 k1 .byte (2 : Int32) [] (.int 0) := Arv.new A1 (by decide)
 show Go _ _ _ _ (T1.setTop (mkF m 3 #[lI p0, lU] [(.ref b1)]))
 refine Go.st (fun _ => XS.astoreN X1.here hx rfl (hb hby od13_3) rfl rfl (l' := #[lI p0, lR b1]) rfl) ?_
 show Go _ _ _ _ (T1.setTop (mkF m 4 #[lI p0, lR b1] []))
 refine Go.st (fun _ => XS.aloadN X1.here hx rfl (hb hby od13_4) rfl rfl) ?_
 refine Go.st (fun _ => XS.iconst X1.here hx rfl (hb hby od13_5)) ?_
 refine Go.st (fun _ => XS.iloadN X1.here hx rfl (hb hby od13_6) rfl) ?_
 show Go _ _ _ _ (T1.setTop (mkF m 7 #[lI p0, lR b1] [(.int p0), (.int 0), (.ref b1)]))
 obtain ⟨_, _, ⟨T2, L2, k2, n2⟩, -, X2, ⟨Lc2, hQ2, l2, y2, z2⟩, st2⟩ := Jvm.LawKit.callS X1 hx (y := (⟨"java/lang/StringUTF16", "putChar", "([BII)V"⟩ : MethodName)) hown (mvT hZ (ow hw 114 rfl)) (mvT hZ (ow hw 115 rfl)) (mvT hZ (ow hw 25 rfl)) (mvT hZ (ow hw 116 rfl)) (by decide) (backOf (W := 0) (rm_putc l Z a0 hw [] S_AD S_HI S_LO g_CS S_CS nz_CS b1 (0 : Int32) p0 ([] : List Int32) k1 (2 : Int32) 0 h1 n0 O1 V1 g_b1 rfl rfl (by decide) (by decide)) hZ (ow hw 116 rfl) (ow hw 25 rfl) (by decide) (by decide)) (g := (mkF m 7 #[lI p0, lR b1] [(.int p0), (.int 0), (.ref b1)])) rfl (by rw [hml]; rfl) (argsL := [(.ref b1), (.int 0), (.int p0)]) (rest := []) (lenOf own_pd6 rfl) rfl (by show 2 * 0 + _ ≤ _; exact Nat.le_of_eq rfl) (hb hby od13_7) (fun _ _ => ⟨rfl, e1, (by decide : 1 + 0 ≤ _), (by decide : 2 + 0 ≤ _)⟩)
 dsimp only [Pt.U, Pt.locs, Pt.cells, Pt.slots] at X2 l2 y2 z2 st2 hQ2
 subst y2 z2
 refine Go.st st2 ?_
 obtain ⟨rfl, N2q, K2q, q2_0⟩ := hQ2
 have N2 : Fr n0 L2 := by rw [l2]; exact Fr.app N0 N2q
 have O2 := O1.keep K2q (allS g_b1 all0)
 have K2 : Keep h0 T2.heap [] := K1.trans K2q (allS (Or.inr sz_b1) all0)
 show Go _ _ _ _ (T2.setTop (mkF m 10 #[lI p0, lR b1] []))
 refine Go.st (fun _ => XS.aloadN X2.here hx rfl (hb hby od13_10) rfl rfl) ?_
 show Go _ _ _ _ (T2.setTop (mkF m 11 #[lI p0, lR b1] [(.ref b1)]))
 obtain ⟨fs, hr, hrun, hended, hW, hsame⟩ := X2.leave (v := some (.ref b1)) (fun h => by rw [Bd.returns] at h; cases h)
 refine ⟨_, ?_, hPend _ _ hrun hended ⟨_, _, rfl, ?_, ⟨_, rfl⟩, hW, hsame.mono (by decide) (by decide)⟩⟩
 ·exact retOut X2 hx (t := (.array .byte)) Bd.returns rfl (Or.inr (Or.inr (Or.inr (Or.inr ⟨rfl, rfl, rfl⟩)))) (hb hby od13_11) hr
 ·show Q_rm_u16b1 Z _ _ h0 n0 _ T2.heap _
  exact ⟨b1, k1, rfl, N2, K2, sz_b1⟩
theorem own_ef_rm_nbl (m : MethodId) (x0 : Int32) : entryFrame m #[(.int x0)] 1 = mkF m 0 #[.val (.int x0)] [] := by first | (simp [entryFrame, mkF, argsToLocals, Value.category]; done) | rfl
theorem od14_0 : decode jdk_52_method_3_code 0 = .ok (.iload_n 0, 1) := by decide +kernel
theorem od14_1 : decode jdk_52_method_3_code 1 = .ok (.ifCond .ge 11, 3) := by decide +kernel
theorem od14_12 : decode jdk_52_method_3_code 12 = .ok (.iload_n 0, 1) := by decide +kernel
theorem od14_13 : decode jdk_52_method_3_code 13 = .ok (.ldc 20, 2) := by decide +kernel
theorem od14_15 : decode jdk_52_method_3_code 15 = .ok (.if_icmp .lt 40, 3) := by decide +kernel
theorem od14_55 : decode jdk_52_method_3_code 55 = .ok (.iload_n 0, 1) := by decide +kernel
theorem od14_56 : decode jdk_52_method_3_code 56 = .ok (.iconst 1, 1) := by decide +kernel
theorem od14_57 : decode jdk_52_method_3_code 57 = .ok (.ishl, 1) := by decide +kernel
theorem od14_58 : decode jdk_52_method_3_code 58 = .ok (.ireturn, 1) := by decide +kernel
def Q_rm_nbl (Z : State) (g_CS : Int32) (p0 : Int32) (nn : Nat) (h0 : Heap) (n0 : Nat) (v : Option Value) (h : Heap) (L : List Loc) : Prop := v = some (.int (Int32.ofNat (2 * nn))) ∧ Fr n0 L ∧ h = h0
set_option maxRecDepth 65536 in
set_option maxHeartbeats 40000000 in
theorem rm_nbl (l : Launch) (Z : State) (a0 : Array Value) (hw : ∀ d ∈ tables_1, d.before a0 Z = true) (ws : List Jvm.Cond) (S_AD : Sta Z Z.heap "java/lang/StringUTF16" "$assertionsDisabled" "Z" (.int 1)) (S_HI : Sta Z Z.heap "java/lang/StringUTF16" "HI_BYTE_SHIFT" "I" (.int 0)) (S_LO : Sta Z Z.heap "java/lang/StringUTF16" "LO_BYTE_SHIFT" "I" (.int 8)) (g_CS : Int32) (S_CS : Sta Z Z.heap "java/lang/String" "COMPACT_STRINGS" "Z" (.int g_CS)) (nz_CS : ¬ (g_CS = (0 : Int32))) (p0 : Int32) (nn : Nat) (h0 : Heap) (n0 : Nat) (X00 : Old Z n0 h0) (hnn : p0 = Int32.ofNat nn) (hn : nn ≤ 32) :
    MetFree l (⟨"java/lang/StringUTF16", "newBytesLength", "(I)I"⟩ : MethodName) (head1 (Jvm.Cond.code (⟨"java/lang/StringUTF16", "newBytesLength", "(I)I"⟩ : MethodName) jdk_52_method_3_code 1 (some .int) :: ws) ({ frames := 0, cells := 0, slots := 0, locals := 0 } : Room)) (fun a U => a = #[(.int p0)] ∧ Z.Warmed39 U.vm ∧ U.heap = h0) (fun _ _ _ _ _ => True) (fun _ U o U' => ∃ v L, o = .returned v ∧ Q_rm_nbl Z g_CS p0 nn h0 n0 v U'.heap L ∧ FrameEnd U o U' L ({ frames := 0, cells := 0, slots := 0, locals := 0 } : Room).cells ({ frames := 0, cells := 0, slots := 0, locals := 0 } : Room).slots) := by
 refine MetFree.of_bodySF (plainFor_of_name own_pn4) hisR ?_
 intro p e s m args below meth c s₁ Bd hml0 hP hK
 obtain ⟨rfl, hZ, hh⟩ := hP
 have hx := Bd.exec
 have hby := Bd.bytes
 have hml : c.maxLocals = 1 := hml0
 have hown : s.vm.findClass "java/lang/StringUTF16" = some m.cls := findClass_of_methodNamed Bd.named
 have hnm := (name_of_methodNamed Bd.named Bd.method).1
 have X0 : Stand p l e ({ frames := 0, cells := 0, slots := 0, locals := 0 } : Room) s m #[(.int p0)] below meth c s₁ [] 0 0 := Stand.of_body Bd
 have e0 : s₁.heap = h0 := by rw [← hh, Bd.state]; rfl
 have N0 := Fr.nil n0
 refine Go.start fun P hPend => ?_
 refine Go.st (fun _ k => castTop (own_ef_rm_nbl m p0) k) ?_
 show Go _ _ _ _ (s₁.setTop (mkF m 0 #[lI p0] []))
 refine Go.st (fun _ => XS.iloadN X0.here hx rfl (hb hby od14_0) rfl) ?_
 show Go _ _ _ _ (s₁.setTop (mkF m 1 #[lI p0] [(.int p0)]))
 have hb1 : ¬ (p0 < (0 : Int32)) := by rw [hnn]; exact own_nneg (by omega)
 refine Go.st (fun _ => XS.ifYes X0.here hx rfl (pc0 := 1) (pc' := 12) rfl (hb hby od14_1) rfl ((if0 _ _).trans (flt hb1).2.1) (by decide) (by decide)) ?_
 show Go _ _ _ _ (s₁.setTop (mkF m 12 #[lI p0] []))
 refine Go.st (fun _ => XS.iloadN X0.here hx rfl (hb hby od14_12) rfl) ?_
 show Go _ _ _ _ (s₁.setTop (mkF m 13 #[lI p0] [(.int p0)]))
 refine Go.st (fun _ => X0.ldcInt hx hown (mvT hZ (ow hw 141 rfl)) (g := (mkF m 13 #[lI p0] [(.int p0)])) rfl (hb hby od14_13) _) ?_
 show Go _ _ _ _ (s₁.setTop (mkF m 15 #[lI p0] [(.int 1073741823), (.int p0)]))
 have hb2 : p0 < (1073741823 : Int32) := by rw [hnn, Int32.lt_iff_toInt_lt, own_ofN (by omega), show (1073741823 : Int32).toInt = 1073741823 from rfl]; omega
 refine Go.st (fun _ => XS.icmpYes X0.here hx rfl (pc0 := 15) (pc' := 55) rfl (hb hby od14_15) rfl (tlt hb2).1 (by decide) (by decide)) ?_
 show Go _ _ _ _ (s₁.setTop (mkF m 55 #[lI p0] []))
 refine Go.st (fun _ => XS.iloadN X0.here hx rfl (hb hby od14_55) rfl) ?_
 refine Go.st (fun _ => XS.iconst X0.here hx rfl (hb hby od14_56)) ?_
 show Go _ _ _ _ (s₁.setTop (mkF m 57 #[lI p0] [(.int 1), (.int p0)]))
 refine Go.st (fun _ => XS.ishl X0.here hx rfl (hb hby od14_57) rfl) ?_
 show Go _ _ _ _ (s₁.setTop (mkF m 58 #[lI p0] [(.int (p0 <<< ((1 : Int32) &&& 31)))]))
 rw [show (p0 <<< ((1 : Int32) &&& 31)) = (Int32.ofNat (2 * nn)) from by rw [hnn]; exact own_shl1 (by omega)]
 show Go _ _ _ _ (s₁.setTop (mkF m 58 #[lI p0] [(.int (Int32.ofNat (2 * nn)))]))
 obtain ⟨fs, hr, hrun, hended, hW, hsame⟩ := X0.leave (v := some (.int (Int32.ofNat (2 * nn)))) (fun h => by rw [Bd.returns] at h; cases h)
 refine ⟨_, ?_, hPend _ _ hrun hended ⟨_, _, rfl, ?_, ⟨_, rfl⟩, hW, hsame.mono (by decide) (by decide)⟩⟩
 ·exact retOut X0 hx (t := .int) Bd.returns rfl (Or.inl ⟨rfl, Or.inl rfl, _, rfl⟩) (hb hby od14_58) hr
 ·show Q_rm_nbl Z _ _ _ h0 n0 _ s₁.heap _
  rw [e0]
  exact ⟨rfl, N0, rfl⟩
theorem own_ef_rm_nbf (m : MethodId) (x0 : Int32) : entryFrame m #[(.int x0)] 1 = mkF m 0 #[.val (.int x0)] [] := by first | (simp [entryFrame, mkF, argsToLocals, Value.category]; done) | rfl
theorem od15_0 : decode jdk_52_method_2_code 0 = .ok (.iload_n 0, 1) := by decide +kernel
theorem od15_1 : decode jdk_52_method_2_code 1 = .ok (.invokestatic 11, 3) := by decide +kernel
theorem own_pd7 : parseMethodDescriptor "(I)I" = some ⟨[.int], some .int⟩ := by decide +kernel
theorem od15_4 : decode jdk_52_method_2_code 4 = .ok (.newarray .byte, 2) := by decide +kernel
theorem od15_6 : decode jdk_52_method_2_code 6 = .ok (.areturn, 1) := by decide +kernel
def Q_rm_nbf (Z : State) (g_CS : Int32) (p0 : Int32) (nn : Nat) (h0 : Heap) (n0 : Nat) (v : Option Value) (h : Heap) (L : List Loc) : Prop := ∃ (ob : Addr) (kb : ClassId), v = some (.ref ob) ∧ Fr n0 L ∧ Keep h0 h [] ∧ h0.size ≤ ob ∧ Arv Z h ob kb .byte (Int32.ofNat (2 * nn)) [] (.int 0)
set_option maxRecDepth 65536 in
set_option maxHeartbeats 40000000 in
theorem rm_nbf (l : Launch) (Z : State) (a0 : Array Value) (hw : ∀ d ∈ tables_1, d.before a0 Z = true) (ws : List Jvm.Cond) (S_AD : Sta Z Z.heap "java/lang/StringUTF16" "$assertionsDisabled" "Z" (.int 1)) (S_HI : Sta Z Z.heap "java/lang/StringUTF16" "HI_BYTE_SHIFT" "I" (.int 0)) (S_LO : Sta Z Z.heap "java/lang/StringUTF16" "LO_BYTE_SHIFT" "I" (.int 8)) (g_CS : Int32) (S_CS : Sta Z Z.heap "java/lang/String" "COMPACT_STRINGS" "Z" (.int g_CS)) (nz_CS : ¬ (g_CS = (0 : Int32))) (p0 : Int32) (nn : Nat) (h0 : Heap) (n0 : Nat) (X00 : Old Z n0 h0) (hnn : p0 = Int32.ofNat nn) (hn : nn ≤ 32) :
    MetFree l (⟨"java/lang/StringUTF16", "newBytesFor", "(I)[B"⟩ : MethodName) (head1 (Jvm.Cond.code (⟨"java/lang/StringUTF16", "newBytesFor", "(I)[B"⟩ : MethodName) jdk_52_method_2_code 1 (some (.array .byte)) :: ws) ({ frames := 1, cells := 1, slots := 64, locals := 12 } : Room)) (fun a U => a = #[(.int p0)] ∧ Z.Warmed39 U.vm ∧ U.heap = h0) (fun _ _ _ _ _ => True) (fun _ U o U' => ∃ v L, o = .returned v ∧ Q_rm_nbf Z g_CS p0 nn h0 n0 v U'.heap L ∧ FrameEnd U o U' L ({ frames := 1, cells := 1, slots := 64, locals := 12 } : Room).cells ({ frames := 1, cells := 1, slots := 64, locals := 12 } : Room).slots) := by
 refine MetFree.of_bodySF (plainFor_of_name own_pn4) hisR ?_
 intro p e s m args below meth c s₁ Bd hml0 hP hK
 obtain ⟨rfl, hZ, hh⟩ := hP
 have hx := Bd.exec
 have hby := Bd.bytes
 have hml : c.maxLocals = 1 := hml0
 have hown : s.vm.findClass "java/lang/StringUTF16" = some m.cls := findClass_of_methodNamed Bd.named
 have hnm := (name_of_methodNamed Bd.named Bd.method).1
 have X0 : Stand p l e ({ frames := 1, cells := 1, slots := 64, locals := 12 } : Room) s m #[(.int p0)] below meth c s₁ [] 0 0 := Stand.of_body Bd
 have e0 : s₁.heap = h0 := by rw [← hh, Bd.state]; rfl
 have N0 := Fr.nil n0
 refine Go.start fun P hPend => ?_
 refine Go.st (fun _ k => castTop (own_ef_rm_nbf m p0) k) ?_
 show Go _ _ _ _ (s₁.setTop (mkF m 0 #[lI p0] []))
 refine Go.st (fun _ => XS.iloadN X0.here hx rfl (hb hby od15_0) rfl) ?_
 show Go _ _ _ _ (s₁.setTop (mkF m 1 #[lI p0] [(.int p0)]))
 obtain ⟨_, _, ⟨T1, L1, k1, n1⟩, -, X1, ⟨Lc1, hQ1, l1, y1, z1⟩, st1⟩ := Jvm.LawKit.callS X0 hx (y := (⟨"java/lang/StringUTF16", "newBytesLength", "(I)I"⟩ : MethodName)) hown (mvT hZ (ow hw 138 rfl)) (mvT hZ (ow hw 139 rfl)) (mvT hZ (ow hw 25 rfl)) (mvT hZ (ow hw 140 rfl)) (by decide) (backOf (W := 0) (rm_nbl l Z a0 hw [] S_AD S_HI S_LO g_CS S_CS nz_CS p0 nn h0 n0 X00 hnn hn) hZ (ow hw 140 rfl) (ow hw 25 rfl) (by decide) (by decide)) (g := (mkF m 1 #[lI p0] [(.int p0)])) rfl (by rw [hml]; rfl) (argsL := [(.int p0)]) (rest := []) (lenOf own_pd7 rfl) rfl (by show 2 * 0 + _ ≤ _; exact Nat.le_of_eq rfl) (hb hby od15_1) (fun _ _ => ⟨rfl, e0, (by decide : 0 + 0 ≤ _), (by decide : 0 + 0 ≤ _)⟩)
 dsimp only [Pt.U, Pt.locs, Pt.cells, Pt.slots] at X1 l1 y1 z1 st1 hQ1
 subst y1 z1
 refine Go.st st1 ?_
 obtain ⟨rfl, N1q, e1⟩ := hQ1
 have N1 : Fr n0 L1 := by rw [l1]; exact Fr.app N0 N1q
 show Go _ _ _ _ (T1.setTop (mkF m 4 #[lI p0] [(.int (Int32.ofNat (2 * nn)))]))
 obtain ⟨T2, h2, k2, X2, e2, E2, A2, st2⟩ := newP X1 hx hZ (ow hw 27 rfl) e1 (g := (mkF m 4 #[lI p0] [(.int (Int32.ofNat (2 * nn)))])) rfl (hb hby od15_4) rfl (own_nneg (by omega)) (cap := 64) (by rw [own_clamp (by omega)]; omega) (by decide) (by decide) (by decide)
 obtain ⟨b2, g2⟩ : ∃ z, z = h0.size := ⟨_, rfl⟩
 rw [← g2] at A2 st2
 refine Go.st st2 ?_
 have g_b2 : n0 ≤ b2 := Nat.le_trans (own_oldsz X00) (Nat.le_of_eq g2.symm)
 have sz_b2 : h0.size ≤ b2 := Nat.le_trans (Keep.refl h0 []).1 (Nat.le_of_eq g2.symm)
 have K2 : Keep h0 h2 [] := (Keep.refl h0 []).ext E2
 have O2 := X00.ext E2
 have V2 : Arv Z h2 b2 k2 .byte (Int32.ofNat (2 * nn)) [] (.int 0) := Arv.new A2 (own_nneg (by omega))
 show Go _ _ _ _ (T2.setTop (mkF m 6 #[lI p0] [(.ref b2)]))
 obtain ⟨fs, hr, hrun, hended, hW, hsame⟩ := X2.leave (v := some (.ref b2)) (fun h => by rw [Bd.returns] at h; cases h)
 refine ⟨_, ?_, hPend _ _ hrun hended ⟨_, _, rfl, ?_, ⟨_, rfl⟩, hW, hsame.mono (by decide) (by decide)⟩⟩
 ·exact retOut X2 hx (t := (.array .byte)) Bd.returns rfl (Or.inr (Or.inr (Or.inr (Or.inr ⟨rfl, rfl, rfl⟩)))) (hb hby od15_6) hr
 ·show Q_rm_nbf Z _ _ _ h0 n0 _ T2.heap _
  rw [e2]
  exact ⟨b2, k2, rfl, N1, K2, sz_b2, V2⟩
theorem own_ef_rm_u16b3 (m : MethodId) (x0 : Addr) (x1 : Int32) (x2 : Int32) : entryFrame m #[(.ref x0), (.int x1), (.int x2)] 5 = mkF m 0 #[.val (.ref x0), .val (.int x1), .val (.int x2), .unset, .unset] [] := by first | (simp [entryFrame, mkF, argsToLocals, Value.category]; done) | rfl
theorem od16_0 : decode jdk_52_method_14_code 0 = .ok (.iload_n 2, 1) := by decide +kernel
theorem od16_1 : decode jdk_52_method_14_code 1 = .ok (.invokestatic 107, 3) := by decide +kernel
theorem own_pd8 : parseMethodDescriptor "(I)[B" = some ⟨[.int], some (.array .byte)⟩ := by decide +kernel
theorem od16_4 : decode jdk_52_method_14_code 4 = .ok (.astore_n 3, 1) := by decide +kernel
theorem od16_5 : decode jdk_52_method_14_code 5 = .ok (.iconst 0, 1) := by decide +kernel
theorem od16_6 : decode jdk_52_method_14_code 6 = .ok (.istore 4, 2) := by decide +kernel
theorem od16_8 : decode jdk_52_method_14_code 8 = .ok (.iload 4, 2) := by decide +kernel
theorem od16_10 : decode jdk_52_method_14_code 10 = .ok (.iload_n 2, 1) := by decide +kernel
theorem od16_11 : decode jdk_52_method_14_code 11 = .ok (.if_icmp .ge 21, 3) := by decide +kernel
theorem od16_32 : decode jdk_52_method_14_code 32 = .ok (.aload_n 3, 1) := by decide +kernel
theorem od16_33 : decode jdk_52_method_14_code 33 = .ok (.areturn, 1) := by decide +kernel
theorem od16_14 : decode jdk_52_method_14_code 14 = .ok (.aload_n 3, 1) := by decide +kernel
theorem od16_15 : decode jdk_52_method_14_code 15 = .ok (.iload 4, 2) := by decide +kernel
theorem od16_17 : decode jdk_52_method_14_code 17 = .ok (.aload_n 0, 1) := by decide +kernel
theorem od16_18 : decode jdk_52_method_14_code 18 = .ok (.iload_n 1, 1) := by decide +kernel
theorem od16_19 : decode jdk_52_method_14_code 19 = .ok (.caload, 1) := by decide +kernel
theorem od16_20 : decode jdk_52_method_14_code 20 = .ok (.invokestatic 111, 3) := by decide +kernel
theorem od16_23 : decode jdk_52_method_14_code 23 = .ok (.iinc 1 1, 3) := by decide +kernel
theorem od16_26 : decode jdk_52_method_14_code 26 = .ok (.iinc 4 1, 3) := by decide +kernel
theorem od16_29 : decode jdk_52_method_14_code 29 = .ok (.goto (-21), 3) := by decide +kernel
def Q_rm_u16b3 (Z : State) (g_CS : Int32) (p0 : Addr) (p2 : Int32) (xs : List Int32) (ka : ClassId) (nn : Nat) (h0 : Heap) (n0 : Nat) (v : Option Value) (h : Heap) (L : List Loc) : Prop := ∃ (ob : Addr) (kb : ClassId), v = some (.ref ob) ∧ Fr n0 L ∧ Keep h0 h [] ∧ h0.size ≤ ob ∧ Arv Z h ob kb .byte (Int32.ofNat (2 * nn)) ((own_wb xs).map Value.int) (.int 0)
set_option maxRecDepth 65536 in
set_option maxHeartbeats 40000000 in
theorem rm_u16b3 (l : Launch) (Z : State) (a0 : Array Value) (hw : ∀ d ∈ tables_1, d.before a0 Z = true) (ws : List Jvm.Cond) (S_AD : Sta Z Z.heap "java/lang/StringUTF16" "$assertionsDisabled" "Z" (.int 1)) (S_HI : Sta Z Z.heap "java/lang/StringUTF16" "HI_BYTE_SHIFT" "I" (.int 0)) (S_LO : Sta Z Z.heap "java/lang/StringUTF16" "LO_BYTE_SHIFT" "I" (.int 8)) (g_CS : Int32) (S_CS : Sta Z Z.heap "java/lang/String" "COMPACT_STRINGS" "Z" (.int g_CS)) (nz_CS : ¬ (g_CS = (0 : Int32))) (p0 : Addr) (p2 : Int32) (xs : List Int32) (ka : ClassId) (nn : Nat) (h0 : Heap) (n0 : Nat) (X00 : Old Z n0 h0) (hp0 : Arv Z h0 p0 ka .char p2 (xs.map Value.int) (.int 0)) (hnn : p2 = Int32.ofNat nn) (hn : nn ≤ 32) (hxn : xs.length = nn) :
    MetFree l (⟨"java/lang/StringUTF16", "toBytes", "([CII)[B"⟩ : MethodName) (head1 (Jvm.Cond.code (⟨"java/lang/StringUTF16", "toBytes", "([CII)[B"⟩ : MethodName) jdk_52_method_14_code 5 (some (.array .byte)) :: ws) ({ frames := 2, cells := 1, slots := 64, locals := 24 } : Room)) (fun a U => a = #[(.ref p0), (.int 0), (.int p2)] ∧ Z.Warmed39 U.vm ∧ U.heap = h0) (fun _ _ _ _ _ => True) (fun _ U o U' => ∃ v L, o = .returned v ∧ Q_rm_u16b3 Z g_CS p0 p2 xs ka nn h0 n0 v U'.heap L ∧ FrameEnd U o U' L ({ frames := 2, cells := 1, slots := 64, locals := 24 } : Room).cells ({ frames := 2, cells := 1, slots := 64, locals := 24 } : Room).slots) := by
 refine MetFree.of_bodySF (plainFor_of_name own_pn4) hisR ?_
 intro p e s m args below meth c s₁ Bd hml0 hP hK
 obtain ⟨rfl, hZ, hh⟩ := hP
 have hx := Bd.exec
 have hby := Bd.bytes
 have hml : c.maxLocals = 5 := hml0
 have hown : s.vm.findClass "java/lang/StringUTF16" = some m.cls := findClass_of_methodNamed Bd.named
 have hnm := (name_of_methodNamed Bd.named Bd.method).1
 have X0 : Stand p l e ({ frames := 2, cells := 1, slots := 64, locals := 24 } : Room) s m #[(.ref p0), (.int 0), (.int p2)] below meth c s₁ [] 0 0 := Stand.of_body Bd
 have e0 : s₁.heap = h0 := by rw [← hh, Bd.state]; rfl
 have N0 := Fr.nil n0
 refine Go.start fun P hPend => ?_
 refine Go.st (fun _ k => castTop (own_ef_rm_u16b3 m p0 ((0 : Int32)) p2) k) ?_
 show Go _ _ _ _ (s₁.setTop (mkF m 0 #[lR p0, lI (0 : Int32), lI p2, lU, lU] []))
 refine Go.st (fun _ => XS.iloadN X0.here hx rfl (hb hby od16_0) rfl) ?_
 show Go _ _ _ _ (s₁.setTop (mkF m 1 #[lR p0, lI (0 : Int32), lI p2, lU, lU] [(.int p2)]))
 obtain ⟨_, _, ⟨T1, L1, k1, n1⟩, -, X1, ⟨Lc1, hQ1, l1, y1, z1⟩, st1⟩ := Jvm.LawKit.callS X0 hx (y := (⟨"java/lang/StringUTF16", "newBytesFor", "(I)[B"⟩ : MethodName)) hown (mvT hZ (ow hw 135 rfl)) (mvT hZ (ow hw 136 rfl)) (mvT hZ (ow hw 25 rfl)) (mvT hZ (ow hw 137 rfl)) (by decide) (backOf (W := 0) (rm_nbf l Z a0 hw [] S_AD S_HI S_LO g_CS S_CS nz_CS p2 nn h0 n0 X00 hnn hn) hZ (ow hw 137 rfl) (ow hw 25 rfl) (by decide) (by decide)) (g := (mkF m 1 #[lR p0, lI (0 : Int32), lI p2, lU, lU] [(.int p2)])) rfl (by rw [hml]; rfl) (argsL := [(.int p2)]) (rest := []) (lenOf own_pd8 rfl) rfl (by show 2 * 0 + _ ≤ _; exact Nat.le_of_eq rfl) (hb hby od16_1) (fun _ _ => ⟨rfl, e0, (by decide : 0 + 1 ≤ _), (by decide : 0 + 64 ≤ _)⟩)
 dsimp only [Pt.U, Pt.locs, Pt.cells, Pt.slots] at X1 l1 y1 z1 st1 hQ1
 subst y1 z1
 refine Go.st st1 ?_
 obtain ⟨ob_2, kb_3, rfl, N1q, K1q, q1_0, q1_1⟩ := hQ1
 have N1 : Fr n0 L1 := by rw [l1]; exact Fr.app N0 N1q
 have O1 := X00.keep K1q all0
 have K1 : Keep h0 T1.heap [] := (Keep.refl h0 []).trans K1q all0
 have sz_ob_2 : h0.size ≤ ob_2 := Nat.le_trans (Keep.refl h0 []).1 q1_0
 have g_ob_2 : n0 ≤ ob_2 := Nat.le_trans (own_oldsz X00) sz_ob_2
 show Go _ _ _ _ (T1.setTop (mkF m 4 #[lR p0, lI (0 : Int32), lI p2, lU, lU] [(.ref ob_2)]))
 refine Go.st (fun _ => XS.astoreN X1.here hx rfl (hb hby od16_4) rfl rfl (l' := #[lR p0, lI (0 : Int32), lI p2, lR ob_2, lU]) rfl) ?_
 show Go _ _ _ _ (T1.setTop (mkF m 5 #[lR p0, lI (0 : Int32), lI p2, lR ob_2, lU] []))
 refine Go.st (fun _ => XS.iconst X1.here hx rfl (hb hby od16_5)) ?_
 show Go _ _ _ _ (T1.setTop (mkF m 6 #[lR p0, lI (0 : Int32), lI p2, lR ob_2, lU] [(.int 0)]))
 refine Go.st (fun _ => XS.istore X1.here hx rfl (hb hby od16_6) rfl (l' := #[lR p0, lI (0 : Int32), lI p2, lR ob_2, lI (0 : Int32)]) rfl) ?_
 show Go _ _ _ _ (T1.setTop (mkF m 8 #[lR p0, lI (0 : Int32), lI p2, lR ob_2, lI (0 : Int32)] []))
 have J4 : ∀ (r i : Nat) (hir : i + r = nn) (Tj4 : State) (hj4 : Heap) (Lj4 : List Loc) (Xj4 : Stand p l e ({ frames := 2, cells := 1, slots := 64, locals := 24 } : Room) s m #[(.ref p0), (.int 0), (.int p2)] below meth c Tj4 Lj4 1 64) (ej4 : Tj4.heap = hj4) (Kj4 : Keep h0 hj4 []) (Oj4 : Old Z n0 hj4) (Nj4 : Fr n0 Lj4) (fj4_0 : Arv Z hj4 p0 ka .char p2 (xs.map Value.int) (.int 0)) (jo : Int32) (ji : Int32) (hjA : Arv Z hj4 ob_2 kb_3 .byte (Int32.ofNat (2 * nn)) ((own_wb (xs.take i)).map Value.int) (.int 0)) (hjo : jo = Int32.ofNat i) (hji : ji = Int32.ofNat i), Go p.tables e below P (Tj4.setTop (mkF m 8 #[lR p0, lI jo, lI p2, lR ob_2, lI ji] [])) := by
  intro r
  induction r with
  | zero =>
   intro i hir Tj4 hj4 Lj4 Xj4 ej4 Kj4 Oj4 Nj4 fj4_0 jo ji hjA hjo hji
   show Go _ _ _ _ (Tj4.setTop (mkF m 8 #[lR p0, lI jo, lI p2, lR ob_2, lI ji] []))
   refine Go.st (fun _ => XS.iload Xj4.here hx rfl (hb hby od16_8) rfl) ?_
   show Go _ _ _ _ (Tj4.setTop (mkF m 10 #[lR p0, lI jo, lI p2, lR ob_2, lI ji] [(.int ji)]))
   rw [hjo, hji]
   show Go _ _ _ _ (Tj4.setTop (mkF m 10 #[lR p0, lI (Int32.ofNat i), lI p2, lR ob_2, lI (Int32.ofNat i)] [(.int (Int32.ofNat i))]))
   refine Go.st (fun _ => XS.iloadN Xj4.here hx rfl (hb hby od16_10) rfl) ?_
   show Go _ _ _ _ (Tj4.setTop (mkF m 11 #[lR p0, lI (Int32.ofNat i), lI p2, lR ob_2, lI (Int32.ofNat i)] [(.int p2), (.int (Int32.ofNat i))]))
   have hb5 : ¬ ((Int32.ofNat i) < p2) := by rw [hnn, show i = nn from by omega]; exact Int32.lt_irrefl
   refine Go.st (fun _ => XS.icmpYes Xj4.here hx rfl (pc0 := 11) (pc' := 32) rfl (hb hby od16_11) rfl (flt hb5).2.1 (by decide) (by decide)) ?_
   show Go _ _ _ _ (Tj4.setTop (mkF m 32 #[lR p0, lI (Int32.ofNat i), lI p2, lR ob_2, lI (Int32.ofNat i)] []))
   refine Go.st (fun _ => XS.aloadN Xj4.here hx rfl (hb hby od16_32) rfl rfl) ?_
   show Go _ _ _ _ (Tj4.setTop (mkF m 33 #[lR p0, lI (Int32.ofNat i), lI p2, lR ob_2, lI (Int32.ofNat i)] [(.ref ob_2)]))
   obtain ⟨fs, hr, hrun, hended, hW, hsame⟩ := Xj4.leave (v := some (.ref ob_2)) (fun h => by rw [Bd.returns] at h; cases h)
   refine ⟨_, ?_, hPend _ _ hrun hended ⟨_, _, rfl, ?_, ⟨_, rfl⟩, hW, hsame.mono (by decide) (by decide)⟩⟩
   ·exact retOut Xj4 hx (t := (.array .byte)) Bd.returns rfl (Or.inr (Or.inr (Or.inr (Or.inr ⟨rfl, rfl, rfl⟩)))) (hb hby od16_33) hr
   ·show Q_rm_u16b3 Z _ _ _ _ _ _ h0 n0 _ Tj4.heap _
    rw [ej4]
    exact ⟨ob_2, kb_3, rfl, Nj4, Kj4, sz_ob_2, (by rw [show xs = xs.take i from (List.take_of_length_le (by omega)).symm]; exact hjA)⟩
  | succ r ih =>
   intro i hir Tj4 hj4 Lj4 Xj4 ej4 Kj4 Oj4 Nj4 fj4_0 jo ji hjA hjo hji
   show Go _ _ _ _ (Tj4.setTop (mkF m 8 #[lR p0, lI jo, lI p2, lR ob_2, lI ji] []))
   refine Go.st (fun _ => XS.iload Xj4.here hx rfl (hb hby od16_8) rfl) ?_
   show Go _ _ _ _ (Tj4.setTop (mkF m 10 #[lR p0, lI jo, lI p2, lR ob_2, lI ji] [(.int ji)]))
   rw [hjo, hji]
   show Go _ _ _ _ (Tj4.setTop (mkF m 10 #[lR p0, lI (Int32.ofNat i), lI p2, lR ob_2, lI (Int32.ofNat i)] [(.int (Int32.ofNat i))]))
   refine Go.st (fun _ => XS.iloadN Xj4.here hx rfl (hb hby od16_10) rfl) ?_
   show Go _ _ _ _ (Tj4.setTop (mkF m 11 #[lR p0, lI (Int32.ofNat i), lI p2, lR ob_2, lI (Int32.ofNat i)] [(.int p2), (.int (Int32.ofNat i))]))
   have hb6 : (Int32.ofNat i) < p2 := by rw [hnn, Int32.lt_iff_toInt_lt, own_ofN (by omega), own_ofN (by omega)]; omega
   refine Go.st (fun _ => XS.icmpNo Xj4.here hx rfl (hb hby od16_11) rfl (tlt hb6).2.1) ?_
   show Go _ _ _ _ (Tj4.setTop (mkF m 14 #[lR p0, lI (Int32.ofNat i), lI p2, lR ob_2, lI (Int32.ofNat i)] []))
   refine Go.st (fun _ => XS.aloadN Xj4.here hx rfl (hb hby od16_14) rfl rfl) ?_
   refine Go.st (fun _ => XS.iload Xj4.here hx rfl (hb hby od16_15) rfl) ?_
   refine Go.st (fun _ => XS.aloadN Xj4.here hx rfl (hb hby od16_17) rfl rfl) ?_
   refine Go.st (fun _ => XS.iloadN Xj4.here hx rfl (hb hby od16_18) rfl) ?_
   show Go _ _ _ _ (Tj4.setTop (mkF m 19 #[lR p0, lI (Int32.ofNat i), lI p2, lR ob_2, lI (Int32.ofNat i)] [(.int (Int32.ofNat i)), (.ref p0), (.int (Int32.ofNat i)), (.ref ob_2)]))
   refine Go.st (fun _ => own_ldC Xj4 hx hZ ej4 fj4_0 (j := (Int32.ofNat i)) (i := ((Int32.ofNat i)).toNatClampNeg) (v := (.int (xs.getD (Int32.ofNat i).toNatClampNeg 0))) (by rw [hnn]; exact own_ltza (by rw [own_clamp (by omega)]; omega)) rfl (own_getD_int xs _) (g := (mkF m 19 #[lR p0, lI (Int32.ofNat i), lI p2, lR ob_2, lI (Int32.ofNat i)] [(.int (Int32.ofNat i)), (.ref p0), (.int (Int32.ofNat i)), (.ref ob_2)])) rfl rfl (hb hby od16_19) _) ?_
   show Go _ _ _ _ (Tj4.setTop (mkF m 20 #[lR p0, lI (Int32.ofNat i), lI p2, lR ob_2, lI (Int32.ofNat i)] [(.int (xs.getD (Int32.ofNat i).toNatClampNeg 0)), (.int (Int32.ofNat i)), (.ref ob_2)]))
   rw [show (xs.getD (Int32.ofNat i).toNatClampNeg 0) = (xs.getD i 0) from by rw [own_clamp (by omega)]]
   show Go _ _ _ _ (Tj4.setTop (mkF m 20 #[lR p0, lI (Int32.ofNat i), lI p2, lR ob_2, lI (Int32.ofNat i)] [(.int (xs.getD i 0)), (.int (Int32.ofNat i)), (.ref ob_2)]))
   obtain ⟨_, _, ⟨T8, L8, k8, n8⟩, -, X8, ⟨Lc8, hQ8, l8, y8, z8⟩, st8⟩ := Jvm.LawKit.callS Xj4 hx (y := (⟨"java/lang/StringUTF16", "putChar", "([BII)V"⟩ : MethodName)) hown (mvT hZ (ow hw 114 rfl)) (mvT hZ (ow hw 115 rfl)) (mvT hZ (ow hw 25 rfl)) (mvT hZ (ow hw 116 rfl)) (by decide) (backOf (W := 0) (rm_putc l Z a0 hw [] S_AD S_HI S_LO g_CS S_CS nz_CS ob_2 (Int32.ofNat i) (xs.getD i 0) (own_wb (xs.take i)) kb_3 (Int32.ofNat (2 * nn)) i hj4 n0 Oj4 hjA g_ob_2 rfl (by rw [own_wb_len, List.length_take]; omega) (by rw [own_clamp (by omega)]; omega) (by omega)) hZ (ow hw 116 rfl) (ow hw 25 rfl) (by decide) (by decide)) (g := (mkF m 20 #[lR p0, lI (Int32.ofNat i), lI p2, lR ob_2, lI (Int32.ofNat i)] [(.int (xs.getD i 0)), (.int (Int32.ofNat i)), (.ref ob_2)])) rfl (by rw [hml]; rfl) (argsL := [(.ref ob_2), (.int (Int32.ofNat i)), (.int (xs.getD i 0))]) (rest := []) (lenOf own_pd6 rfl) rfl (by show 2 * 0 + _ ≤ _; exact Nat.le_of_eq rfl) (hb hby od16_20) (fun _ _ => ⟨rfl, ej4, (by decide : 1 + 0 ≤ _), (by decide : 64 + 0 ≤ _)⟩)
   dsimp only [Pt.U, Pt.locs, Pt.cells, Pt.slots] at X8 l8 y8 z8 st8 hQ8
   subst y8 z8
   refine Go.st st8 ?_
   obtain ⟨rfl, N8q, K8q, q8_0⟩ := hQ8
   have N8 : Fr n0 L8 := by rw [l8]; exact Fr.app Nj4 N8q
   have O8 := Oj4.keep K8q (allS g_ob_2 all0)
   have K8 : Keep h0 T8.heap [] := Kj4.trans K8q (allS (Or.inr sz_ob_2) all0)
   show Go _ _ _ _ (T8.setTop (mkF m 23 #[lR p0, lI (Int32.ofNat i), lI p2, lR ob_2, lI (Int32.ofNat i)] []))
   refine Go.st (fun _ => XS.iinc X8.here hx rfl (hb hby od16_23) rfl (l' := #[lR p0, lI ((Int32.ofNat i) + (1 : Int32)), lI p2, lR ob_2, lI (Int32.ofNat i)]) rfl) ?_
   show Go _ _ _ _ (T8.setTop (mkF m 26 #[lR p0, lI ((Int32.ofNat i) + (1 : Int32)), lI p2, lR ob_2, lI (Int32.ofNat i)] []))
   refine Go.st (fun _ => XS.iinc X8.here hx rfl (hb hby od16_26) rfl (l' := #[lR p0, lI ((Int32.ofNat i) + (1 : Int32)), lI p2, lR ob_2, lI ((Int32.ofNat i) + (1 : Int32))]) rfl) ?_
   show Go _ _ _ _ (T8.setTop (mkF m 29 #[lR p0, lI ((Int32.ofNat i) + (1 : Int32)), lI p2, lR ob_2, lI ((Int32.ofNat i) + (1 : Int32))] []))
   refine Go.st (fun _ => XS.goto X8.here hx rfl (pc0 := 29) (pc' := 8) rfl (hb hby od16_29) (by decide) (by decide)) ?_
   show Go _ _ _ _ (T8.setTop (mkF m 8 #[lR p0, lI ((Int32.ofNat i) + (1 : Int32)), lI p2, lR ob_2, lI ((Int32.ofNat i) + (1 : Int32))] []))
   have c9 := (fj4_0.keep K8q (ninS (Nat.ne_of_lt (Nat.lt_of_lt_of_le hp0.lt q1_0)) nin0))
   exact ih (i + 1) (by omega) T8 T8.heap _  (X8.more (by decide) (by decide)) rfl K8 O8 N8  c9 ((Int32.ofNat i) + (1 : Int32)) ((Int32.ofNat i) + (1 : Int32))  (by rw [own_wb_snoc (xs := xs) (i := i) (by omega)]; exact q8_0) (own_addj 1 rfl) (own_addj 1 rfl)
 have c10 := (hp0.keep K1q nin0)
 exact J4 nn 0 (Nat.zero_add nn) T1 T1.heap _  (X1.more (by decide) (by decide)) rfl K1 O1 N1  c10 (0 : Int32) (0 : Int32)  q1_1 rfl rfl
theorem own_ef_rm_u16gc (m : MethodId) (x0 : Addr) (x1 : Int32) : entryFrame m #[(.ref x0), (.int x1)] 2 = mkF m 0 #[.val (.ref x0), .val (.int x1)] [] := by first | (simp [entryFrame, mkF, argsToLocals, Value.category]; done) | rfl
theorem od17_0 : decode jdk_52_method_5_code 0 = .ok (.getstatic 44, 3) := by decide +kernel
theorem od17_3 : decode jdk_52_method_5_code 3 = .ok (.ifCond .ne 25, 3) := by decide +kernel
theorem od17_28 : decode jdk_52_method_5_code 28 = .ok (.iload_n 1, 1) := by decide +kernel
theorem od17_29 : decode jdk_52_method_5_code 29 = .ok (.iconst 1, 1) := by decide +kernel
theorem od17_30 : decode jdk_52_method_5_code 30 = .ok (.ishl, 1) := by decide +kernel
theorem od17_31 : decode jdk_52_method_5_code 31 = .ok (.istore_n 1, 1) := by decide +kernel
theorem od17_32 : decode jdk_52_method_5_code 32 = .ok (.aload_n 0, 1) := by decide +kernel
theorem od17_33 : decode jdk_52_method_5_code 33 = .ok (.iload_n 1, 1) := by decide +kernel
theorem od17_34 : decode jdk_52_method_5_code 34 = .ok (.iinc 1 1, 3) := by decide +kernel
theorem od17_37 : decode jdk_52_method_5_code 37 = .ok (.baload, 1) := by decide +kernel
theorem od17_38 : decode jdk_52_method_5_code 38 = .ok (.sipush 255, 3) := by decide +kernel
theorem od17_41 : decode jdk_52_method_5_code 41 = .ok (.iand, 1) := by decide +kernel
theorem od17_42 : decode jdk_52_method_5_code 42 = .ok (.getstatic 59, 3) := by decide +kernel
theorem od17_45 : decode jdk_52_method_5_code 45 = .ok (.ishl, 1) := by decide +kernel
theorem od17_46 : decode jdk_52_method_5_code 46 = .ok (.aload_n 0, 1) := by decide +kernel
theorem od17_47 : decode jdk_52_method_5_code 47 = .ok (.iload_n 1, 1) := by decide +kernel
theorem od17_48 : decode jdk_52_method_5_code 48 = .ok (.baload, 1) := by decide +kernel
theorem od17_49 : decode jdk_52_method_5_code 49 = .ok (.sipush 255, 3) := by decide +kernel
theorem od17_52 : decode jdk_52_method_5_code 52 = .ok (.iand, 1) := by decide +kernel
theorem od17_53 : decode jdk_52_method_5_code 53 = .ok (.getstatic 63, 3) := by decide +kernel
theorem od17_56 : decode jdk_52_method_5_code 56 = .ok (.ishl, 1) := by decide +kernel
theorem od17_57 : decode jdk_52_method_5_code 57 = .ok (.ior, 1) := by decide +kernel
theorem od17_58 : decode jdk_52_method_5_code 58 = .ok (.i2c, 1) := by decide +kernel
theorem od17_59 : decode jdk_52_method_5_code 59 = .ok (.ireturn, 1) := by decide +kernel
def Q_rm_u16gc (Z : State) (g_CS : Int32) (p0 : Addr) (p1 : Int32) (bs : List Int32) (ka : ClassId) (za : Int32) (cc : Int32) (ii : Nat) (h0 : Heap) (n0 : Nat) (v : Option Value) (h : Heap) (L : List Loc) : Prop := v = some (.int cc) ∧ Fr n0 L ∧ h = h0
set_option maxRecDepth 65536 in
set_option maxHeartbeats 40000000 in
theorem rm_u16gc (l : Launch) (Z : State) (a0 : Array Value) (hw : ∀ d ∈ tables_1, d.before a0 Z = true) (ws : List Jvm.Cond) (S_AD : Sta Z Z.heap "java/lang/StringUTF16" "$assertionsDisabled" "Z" (.int 1)) (S_HI : Sta Z Z.heap "java/lang/StringUTF16" "HI_BYTE_SHIFT" "I" (.int 0)) (S_LO : Sta Z Z.heap "java/lang/StringUTF16" "LO_BYTE_SHIFT" "I" (.int 8)) (g_CS : Int32) (S_CS : Sta Z Z.heap "java/lang/String" "COMPACT_STRINGS" "Z" (.int g_CS)) (nz_CS : ¬ (g_CS = (0 : Int32))) (p0 : Addr) (p1 : Int32) (bs : List Int32) (ka : ClassId) (za : Int32) (cc : Int32) (ii : Nat) (h0 : Heap) (n0 : Nat) (X00 : Old Z n0 h0) (hp0 : Arv Z h0 p0 ka .byte za (bs.map Value.int) (.int 0)) (hnn : p1 = Int32.ofNat ii) (hi4 : ii ≤ 4000) (hcap : 2 * ii + 1 < za.toNatClampNeg) (hb0 : bs.getD (2 * ii) 0 = own_b0 cc) (hb1 : bs.getD (2 * ii + 1) 0 = own_b1 cc) (hcc : ¬ cc < 0 ∧ ¬ (65535 : Int32) < cc) :
    MetFree l (⟨"java/lang/StringUTF16", "getChar", "([BI)C"⟩ : MethodName) (head1 (Jvm.Cond.code (⟨"java/lang/StringUTF16", "getChar", "([BI)C"⟩ : MethodName) jdk_52_method_5_code 2 (some .char) :: ws) ({ frames := 0, cells := 0, slots := 0, locals := 0 } : Room)) (fun a U => a = #[(.ref p0), (.int p1)] ∧ Z.Warmed39 U.vm ∧ U.heap = h0) (fun _ _ _ _ _ => True) (fun _ U o U' => ∃ v L, o = .returned v ∧ Q_rm_u16gc Z g_CS p0 p1 bs ka za cc ii h0 n0 v U'.heap L ∧ FrameEnd U o U' L ({ frames := 0, cells := 0, slots := 0, locals := 0 } : Room).cells ({ frames := 0, cells := 0, slots := 0, locals := 0 } : Room).slots) := by
 refine MetFree.of_bodySF (plainFor_of_name own_pn4) hisR ?_
 intro p e s m args below meth c s₁ Bd hml0 hP hK
 obtain ⟨rfl, hZ, hh⟩ := hP
 have hx := Bd.exec
 have hby := Bd.bytes
 have hml : c.maxLocals = 2 := hml0
 have hown : s.vm.findClass "java/lang/StringUTF16" = some m.cls := findClass_of_methodNamed Bd.named
 have hnm := (name_of_methodNamed Bd.named Bd.method).1
 have X0 : Stand p l e ({ frames := 0, cells := 0, slots := 0, locals := 0 } : Room) s m #[(.ref p0), (.int p1)] below meth c s₁ [] 0 0 := Stand.of_body Bd
 have e0 : s₁.heap = h0 := by rw [← hh, Bd.state]; rfl
 have N0 := Fr.nil n0
 refine Go.start fun P hPend => ?_
 refine Go.st (fun _ k => castTop (own_ef_rm_u16gc m p0 p1) k) ?_
 show Go _ _ _ _ (s₁.setTop (mkF m 0 #[lR p0, lI p1] []))
 obtain ⟨T1, X1, e1, st1⟩ := getS2 X0 hx hZ hown (host := "") (Or.inl (ow hw 117 rfl)) Via.refl e0 (S_AD.ext X00.2) (g := (mkF m 0 #[lR p0, lI p1] [])) rfl (hb hby od17_0)
 refine Go.st st1 ?_
 show Go _ _ _ _ (T1.setTop (mkF m 3 #[lR p0, lI p1] [(.int 1)]))
 refine Go.st (fun _ => XS.ifYes X1.here hx rfl (pc0 := 3) (pc' := 28) rfl (hb hby od17_3) rfl ((if0 _ _).trans (feq (by decide)).2) (by decide) (by decide)) ?_
 show Go _ _ _ _ (T1.setTop (mkF m 28 #[lR p0, lI p1] []))
 refine Go.st (fun _ => XS.iloadN X1.here hx rfl (hb hby od17_28) rfl) ?_
 refine Go.st (fun _ => XS.iconst X1.here hx rfl (hb hby od17_29)) ?_
 show Go _ _ _ _ (T1.setTop (mkF m 30 #[lR p0, lI p1] [(.int 1), (.int p1)]))
 refine Go.st (fun _ => XS.ishl X1.here hx rfl (hb hby od17_30) rfl) ?_
 show Go _ _ _ _ (T1.setTop (mkF m 31 #[lR p0, lI p1] [(.int (p1 <<< ((1 : Int32) &&& 31)))]))
 rw [show (p1 <<< ((1 : Int32) &&& 31)) = (Int32.ofNat (2 * ii)) from by rw [hnn]; exact own_shl1 hi4]
 show Go _ _ _ _ (T1.setTop (mkF m 31 #[lR p0, lI p1] [(.int (Int32.ofNat (2 * ii)))]))
 refine Go.st (fun _ => XS.istoreN X1.here hx rfl (hb hby od17_31) rfl (l' := #[lR p0, lI (Int32.ofNat (2 * ii))]) rfl) ?_
 show Go _ _ _ _ (T1.setTop (mkF m 32 #[lR p0, lI (Int32.ofNat (2 * ii))] []))
 refine Go.st (fun _ => XS.aloadN X1.here hx rfl (hb hby od17_32) rfl rfl) ?_
 refine Go.st (fun _ => XS.iloadN X1.here hx rfl (hb hby od17_33) rfl) ?_
 show Go _ _ _ _ (T1.setTop (mkF m 34 #[lR p0, lI (Int32.ofNat (2 * ii))] [(.int (Int32.ofNat (2 * ii))), (.ref p0)]))
 refine Go.st (fun _ => XS.iinc X1.here hx rfl (hb hby od17_34) rfl (l' := #[lR p0, lI ((Int32.ofNat (2 * ii)) + (1 : Int32))]) rfl) ?_
 show Go _ _ _ _ (T1.setTop (mkF m 37 #[lR p0, lI ((Int32.ofNat (2 * ii)) + (1 : Int32))] [(.int (Int32.ofNat (2 * ii))), (.ref p0)]))
 refine Go.st (fun _ => own_ldB X1 hx hZ e1 hp0 (j := (Int32.ofNat (2 * ii))) (i := ((Int32.ofNat (2 * ii))).toNatClampNeg) (v := (.int (bs.getD (Int32.ofNat (2 * ii)).toNatClampNeg 0))) (own_ltza (by omega)) rfl (own_getD_int bs _) (g := (mkF m 37 #[lR p0, lI ((Int32.ofNat (2 * ii)) + (1 : Int32))] [(.int (Int32.ofNat (2 * ii))), (.ref p0)])) rfl rfl (hb hby od17_37) _) ?_
 show Go _ _ _ _ (T1.setTop (mkF m 38 #[lR p0, lI ((Int32.ofNat (2 * ii)) + (1 : Int32))] [(.int (bs.getD (Int32.ofNat (2 * ii)).toNatClampNeg 0))]))
 rw [show (bs.getD (Int32.ofNat (2 * ii)).toNatClampNeg 0) = (own_b0 cc) from by rw [own_clamp (by omega)]; exact hb0]
 show Go _ _ _ _ (T1.setTop (mkF m 38 #[lR p0, lI ((Int32.ofNat (2 * ii)) + (1 : Int32))] [(.int (own_b0 cc))]))
 refine Go.st (fun _ => XS.sipush X1.here hx rfl (hb hby od17_38)) ?_
 show Go _ _ _ _ (T1.setTop (mkF m 41 #[lR p0, lI ((Int32.ofNat (2 * ii)) + (1 : Int32))] [(.int 255), (.int (own_b0 cc))]))
 refine Go.st (fun _ => XS.iand X1.here hx rfl (hb hby od17_41) rfl) ?_
 show Go _ _ _ _ (T1.setTop (mkF m 42 #[lR p0, lI ((Int32.ofNat (2 * ii)) + (1 : Int32))] [(.int ((own_b0 cc) &&& (255 : Int32)))]))
 obtain ⟨T3, X3, e3, st3⟩ := getS2 X1 hx hZ hown (host := "") (Or.inl (ow hw 118 rfl)) Via.refl e1 (S_HI.ext X00.2) (g := (mkF m 42 #[lR p0, lI ((Int32.ofNat (2 * ii)) + (1 : Int32))] [(.int ((own_b0 cc) &&& (255 : Int32)))])) rfl (hb hby od17_42)
 refine Go.st st3 ?_
 show Go _ _ _ _ (T3.setTop (mkF m 45 #[lR p0, lI ((Int32.ofNat (2 * ii)) + (1 : Int32))] [(.int 0), (.int ((own_b0 cc) &&& (255 : Int32)))]))
 refine Go.st (fun _ => XS.ishl X3.here hx rfl (hb hby od17_45) rfl) ?_
 show Go _ _ _ _ (T3.setTop (mkF m 46 #[lR p0, lI ((Int32.ofNat (2 * ii)) + (1 : Int32))] [(.int (((own_b0 cc) &&& (255 : Int32)) <<< ((0 : Int32) &&& 31)))]))
 rw [show (((own_b0 cc) &&& (255 : Int32)) <<< ((0 : Int32) &&& 31)) = ((own_b0 cc) &&& (255 : Int32)) from own_ishl0 _]
 show Go _ _ _ _ (T3.setTop (mkF m 46 #[lR p0, lI ((Int32.ofNat (2 * ii)) + (1 : Int32))] [(.int ((own_b0 cc) &&& (255 : Int32)))]))
 rw [show ((Int32.ofNat (2 * ii)) + (1 : Int32)) = (Int32.ofNat (2 * ii + 1)) from own_addj 1 rfl]
 show Go _ _ _ _ (T3.setTop (mkF m 46 #[lR p0, lI (Int32.ofNat (2 * ii + 1))] [(.int ((own_b0 cc) &&& (255 : Int32)))]))
 refine Go.st (fun _ => XS.aloadN X3.here hx rfl (hb hby od17_46) rfl rfl) ?_
 refine Go.st (fun _ => XS.iloadN X3.here hx rfl (hb hby od17_47) rfl) ?_
 show Go _ _ _ _ (T3.setTop (mkF m 48 #[lR p0, lI (Int32.ofNat (2 * ii + 1))] [(.int (Int32.ofNat (2 * ii + 1))), (.ref p0), (.int ((own_b0 cc) &&& (255 : Int32)))]))
 refine Go.st (fun _ => own_ldB X3 hx hZ e3 hp0 (j := (Int32.ofNat (2 * ii + 1))) (i := ((Int32.ofNat (2 * ii + 1))).toNatClampNeg) (v := (.int (bs.getD (Int32.ofNat (2 * ii + 1)).toNatClampNeg 0))) (own_ltza (by omega)) rfl (own_getD_int bs _) (g := (mkF m 48 #[lR p0, lI (Int32.ofNat (2 * ii + 1))] [(.int (Int32.ofNat (2 * ii + 1))), (.ref p0), (.int ((own_b0 cc) &&& (255 : Int32)))])) rfl rfl (hb hby od17_48) _) ?_
 show Go _ _ _ _ (T3.setTop (mkF m 49 #[lR p0, lI (Int32.ofNat (2 * ii + 1))] [(.int (bs.getD (Int32.ofNat (2 * ii + 1)).toNatClampNeg 0)), (.int ((own_b0 cc) &&& (255 : Int32)))]))
 rw [show (bs.getD (Int32.ofNat (2 * ii + 1)).toNatClampNeg 0) = (own_b1 cc) from by rw [own_clamp (by omega)]; exact hb1]
 show Go _ _ _ _ (T3.setTop (mkF m 49 #[lR p0, lI (Int32.ofNat (2 * ii + 1))] [(.int (own_b1 cc)), (.int ((own_b0 cc) &&& (255 : Int32)))]))
 refine Go.st (fun _ => XS.sipush X3.here hx rfl (hb hby od17_49)) ?_
 show Go _ _ _ _ (T3.setTop (mkF m 52 #[lR p0, lI (Int32.ofNat (2 * ii + 1))] [(.int 255), (.int (own_b1 cc)), (.int ((own_b0 cc) &&& (255 : Int32)))]))
 refine Go.st (fun _ => XS.iand X3.here hx rfl (hb hby od17_52) rfl) ?_
 show Go _ _ _ _ (T3.setTop (mkF m 53 #[lR p0, lI (Int32.ofNat (2 * ii + 1))] [(.int ((own_b1 cc) &&& (255 : Int32))), (.int ((own_b0 cc) &&& (255 : Int32)))]))
 obtain ⟨T5, X5, e5, st5⟩ := getS2 X3 hx hZ hown (host := "") (Or.inl (ow hw 119 rfl)) Via.refl e3 (S_LO.ext X00.2) (g := (mkF m 53 #[lR p0, lI (Int32.ofNat (2 * ii + 1))] [(.int ((own_b1 cc) &&& (255 : Int32))), (.int ((own_b0 cc) &&& (255 : Int32)))])) rfl (hb hby od17_53)
 refine Go.st st5 ?_
 show Go _ _ _ _ (T5.setTop (mkF m 56 #[lR p0, lI (Int32.ofNat (2 * ii + 1))] [(.int 8), (.int ((own_b1 cc) &&& (255 : Int32))), (.int ((own_b0 cc) &&& (255 : Int32)))]))
 refine Go.st (fun _ => XS.ishl X5.here hx rfl (hb hby od17_56) rfl) ?_
 show Go _ _ _ _ (T5.setTop (mkF m 57 #[lR p0, lI (Int32.ofNat (2 * ii + 1))] [(.int (((own_b1 cc) &&& (255 : Int32)) <<< ((8 : Int32) &&& 31))), (.int ((own_b0 cc) &&& (255 : Int32)))]))
 refine Go.st (fun _ => XS.ior X5.here hx rfl (hb hby od17_57) rfl) ?_
 show Go _ _ _ _ (T5.setTop (mkF m 58 #[lR p0, lI (Int32.ofNat (2 * ii + 1))] [(.int (((own_b0 cc) &&& (255 : Int32)) ||| (((own_b1 cc) &&& (255 : Int32)) <<< ((8 : Int32) &&& 31))))]))
 refine Go.st (fun _ => XS.i2c X5.here hx rfl (hb hby od17_58) rfl) ?_
 show Go _ _ _ _ (T5.setTop (mkF m 59 #[lR p0, lI (Int32.ofNat (2 * ii + 1))] [(.int ((((own_b0 cc) &&& (255 : Int32)) ||| (((own_b1 cc) &&& (255 : Int32)) <<< ((8 : Int32) &&& 31))).toUInt32.toUInt16.toUInt32.toInt32))]))
 obtain ⟨fs, hr, hrun, hended, hW, hsame⟩ := X5.leave (v := some (.int (nar .char ((((own_b0 cc) &&& (255 : Int32)) ||| (((own_b1 cc) &&& (255 : Int32)) <<< ((8 : Int32) &&& 31))).toUInt32.toUInt16.toUInt32.toInt32)))) (fun h => by rw [Bd.returns] at h; cases h)
 refine ⟨_, ?_, hPend _ _ hrun hended ⟨_, _, rfl, ?_, ⟨_, rfl⟩, hW, hsame.mono (by decide) (by decide)⟩⟩
 ·exact retN X5 hx (t := .char) Bd.returns (by simp) (hb hby od17_59) hr
 ·show Q_rm_u16gc Z _ _ _ _ _ _ _ _ h0 n0 _ T5.heap _
  rw [e5]
  exact ⟨(congrArg (fun z => some (Value.int z)) (own_pair hcc)), N0, rfl⟩
theorem own_ef_rm_cmp5 (m : MethodId) (x0 : Addr) (x1 : Int32) (x2 : Addr) (x3 : Int32) (x4 : Int32) : entryFrame m #[(.ref x0), (.int x1), (.ref x2), (.int x3), (.int x4)] 7 = mkF m 0 #[.val (.ref x0), .val (.int x1), .val (.ref x2), .val (.int x3), .val (.int x4), .unset, .unset] [] := by first | (simp [entryFrame, mkF, argsToLocals, Value.category]; done) | rfl
theorem od18_0 : decode jdk_52_method_21_code 0 = .ok (.iconst 0, 1) := by decide +kernel
theorem od18_1 : decode jdk_52_method_21_code 1 = .ok (.istore 5, 2) := by decide +kernel
theorem od18_3 : decode jdk_52_method_21_code 3 = .ok (.iload 5, 2) := by decide +kernel
theorem od18_5 : decode jdk_52_method_21_code 5 = .ok (.iload 4, 2) := by decide +kernel
theorem od18_7 : decode jdk_52_method_21_code 7 = .ok (.if_icmp .ge 37, 3) := by decide +kernel
theorem od18_10 : decode jdk_52_method_21_code 10 = .ok (.aload_n 0, 1) := by decide +kernel
theorem od18_11 : decode jdk_52_method_21_code 11 = .ok (.iload_n 1, 1) := by decide +kernel
theorem od18_12 : decode jdk_52_method_21_code 12 = .ok (.caload, 1) := by decide +kernel
theorem od18_13 : decode jdk_52_method_21_code 13 = .ok (.istore 6, 2) := by decide +kernel
theorem od18_15 : decode jdk_52_method_21_code 15 = .ok (.iload 6, 2) := by decide +kernel
theorem od18_17 : decode jdk_52_method_21_code 17 = .ok (.sipush 255, 3) := by decide +kernel
theorem od18_20 : decode jdk_52_method_21_code 20 = .ok (.if_icmp .le 6, 3) := by decide +kernel
theorem od18_23 : decode jdk_52_method_21_code 23 = .ok (.iload 5, 2) := by decide +kernel
theorem od18_25 : decode jdk_52_method_21_code 25 = .ok (.ireturn, 1) := by decide +kernel
theorem od18_26 : decode jdk_52_method_21_code 26 = .ok (.aload_n 2, 1) := by decide +kernel
theorem od18_27 : decode jdk_52_method_21_code 27 = .ok (.iload_n 3, 1) := by decide +kernel
theorem od18_28 : decode jdk_52_method_21_code 28 = .ok (.iload 6, 2) := by decide +kernel
theorem od18_30 : decode jdk_52_method_21_code 30 = .ok (.i2b, 1) := by decide +kernel
theorem od18_31 : decode jdk_52_method_21_code 31 = .ok (.bastore, 1) := by decide +kernel
theorem od18_32 : decode jdk_52_method_21_code 32 = .ok (.iinc 1 1, 3) := by decide +kernel
theorem od18_35 : decode jdk_52_method_21_code 35 = .ok (.iinc 3 1, 3) := by decide +kernel
theorem od18_38 : decode jdk_52_method_21_code 38 = .ok (.iinc 5 1, 3) := by decide +kernel
theorem od18_41 : decode jdk_52_method_21_code 41 = .ok (.goto (-38), 3) := by decide +kernel
def Q_rm_cmp5 (Z : State) (g_CS : Int32) (p0 : Addr) (p2 : Addr) (p4 : Int32) (xs : List Int32) (ka : ClassId) (kd : ClassId) (nn : Nat) (jj : Nat) (h0 : Heap) (n0 : Nat) (v : Option Value) (h : Heap) (L : List Loc) : Prop := v = some (.int (Int32.ofNat jj)) ∧ Fr n0 L ∧ Keep h0 h [p2]
set_option maxRecDepth 65536 in
set_option maxHeartbeats 40000000 in
theorem rm_cmp5 (l : Launch) (Z : State) (a0 : Array Value) (hw : ∀ d ∈ tables_1, d.before a0 Z = true) (ws : List Jvm.Cond) (S_AD : Sta Z Z.heap "java/lang/StringUTF16" "$assertionsDisabled" "Z" (.int 1)) (S_HI : Sta Z Z.heap "java/lang/StringUTF16" "HI_BYTE_SHIFT" "I" (.int 0)) (S_LO : Sta Z Z.heap "java/lang/StringUTF16" "LO_BYTE_SHIFT" "I" (.int 8)) (g_CS : Int32) (S_CS : Sta Z Z.heap "java/lang/String" "COMPACT_STRINGS" "Z" (.int g_CS)) (nz_CS : ¬ (g_CS = (0 : Int32))) (p0 : Addr) (p2 : Addr) (p4 : Int32) (xs : List Int32) (ka : ClassId) (kd : ClassId) (nn : Nat) (jj : Nat) (h0 : Heap) (n0 : Nat) (X00 : Old Z n0 h0) (hp0 : Arv Z h0 p0 ka .char p4 (xs.map Value.int) (.int 0)) (hp1 : Arv Z h0 p2 kd .byte p4 [] (.int 0)) (hp2 : n0 ≤ p2) (hp3 : p0 ≠ p2) (hnn : p4 = Int32.ofNat nn) (hn : nn ≤ 32) (hxn : xs.length = nn) (hWd : own_W xs jj) :
    MetFree l (⟨"java/lang/StringUTF16", "compress", "([CI[BII)I"⟩ : MethodName) (head1 (Jvm.Cond.code (⟨"java/lang/StringUTF16", "compress", "([CI[BII)I"⟩ : MethodName) jdk_52_method_21_code 7 (some .int) :: ws) ({ frames := 0, cells := 0, slots := 0, locals := 0 } : Room)) (fun a U => a = #[(.ref p0), (.int 0), (.ref p2), (.int 0), (.int p4)] ∧ Z.Warmed39 U.vm ∧ U.heap = h0) (fun _ _ _ _ _ => True) (fun _ U o U' => ∃ v L, o = .returned v ∧ Q_rm_cmp5 Z g_CS p0 p2 p4 xs ka kd nn jj h0 n0 v U'.heap L ∧ FrameEnd U o U' L ({ frames := 0, cells := 0, slots := 0, locals := 0 } : Room).cells ({ frames := 0, cells := 0, slots := 0, locals := 0 } : Room).slots) := by
 refine MetFree.of_bodySF (plainFor_of_name own_pn4) hisR ?_
 intro p e s m args below meth c s₁ Bd hml0 hP hK
 obtain ⟨rfl, hZ, hh⟩ := hP
 have hx := Bd.exec
 have hby := Bd.bytes
 have hml : c.maxLocals = 7 := hml0
 have hown : s.vm.findClass "java/lang/StringUTF16" = some m.cls := findClass_of_methodNamed Bd.named
 have hnm := (name_of_methodNamed Bd.named Bd.method).1
 have X0 : Stand p l e ({ frames := 0, cells := 0, slots := 0, locals := 0 } : Room) s m #[(.ref p0), (.int 0), (.ref p2), (.int 0), (.int p4)] below meth c s₁ [] 0 0 := Stand.of_body Bd
 have e0 : s₁.heap = h0 := by rw [← hh, Bd.state]; rfl
 have N0 := Fr.nil n0
 refine Go.start fun P hPend => ?_
 refine Go.st (fun _ k => castTop (own_ef_rm_cmp5 m p0 ((0 : Int32)) p2 ((0 : Int32)) p4) k) ?_
 have hjn := hWd.1
 show Go _ _ _ _ (s₁.setTop (mkF m 0 #[lR p0, lI (0 : Int32), lR p2, lI (0 : Int32), lI p4, lU, lU] []))
 refine Go.st (fun _ => XS.iconst X0.here hx rfl (hb hby od18_0)) ?_
 show Go _ _ _ _ (s₁.setTop (mkF m 1 #[lR p0, lI (0 : Int32), lR p2, lI (0 : Int32), lI p4, lU, lU] [(.int 0)]))
 refine Go.st (fun _ => XS.istore X0.here hx rfl (hb hby od18_1) rfl (l' := #[lR p0, lI (0 : Int32), lR p2, lI (0 : Int32), lI p4, lI (0 : Int32), lU]) rfl) ?_
 show Go _ _ _ _ (s₁.setTop (mkF m 3 #[lR p0, lI (0 : Int32), lR p2, lI (0 : Int32), lI p4, lI (0 : Int32), lU] []))
 refine Go.st (fun _ => XS.iload X0.here hx rfl (hb hby od18_3) rfl) ?_
 show Go _ _ _ _ (s₁.setTop (mkF m 5 #[lR p0, lI (0 : Int32), lR p2, lI (0 : Int32), lI p4, lI (0 : Int32), lU] [(.int 0)]))
 refine Go.st (fun _ => XS.iload X0.here hx rfl (hb hby od18_5) rfl) ?_
 show Go _ _ _ _ (s₁.setTop (mkF m 7 #[lR p0, lI (0 : Int32), lR p2, lI (0 : Int32), lI p4, lI (0 : Int32), lU] [(.int p4), (.int 0)]))
 have hb1 : (0 : Int32) < p4 := by rw [hnn, Int32.lt_iff_toInt_lt, own_ofN (by omega), show (0 : Int32).toInt = 0 from rfl]; omega
 refine Go.st (fun _ => XS.icmpNo X0.here hx rfl (hb hby od18_7) rfl (tlt hb1).2.1) ?_
 show Go _ _ _ _ (s₁.setTop (mkF m 10 #[lR p0, lI (0 : Int32), lR p2, lI (0 : Int32), lI p4, lI (0 : Int32), lU] []))
 refine Go.st (fun _ => XS.aloadN X0.here hx rfl (hb hby od18_10) rfl rfl) ?_
 refine Go.st (fun _ => XS.iloadN X0.here hx rfl (hb hby od18_11) rfl) ?_
 show Go _ _ _ _ (s₁.setTop (mkF m 12 #[lR p0, lI (0 : Int32), lR p2, lI (0 : Int32), lI p4, lI (0 : Int32), lU] [(.int 0), (.ref p0)]))
 refine Go.st (fun _ => own_ldC X0 hx hZ e0 hp0 (j := (0 : Int32)) (i := 0) (v := (.int (xs.getD 0 0))) (by rw [hnn]; exact own_ltza (k := 0) (by rw [own_clamp (by omega)]; omega)) (by decide) (own_getD_int xs _) (g := (mkF m 12 #[lR p0, lI (0 : Int32), lR p2, lI (0 : Int32), lI p4, lI (0 : Int32), lU] [(.int 0), (.ref p0)])) rfl rfl (hb hby od18_12) _) ?_
 show Go _ _ _ _ (s₁.setTop (mkF m 13 #[lR p0, lI (0 : Int32), lR p2, lI (0 : Int32), lI p4, lI (0 : Int32), lU] [(.int (xs.getD 0 0))]))
 refine Go.st (fun _ => XS.istore X0.here hx rfl (hb hby od18_13) rfl (l' := #[lR p0, lI (0 : Int32), lR p2, lI (0 : Int32), lI p4, lI (0 : Int32), lI (xs.getD 0 0)]) rfl) ?_
 show Go _ _ _ _ (s₁.setTop (mkF m 15 #[lR p0, lI (0 : Int32), lR p2, lI (0 : Int32), lI p4, lI (0 : Int32), lI (xs.getD 0 0)] []))
 refine Go.st (fun _ => XS.iload X0.here hx rfl (hb hby od18_15) rfl) ?_
 refine Go.st (fun _ => XS.sipush X0.here hx rfl (hb hby od18_17)) ?_
 show Go _ _ _ _ (s₁.setTop (mkF m 20 #[lR p0, lI (0 : Int32), lR p2, lI (0 : Int32), lI p4, lI (0 : Int32), lI (xs.getD 0 0)] [(.int 255), (.int (xs.getD 0 0))]))
 by_cases hc3 : (255 : Int32) < (xs.getD 0 0)
 ·skip
  have hj0 : jj = 0 := Nat.eq_zero_of_not_pos fun q => hWd.2.1 0 q hc3
  refine Go.st (fun _ => XS.icmpNo X0.here hx rfl (hb hby od18_20) rfl (tlt hc3).2.2.2) ?_
  show Go _ _ _ _ (s₁.setTop (mkF m 23 #[lR p0, lI (0 : Int32), lR p2, lI (0 : Int32), lI p4, lI (0 : Int32), lI (xs.getD 0 0)] []))
  refine Go.st (fun _ => XS.iload X0.here hx rfl (hb hby od18_23) rfl) ?_
  show Go _ _ _ _ (s₁.setTop (mkF m 25 #[lR p0, lI (0 : Int32), lR p2, lI (0 : Int32), lI p4, lI (0 : Int32), lI (xs.getD 0 0)] [(.int 0)]))
  obtain ⟨fs, hr, hrun, hended, hW, hsame⟩ := X0.leave (v := some (.int 0)) (fun h => by rw [Bd.returns] at h; cases h)
  refine ⟨_, ?_, hPend _ _ hrun hended ⟨_, _, rfl, ?_, ⟨_, rfl⟩, hW, hsame.mono (by decide) (by decide)⟩⟩
  ·exact retOut X0 hx (t := .int) Bd.returns rfl (Or.inl ⟨rfl, Or.inl rfl, _, rfl⟩) (hb hby od18_25) hr
  ·show Q_rm_cmp5 Z _ _ _ _ _ _ _ _ _ h0 n0 _ s₁.heap _
   rw [e0]
   exact ⟨(congrArg (fun z => some (Value.int (Int32.ofNat z))) hj0.symm), N0, (Keep.refl h0 [p2])⟩
 ·skip
  have hj0 : 1 ≤ jj := Nat.pos_of_ne_zero fun q => absurd hWd.2.2 (by rw [q]; exact hc3)
  refine Go.st (fun _ => XS.icmpYes X0.here hx rfl (pc0 := 20) (pc' := 26) rfl (hb hby od18_20) rfl (flt hc3).2.2.2 (by decide) (by decide)) ?_
  show Go _ _ _ _ (s₁.setTop (mkF m 26 #[lR p0, lI (0 : Int32), lR p2, lI (0 : Int32), lI p4, lI (0 : Int32), lI (xs.getD 0 0)] []))
  refine Go.st (fun _ => XS.aloadN X0.here hx rfl (hb hby od18_26) rfl rfl) ?_
  refine Go.st (fun _ => XS.iloadN X0.here hx rfl (hb hby od18_27) rfl) ?_
  refine Go.st (fun _ => XS.iload X0.here hx rfl (hb hby od18_28) rfl) ?_
  show Go _ _ _ _ (s₁.setTop (mkF m 30 #[lR p0, lI (0 : Int32), lR p2, lI (0 : Int32), lI p4, lI (0 : Int32), lI (xs.getD 0 0)] [(.int (xs.getD 0 0)), (.int 0), (.ref p2)]))
  refine Go.st (fun _ => XS.i2b X0.here hx rfl (hb hby od18_30) rfl) ?_
  show Go _ _ _ _ (s₁.setTop (mkF m 31 #[lR p0, lI (0 : Int32), lR p2, lI (0 : Int32), lI p4, lI (0 : Int32), lI (xs.getD 0 0)] [(.int ((xs.getD 0 0).toInt8.toInt32)), (.int 0), (.ref p2)]))
  have P4 : Arv Z h0 p2 kd .byte p4 ((([] : List Int32) ++ [0]).map Value.int) (.int 0) := Arv.pad hp1 (own_pad0 ([] : List Int32))
  obtain ⟨T4, h4, X4, e4, W4, V4, st4⟩ := own_stB X0 hx hZ e0 P4 (j := (0 : Int32)) (i := ([] : List Int32).length) (by rw [hnn]; exact own_ltza (k := 0) (by rw [own_clamp (by omega)]; omega)) rfl (own_pad1 ([] : List Int32)) (g := (mkF m 31 #[lR p0, lI (0 : Int32), lR p2, lI (0 : Int32), lI p4, lI (0 : Int32), lI (xs.getD 0 0)] [(.int ((xs.getD 0 0).toInt8.toInt32)), (.int 0), (.ref p2)])) rfl rfl (hb hby od18_31)
  refine Go.st st4 ?_
  rw [show nar .byte ((xs.getD 0 0).toInt8.toInt32) = ((xs.getD 0 0).toInt8.toInt32) from own_nar_i2b _] at V4
  have K4 : Keep h0 h4 [p2] := (Keep.refl h0 [p2]).wr W4 (Or.inl (List.mem_of_getElem? (i := 0) rfl))
  have O4 := X00.wr W4 hp2
  have N4 := Fr.snoc X4 N0 hp2
  have V4' : Arv Z h4 p2 kd .byte p4 ((([] : List Int32) ++ [((xs.getD 0 0).toInt8.toInt32)]).map Value.int) (.int 0) := by rw [← own_setlast]; exact V4
  show Go _ _ _ _ (T4.setTop (mkF m 32 #[lR p0, lI (0 : Int32), lR p2, lI (0 : Int32), lI p4, lI (0 : Int32), lI (xs.getD 0 0)] []))
  refine Go.st (fun _ => XS.iinc X4.here hx rfl (hb hby od18_32) rfl (l' := #[lR p0, lI (1 : Int32), lR p2, lI (0 : Int32), lI p4, lI (0 : Int32), lI (xs.getD 0 0)]) rfl) ?_
  show Go _ _ _ _ (T4.setTop (mkF m 35 #[lR p0, lI (1 : Int32), lR p2, lI (0 : Int32), lI p4, lI (0 : Int32), lI (xs.getD 0 0)] []))
  refine Go.st (fun _ => XS.iinc X4.here hx rfl (hb hby od18_35) rfl (l' := #[lR p0, lI (1 : Int32), lR p2, lI (1 : Int32), lI p4, lI (0 : Int32), lI (xs.getD 0 0)]) rfl) ?_
  show Go _ _ _ _ (T4.setTop (mkF m 38 #[lR p0, lI (1 : Int32), lR p2, lI (1 : Int32), lI p4, lI (0 : Int32), lI (xs.getD 0 0)] []))
  refine Go.st (fun _ => XS.iinc X4.here hx rfl (hb hby od18_38) rfl (l' := #[lR p0, lI (1 : Int32), lR p2, lI (1 : Int32), lI p4, lI (1 : Int32), lI (xs.getD 0 0)]) rfl) ?_
  show Go _ _ _ _ (T4.setTop (mkF m 41 #[lR p0, lI (1 : Int32), lR p2, lI (1 : Int32), lI p4, lI (1 : Int32), lI (xs.getD 0 0)] []))
  refine Go.st (fun _ => XS.goto X4.here hx rfl (pc0 := 41) (pc' := 3) rfl (hb hby od18_41) (by decide) (by decide)) ?_
  show Go _ _ _ _ (T4.setTop (mkF m 3 #[lR p0, lI (1 : Int32), lR p2, lI (1 : Int32), lI p4, lI (1 : Int32), lI (xs.getD 0 0)] []))
  have J5 : ∀ (r i : Nat) (hir : i + r = jj) (Tj5 : State) (hj5 : Heap) (Lj5 : List Loc) (Xj5 : Stand p l e ({ frames := 0, cells := 0, slots := 0, locals := 0 } : Room) s m #[(.ref p0), (.int 0), (.ref p2), (.int 0), (.int p4)] below meth c Tj5 Lj5 0 0) (ej5 : Tj5.heap = hj5) (Kj5 : Keep h0 hj5 [p2]) (Oj5 : Old Z n0 hj5) (Nj5 : Fr n0 Lj5) (fj5_0 : Arv Z hj5 p0 ka .char p4 (xs.map Value.int) (.int 0)) (j1 : Int32) (j3 : Int32) (j5 : Int32) (j6 : Int32) (jl : List Int32) (hjA : Arv Z hj5 p2 kd .byte p4 (jl.map Value.int) (.int 0)) (hjl : jl.length = i) (hq1 : j1 = Int32.ofNat i) (hq3 : j3 = Int32.ofNat i) (hq5 : j5 = Int32.ofNat i), Go p.tables e below P (Tj5.setTop (mkF m 3 #[lR p0, lI j1, lR p2, lI j3, lI p4, lI j5, lI j6] [])) := by
   intro r
   induction r with
   | zero =>
    intro i hir Tj5 hj5 Lj5 Xj5 ej5 Kj5 Oj5 Nj5 fj5_0 j1 j3 j5 j6 jl hjA hjl hq1 hq3 hq5
    show Go _ _ _ _ (Tj5.setTop (mkF m 3 #[lR p0, lI j1, lR p2, lI j3, lI p4, lI j5, lI j6] []))
    refine Go.st (fun _ => XS.iload Xj5.here hx rfl (hb hby od18_3) rfl) ?_
    show Go _ _ _ _ (Tj5.setTop (mkF m 5 #[lR p0, lI j1, lR p2, lI j3, lI p4, lI j5, lI j6] [(.int j5)]))
    rw [hq1, hq3, hq5]
    show Go _ _ _ _ (Tj5.setTop (mkF m 5 #[lR p0, lI (Int32.ofNat i), lR p2, lI (Int32.ofNat i), lI p4, lI (Int32.ofNat i), lI j6] [(.int (Int32.ofNat i))]))
    refine Go.st (fun _ => XS.iload Xj5.here hx rfl (hb hby od18_5) rfl) ?_
    show Go _ _ _ _ (Tj5.setTop (mkF m 7 #[lR p0, lI (Int32.ofNat i), lR p2, lI (Int32.ofNat i), lI p4, lI (Int32.ofNat i), lI j6] [(.int p4), (.int (Int32.ofNat i))]))
    have hb6 : (Int32.ofNat i) < p4 := by rw [hnn, Int32.lt_iff_toInt_lt, own_ofN (by omega), own_ofN (by omega)]; omega
    refine Go.st (fun _ => XS.icmpNo Xj5.here hx rfl (hb hby od18_7) rfl (tlt hb6).2.1) ?_
    show Go _ _ _ _ (Tj5.setTop (mkF m 10 #[lR p0, lI (Int32.ofNat i), lR p2, lI (Int32.ofNat i), lI p4, lI (Int32.ofNat i), lI j6] []))
    refine Go.st (fun _ => XS.aloadN Xj5.here hx rfl (hb hby od18_10) rfl rfl) ?_
    refine Go.st (fun _ => XS.iloadN Xj5.here hx rfl (hb hby od18_11) rfl) ?_
    show Go _ _ _ _ (Tj5.setTop (mkF m 12 #[lR p0, lI (Int32.ofNat i), lR p2, lI (Int32.ofNat i), lI p4, lI (Int32.ofNat i), lI j6] [(.int (Int32.ofNat i)), (.ref p0)]))
    refine Go.st (fun _ => own_ldC Xj5 hx hZ ej5 fj5_0 (j := (Int32.ofNat i)) (i := ((Int32.ofNat i)).toNatClampNeg) (v := (.int (xs.getD (Int32.ofNat i).toNatClampNeg 0))) (by rw [hnn]; exact own_ltza (k := i) (by rw [own_clamp (by omega)]; omega)) rfl (own_getD_int xs _) (g := (mkF m 12 #[lR p0, lI (Int32.ofNat i), lR p2, lI (Int32.ofNat i), lI p4, lI (Int32.ofNat i), lI j6] [(.int (Int32.ofNat i)), (.ref p0)])) rfl rfl (hb hby od18_12) _) ?_
    show Go _ _ _ _ (Tj5.setTop (mkF m 13 #[lR p0, lI (Int32.ofNat i), lR p2, lI (Int32.ofNat i), lI p4, lI (Int32.ofNat i), lI j6] [(.int (xs.getD (Int32.ofNat i).toNatClampNeg 0))]))
    rw [show (xs.getD (Int32.ofNat i).toNatClampNeg 0) = (xs.getD i 0) from by rw [own_clamp (by omega)]]
    show Go _ _ _ _ (Tj5.setTop (mkF m 13 #[lR p0, lI (Int32.ofNat i), lR p2, lI (Int32.ofNat i), lI p4, lI (Int32.ofNat i), lI j6] [(.int (xs.getD i 0))]))
    refine Go.st (fun _ => XS.istore Xj5.here hx rfl (hb hby od18_13) rfl (l' := #[lR p0, lI (Int32.ofNat i), lR p2, lI (Int32.ofNat i), lI p4, lI (Int32.ofNat i), lI (xs.getD i 0)]) rfl) ?_
    show Go _ _ _ _ (Tj5.setTop (mkF m 15 #[lR p0, lI (Int32.ofNat i), lR p2, lI (Int32.ofNat i), lI p4, lI (Int32.ofNat i), lI (xs.getD i 0)] []))
    refine Go.st (fun _ => XS.iload Xj5.here hx rfl (hb hby od18_15) rfl) ?_
    refine Go.st (fun _ => XS.sipush Xj5.here hx rfl (hb hby od18_17)) ?_
    show Go _ _ _ _ (Tj5.setTop (mkF m 20 #[lR p0, lI (Int32.ofNat i), lR p2, lI (Int32.ofNat i), lI p4, lI (Int32.ofNat i), lI (xs.getD i 0)] [(.int 255), (.int (xs.getD i 0))]))
    have hb8 : (255 : Int32) < (xs.getD i 0) := by rw [show i = jj from by omega]; exact hWd.2.2
    refine Go.st (fun _ => XS.icmpNo Xj5.here hx rfl (hb hby od18_20) rfl (tlt hb8).2.2.2) ?_
    show Go _ _ _ _ (Tj5.setTop (mkF m 23 #[lR p0, lI (Int32.ofNat i), lR p2, lI (Int32.ofNat i), lI p4, lI (Int32.ofNat i), lI (xs.getD i 0)] []))
    refine Go.st (fun _ => XS.iload Xj5.here hx rfl (hb hby od18_23) rfl) ?_
    show Go _ _ _ _ (Tj5.setTop (mkF m 25 #[lR p0, lI (Int32.ofNat i), lR p2, lI (Int32.ofNat i), lI p4, lI (Int32.ofNat i), lI (xs.getD i 0)] [(.int (Int32.ofNat i))]))
    obtain ⟨fs, hr, hrun, hended, hW, hsame⟩ := Xj5.leave (v := some (.int (Int32.ofNat i))) (fun h => by rw [Bd.returns] at h; cases h)
    refine ⟨_, ?_, hPend _ _ hrun hended ⟨_, _, rfl, ?_, ⟨_, rfl⟩, hW, hsame.mono (by decide) (by decide)⟩⟩
    ·exact retOut Xj5 hx (t := .int) Bd.returns rfl (Or.inl ⟨rfl, Or.inl rfl, _, rfl⟩) (hb hby od18_25) hr
    ·show Q_rm_cmp5 Z _ _ _ _ _ _ _ _ _ h0 n0 _ Tj5.heap _
     rw [ej5]
     exact ⟨(congrArg (fun z => some (Value.int (Int32.ofNat z))) (show i = jj from by omega)), Nj5, Kj5⟩
   | succ r ih =>
    intro i hir Tj5 hj5 Lj5 Xj5 ej5 Kj5 Oj5 Nj5 fj5_0 j1 j3 j5 j6 jl hjA hjl hq1 hq3 hq5
    show Go _ _ _ _ (Tj5.setTop (mkF m 3 #[lR p0, lI j1, lR p2, lI j3, lI p4, lI j5, lI j6] []))
    refine Go.st (fun _ => XS.iload Xj5.here hx rfl (hb hby od18_3) rfl) ?_
    show Go _ _ _ _ (Tj5.setTop (mkF m 5 #[lR p0, lI j1, lR p2, lI j3, lI p4, lI j5, lI j6] [(.int j5)]))
    rw [hq1, hq3, hq5]
    show Go _ _ _ _ (Tj5.setTop (mkF m 5 #[lR p0, lI (Int32.ofNat i), lR p2, lI (Int32.ofNat i), lI p4, lI (Int32.ofNat i), lI j6] [(.int (Int32.ofNat i))]))
    refine Go.st (fun _ => XS.iload Xj5.here hx rfl (hb hby od18_5) rfl) ?_
    show Go _ _ _ _ (Tj5.setTop (mkF m 7 #[lR p0, lI (Int32.ofNat i), lR p2, lI (Int32.ofNat i), lI p4, lI (Int32.ofNat i), lI j6] [(.int p4), (.int (Int32.ofNat i))]))
    have hb9 : (Int32.ofNat i) < p4 := by rw [hnn, Int32.lt_iff_toInt_lt, own_ofN (by omega), own_ofN (by omega)]; omega
    refine Go.st (fun _ => XS.icmpNo Xj5.here hx rfl (hb hby od18_7) rfl (tlt hb9).2.1) ?_
    show Go _ _ _ _ (Tj5.setTop (mkF m 10 #[lR p0, lI (Int32.ofNat i), lR p2, lI (Int32.ofNat i), lI p4, lI (Int32.ofNat i), lI j6] []))
    refine Go.st (fun _ => XS.aloadN Xj5.here hx rfl (hb hby od18_10) rfl rfl) ?_
    refine Go.st (fun _ => XS.iloadN Xj5.here hx rfl (hb hby od18_11) rfl) ?_
    show Go _ _ _ _ (Tj5.setTop (mkF m 12 #[lR p0, lI (Int32.ofNat i), lR p2, lI (Int32.ofNat i), lI p4, lI (Int32.ofNat i), lI j6] [(.int (Int32.ofNat i)), (.ref p0)]))
    refine Go.st (fun _ => own_ldC Xj5 hx hZ ej5 fj5_0 (j := (Int32.ofNat i)) (i := ((Int32.ofNat i)).toNatClampNeg) (v := (.int (xs.getD (Int32.ofNat i).toNatClampNeg 0))) (by rw [hnn]; exact own_ltza (k := i) (by rw [own_clamp (by omega)]; omega)) rfl (own_getD_int xs _) (g := (mkF m 12 #[lR p0, lI (Int32.ofNat i), lR p2, lI (Int32.ofNat i), lI p4, lI (Int32.ofNat i), lI j6] [(.int (Int32.ofNat i)), (.ref p0)])) rfl rfl (hb hby od18_12) _) ?_
    show Go _ _ _ _ (Tj5.setTop (mkF m 13 #[lR p0, lI (Int32.ofNat i), lR p2, lI (Int32.ofNat i), lI p4, lI (Int32.ofNat i), lI j6] [(.int (xs.getD (Int32.ofNat i).toNatClampNeg 0))]))
    rw [show (xs.getD (Int32.ofNat i).toNatClampNeg 0) = (xs.getD i 0) from by rw [own_clamp (by omega)]]
    show Go _ _ _ _ (Tj5.setTop (mkF m 13 #[lR p0, lI (Int32.ofNat i), lR p2, lI (Int32.ofNat i), lI p4, lI (Int32.ofNat i), lI j6] [(.int (xs.getD i 0))]))
    refine Go.st (fun _ => XS.istore Xj5.here hx rfl (hb hby od18_13) rfl (l' := #[lR p0, lI (Int32.ofNat i), lR p2, lI (Int32.ofNat i), lI p4, lI (Int32.ofNat i), lI (xs.getD i 0)]) rfl) ?_
    show Go _ _ _ _ (Tj5.setTop (mkF m 15 #[lR p0, lI (Int32.ofNat i), lR p2, lI (Int32.ofNat i), lI p4, lI (Int32.ofNat i), lI (xs.getD i 0)] []))
    refine Go.st (fun _ => XS.iload Xj5.here hx rfl (hb hby od18_15) rfl) ?_
    refine Go.st (fun _ => XS.sipush Xj5.here hx rfl (hb hby od18_17)) ?_
    show Go _ _ _ _ (Tj5.setTop (mkF m 20 #[lR p0, lI (Int32.ofNat i), lR p2, lI (Int32.ofNat i), lI p4, lI (Int32.ofNat i), lI (xs.getD i 0)] [(.int 255), (.int (xs.getD i 0))]))
    have hb11 : ¬ ((255 : Int32) < (xs.getD i 0)) := hWd.2.1 i (by omega)
    refine Go.st (fun _ => XS.icmpYes Xj5.here hx rfl (pc0 := 20) (pc' := 26) rfl (hb hby od18_20) rfl (flt hb11).2.2.2 (by decide) (by decide)) ?_
    show Go _ _ _ _ (Tj5.setTop (mkF m 26 #[lR p0, lI (Int32.ofNat i), lR p2, lI (Int32.ofNat i), lI p4, lI (Int32.ofNat i), lI (xs.getD i 0)] []))
    refine Go.st (fun _ => XS.aloadN Xj5.here hx rfl (hb hby od18_26) rfl rfl) ?_
    refine Go.st (fun _ => XS.iloadN Xj5.here hx rfl (hb hby od18_27) rfl) ?_
    refine Go.st (fun _ => XS.iload Xj5.here hx rfl (hb hby od18_28) rfl) ?_
    show Go _ _ _ _ (Tj5.setTop (mkF m 30 #[lR p0, lI (Int32.ofNat i), lR p2, lI (Int32.ofNat i), lI p4, lI (Int32.ofNat i), lI (xs.getD i 0)] [(.int (xs.getD i 0)), (.int (Int32.ofNat i)), (.ref p2)]))
    refine Go.st (fun _ => XS.i2b Xj5.here hx rfl (hb hby od18_30) rfl) ?_
    show Go _ _ _ _ (Tj5.setTop (mkF m 31 #[lR p0, lI (Int32.ofNat i), lR p2, lI (Int32.ofNat i), lI p4, lI (Int32.ofNat i), lI (xs.getD i 0)] [(.int ((xs.getD i 0).toInt8.toInt32)), (.int (Int32.ofNat i)), (.ref p2)]))
    have P12 : Arv Z hj5 p2 kd .byte p4 ((jl ++ [0]).map Value.int) (.int 0) := Arv.pad hjA (own_pad0 jl)
    obtain ⟨T12, h12, X12, e12, W12, V12, st12⟩ := own_stB Xj5 hx hZ ej5 P12 (j := (Int32.ofNat i)) (i := jl.length) (by rw [hnn]; exact own_ltza (k := i) (by rw [own_clamp (by omega)]; omega)) (by rw [own_clamp (by omega), hjl]) (own_pad1 jl) (g := (mkF m 31 #[lR p0, lI (Int32.ofNat i), lR p2, lI (Int32.ofNat i), lI p4, lI (Int32.ofNat i), lI (xs.getD i 0)] [(.int ((xs.getD i 0).toInt8.toInt32)), (.int (Int32.ofNat i)), (.ref p2)])) rfl rfl (hb hby od18_31)
    refine Go.st st12 ?_
    rw [show nar .byte ((xs.getD i 0).toInt8.toInt32) = ((xs.getD i 0).toInt8.toInt32) from own_nar_i2b _] at V12
    have K12 : Keep h0 h12 [p2] := Kj5.wr W12 (Or.inl (List.mem_of_getElem? (i := 0) rfl))
    have O12 := Oj5.wr W12 hp2
    have N12 := Fr.snoc X12 Nj5 hp2
    have V12' : Arv Z h12 p2 kd .byte p4 ((jl ++ [((xs.getD i 0).toInt8.toInt32)]).map Value.int) (.int 0) := by rw [← own_setlast]; exact V12
    show Go _ _ _ _ (T12.setTop (mkF m 32 #[lR p0, lI (Int32.ofNat i), lR p2, lI (Int32.ofNat i), lI p4, lI (Int32.ofNat i), lI (xs.getD i 0)] []))
    refine Go.st (fun _ => XS.iinc X12.here hx rfl (hb hby od18_32) rfl (l' := #[lR p0, lI ((Int32.ofNat i) + (1 : Int32)), lR p2, lI (Int32.ofNat i), lI p4, lI (Int32.ofNat i), lI (xs.getD i 0)]) rfl) ?_
    show Go _ _ _ _ (T12.setTop (mkF m 35 #[lR p0, lI ((Int32.ofNat i) + (1 : Int32)), lR p2, lI (Int32.ofNat i), lI p4, lI (Int32.ofNat i), lI (xs.getD i 0)] []))
    refine Go.st (fun _ => XS.iinc X12.here hx rfl (hb hby od18_35) rfl (l' := #[lR p0, lI ((Int32.ofNat i) + (1 : Int32)), lR p2, lI ((Int32.ofNat i) + (1 : Int32)), lI p4, lI (Int32.ofNat i), lI (xs.getD i 0)]) rfl) ?_
    show Go _ _ _ _ (T12.setTop (mkF m 38 #[lR p0, lI ((Int32.ofNat i) + (1 : Int32)), lR p2, lI ((Int32.ofNat i) + (1 : Int32)), lI p4, lI (Int32.ofNat i), lI (xs.getD i 0)] []))
    refine Go.st (fun _ => XS.iinc X12.here hx rfl (hb hby od18_38) rfl (l' := #[lR p0, lI ((Int32.ofNat i) + (1 : Int32)), lR p2, lI ((Int32.ofNat i) + (1 : Int32)), lI p4, lI ((Int32.ofNat i) + (1 : Int32)), lI (xs.getD i 0)]) rfl) ?_
    show Go _ _ _ _ (T12.setTop (mkF m 41 #[lR p0, lI ((Int32.ofNat i) + (1 : Int32)), lR p2, lI ((Int32.ofNat i) + (1 : Int32)), lI p4, lI ((Int32.ofNat i) + (1 : Int32)), lI (xs.getD i 0)] []))
    refine Go.st (fun _ => XS.goto X12.here hx rfl (pc0 := 41) (pc' := 3) rfl (hb hby od18_41) (by decide) (by decide)) ?_
    show Go _ _ _ _ (T12.setTop (mkF m 3 #[lR p0, lI ((Int32.ofNat i) + (1 : Int32)), lR p2, lI ((Int32.ofNat i) + (1 : Int32)), lI p4, lI ((Int32.ofNat i) + (1 : Int32)), lI (xs.getD i 0)] []))
    have c13 := (fj5_0.other W12 hp3)
    exact ih (i + 1) (by omega) T12 h12 _  (X12.more (by decide) (by decide)) e12 K12 O12 N12  c13 ((Int32.ofNat i) + (1 : Int32)) ((Int32.ofNat i) + (1 : Int32)) ((Int32.ofNat i) + (1 : Int32)) (xs.getD i 0) (jl ++ [((xs.getD i 0).toInt8.toInt32)])  V12' (by rw [List.length_append, hjl]; rfl) (own_addj 1 rfl) (own_addj 1 rfl) (own_addj 1 rfl)
  have c14 := (hp0.other W4 hp3)
  exact J5 (jj - 1) 1 (by omega) T4 h4 _  (X4.more (by decide) (by decide)) e4 K4 O4 N4  c14 (1 : Int32) (1 : Int32) (1 : Int32) (xs.getD 0 0) (([] : List Int32) ++ [((xs.getD 0 0).toInt8.toInt32)])  V4' rfl rfl rfl rfl
theorem own_ef_rm_cmp3 (m : MethodId) (x0 : Addr) (x1 : Int32) (x2 : Int32) : entryFrame m #[(.ref x0), (.int x1), (.int x2)] 6 = mkF m 0 #[.val (.ref x0), .val (.int x1), .val (.int x2), .unset, .unset, .unset] [] := by first | (simp [entryFrame, mkF, argsToLocals, Value.category]; done) | rfl
theorem od19_0 : decode jdk_52_method_16_code 0 = .ok (.iload_n 2, 1) := by decide +kernel
theorem od19_1 : decode jdk_52_method_16_code 1 = .ok (.newarray .byte, 2) := by decide +kernel
theorem od19_3 : decode jdk_52_method_16_code 3 = .ok (.astore_n 3, 1) := by decide +kernel
theorem od19_4 : decode jdk_52_method_16_code 4 = .ok (.aload_n 0, 1) := by decide +kernel
theorem od19_5 : decode jdk_52_method_16_code 5 = .ok (.iload_n 1, 1) := by decide +kernel
theorem od19_6 : decode jdk_52_method_16_code 6 = .ok (.aload_n 3, 1) := by decide +kernel
theorem od19_7 : decode jdk_52_method_16_code 7 = .ok (.iconst 0, 1) := by decide +kernel
theorem od19_8 : decode jdk_52_method_16_code 8 = .ok (.iload_n 2, 1) := by decide +kernel
theorem od19_9 : decode jdk_52_method_16_code 9 = .ok (.invokestatic 115, 3) := by decide +kernel
theorem own_pd9 : parseMethodDescriptor "([CI[BII)I" = some ⟨[(.array .char), .int, (.array .byte), .int, .int], some .int⟩ := by decide +kernel
theorem od19_12 : decode jdk_52_method_16_code 12 = .ok (.istore 4, 2) := by decide +kernel
theorem od19_14 : decode jdk_52_method_16_code 14 = .ok (.iload 4, 2) := by decide +kernel
theorem od19_16 : decode jdk_52_method_16_code 16 = .ok (.iload_n 2, 1) := by decide +kernel
theorem od19_17 : decode jdk_52_method_16_code 17 = .ok (.if_icmp .eq 40, 3) := by decide +kernel
theorem od19_20 : decode jdk_52_method_16_code 20 = .ok (.aload_n 0, 1) := by decide +kernel
theorem od19_21 : decode jdk_52_method_16_code 21 = .ok (.iload_n 1, 1) := by decide +kernel
theorem od19_22 : decode jdk_52_method_16_code 22 = .ok (.iload_n 2, 1) := by decide +kernel
theorem od19_23 : decode jdk_52_method_16_code 23 = .ok (.invokestatic 119, 3) := by decide +kernel
theorem own_pd10 : parseMethodDescriptor "([CII)[B" = some ⟨[(.array .char), .int, .int], some (.array .byte)⟩ := by decide +kernel
theorem od19_26 : decode jdk_52_method_16_code 26 = .ok (.astore 5, 2) := by decide +kernel
theorem od19_28 : decode jdk_52_method_16_code 28 = .ok (.aload 5, 2) := by decide +kernel
theorem od19_30 : decode jdk_52_method_16_code 30 = .ok (.iload 4, 2) := by decide +kernel
theorem od19_32 : decode jdk_52_method_16_code 32 = .ok (.invokestatic 71, 3) := by decide +kernel
theorem own_pd11 : parseMethodDescriptor "([BI)C" = some ⟨[(.array .byte), .int], some .char⟩ := by decide +kernel
theorem od19_35 : decode jdk_52_method_16_code 35 = .ok (.sipush 255, 3) := by decide +kernel
theorem od19_38 : decode jdk_52_method_16_code 38 = .ok (.if_icmp .gt 16, 3) := by decide +kernel
theorem od19_54 : decode jdk_52_method_16_code 54 = .ok (.aload 5, 2) := by decide +kernel
theorem od19_56 : decode jdk_52_method_16_code 56 = .ok (.areturn, 1) := by decide +kernel
def Q_rm_cmp3 (Z : State) (g_CS : Int32) (p0 : Addr) (p2 : Int32) (xs : List Int32) (ka : ClassId) (nn : Nat) (jj : Nat) (h0 : Heap) (n0 : Nat) (v : Option Value) (h : Heap) (L : List Loc) : Prop := ∃ (ob : Addr) (kb : ClassId), v = some (.ref ob) ∧ Fr n0 L ∧ Keep h0 h [] ∧ h0.size ≤ ob ∧ Arv Z h ob kb .byte (Int32.ofNat (2 * nn)) ((own_wb xs).map Value.int) (.int 0)
set_option maxRecDepth 65536 in
set_option maxHeartbeats 40000000 in
theorem rm_cmp3 (l : Launch) (Z : State) (a0 : Array Value) (hw : ∀ d ∈ tables_1, d.before a0 Z = true) (ws : List Jvm.Cond) (S_AD : Sta Z Z.heap "java/lang/StringUTF16" "$assertionsDisabled" "Z" (.int 1)) (S_HI : Sta Z Z.heap "java/lang/StringUTF16" "HI_BYTE_SHIFT" "I" (.int 0)) (S_LO : Sta Z Z.heap "java/lang/StringUTF16" "LO_BYTE_SHIFT" "I" (.int 8)) (g_CS : Int32) (S_CS : Sta Z Z.heap "java/lang/String" "COMPACT_STRINGS" "Z" (.int g_CS)) (nz_CS : ¬ (g_CS = (0 : Int32))) (p0 : Addr) (p2 : Int32) (xs : List Int32) (ka : ClassId) (nn : Nat) (jj : Nat) (h0 : Heap) (n0 : Nat) (X00 : Old Z n0 h0) (hp0 : Arv Z h0 p0 ka .char p2 (xs.map Value.int) (.int 0)) (hnn : p2 = Int32.ofNat nn) (hn : nn ≤ 32) (hxn : xs.length = nn) (hWd : own_W xs jj) (hC : own_C xs) :
    MetFree l (⟨"java/lang/StringUTF16", "compress", "([CII)[B"⟩ : MethodName) (head1 (Jvm.Cond.code (⟨"java/lang/StringUTF16", "compress", "([CII)[B"⟩ : MethodName) jdk_52_method_16_code 6 (some (.array .byte)) :: ws) ({ frames := 3, cells := 2, slots := 96, locals := 40 } : Room)) (fun a U => a = #[(.ref p0), (.int 0), (.int p2)] ∧ Z.Warmed39 U.vm ∧ U.heap = h0) (fun _ _ _ _ _ => True) (fun _ U o U' => ∃ v L, o = .returned v ∧ Q_rm_cmp3 Z g_CS p0 p2 xs ka nn jj h0 n0 v U'.heap L ∧ FrameEnd U o U' L ({ frames := 3, cells := 2, slots := 96, locals := 40 } : Room).cells ({ frames := 3, cells := 2, slots := 96, locals := 40 } : Room).slots) := by
 refine MetFree.of_bodySF (plainFor_of_name own_pn4) hisR ?_
 intro p e s m args below meth c s₁ Bd hml0 hP hK
 obtain ⟨rfl, hZ, hh⟩ := hP
 have hx := Bd.exec
 have hby := Bd.bytes
 have hml : c.maxLocals = 6 := hml0
 have hown : s.vm.findClass "java/lang/StringUTF16" = some m.cls := findClass_of_methodNamed Bd.named
 have hnm := (name_of_methodNamed Bd.named Bd.method).1
 have X0 : Stand p l e ({ frames := 3, cells := 2, slots := 96, locals := 40 } : Room) s m #[(.ref p0), (.int 0), (.int p2)] below meth c s₁ [] 0 0 := Stand.of_body Bd
 have e0 : s₁.heap = h0 := by rw [← hh, Bd.state]; rfl
 have N0 := Fr.nil n0
 refine Go.start fun P hPend => ?_
 refine Go.st (fun _ k => castTop (own_ef_rm_cmp3 m p0 ((0 : Int32)) p2) k) ?_
 have hjn := hWd.1
 show Go _ _ _ _ (s₁.setTop (mkF m 0 #[lR p0, lI (0 : Int32), lI p2, lU, lU, lU] []))
 refine Go.st (fun _ => XS.iloadN X0.here hx rfl (hb hby od19_0) rfl) ?_
 show Go _ _ _ _ (s₁.setTop (mkF m 1 #[lR p0, lI (0 : Int32), lI p2, lU, lU, lU] [(.int p2)]))
 obtain ⟨T1, h1, k1, X1, e1, E1, A1, st1⟩ := newP X0 hx hZ (ow hw 27 rfl) e0 (g := (mkF m 1 #[lR p0, lI (0 : Int32), lI p2, lU, lU, lU] [(.int p2)])) rfl (hb hby od19_1) rfl (by rw [hnn]; exact own_nneg (by omega)) (cap := 32) (by rw [hnn, own_clamp (by omega)]; omega) (by decide) (by decide) (by decide)
 obtain ⟨b1, g1⟩ : ∃ z, z = h0.size := ⟨_, rfl⟩
 rw [← g1] at A1 st1
 refine Go.st st1 ?_
 have g_b1 : n0 ≤ b1 := Nat.le_trans (own_oldsz X00) (Nat.le_of_eq g1.symm)
 have sz_b1 : h0.size ≤ b1 := Nat.le_trans (Keep.refl h0 []).1 (Nat.le_of_eq g1.symm)
 have K1 : Keep h0 h1 [] := (Keep.refl h0 []).ext E1
 have O1 := X00.ext E1
 have V1 : Arv Z h1 b1 k1 .byte p2 [] (.int 0) := Arv.new A1 (by rw [hnn]; exact own_nneg (by omega))
 show Go _ _ _ _ (T1.setTop (mkF m 3 #[lR p0, lI (0 : Int32), lI p2, lU, lU, lU] [(.ref b1)]))
 refine Go.st (fun _ => XS.astoreN X1.here hx rfl (hb hby od19_3) rfl rfl (l' := #[lR p0, lI (0 : Int32), lI p2, lR b1, lU, lU]) rfl) ?_
 show Go _ _ _ _ (T1.setTop (mkF m 4 #[lR p0, lI (0 : Int32), lI p2, lR b1, lU, lU] []))
 refine Go.st (fun _ => XS.aloadN X1.here hx rfl (hb hby od19_4) rfl rfl) ?_
 refine Go.st (fun _ => XS.iloadN X1.here hx rfl (hb hby od19_5) rfl) ?_
 refine Go.st (fun _ => XS.aloadN X1.here hx rfl (hb hby od19_6) rfl rfl) ?_
 refine Go.st (fun _ => XS.iconst X1.here hx rfl (hb hby od19_7)) ?_
 refine Go.st (fun _ => XS.iloadN X1.here hx rfl (hb hby od19_8) rfl) ?_
 show Go _ _ _ _ (T1.setTop (mkF m 9 #[lR p0, lI (0 : Int32), lI p2, lR b1, lU, lU] [(.int p2), (.int 0), (.ref b1), (.int 0), (.ref p0)]))
 have c3 := (hp0.ext E1)
 obtain ⟨_, _, ⟨T2, L2, k2, n2⟩, -, X2, ⟨Lc2, hQ2, l2, y2, z2⟩, st2⟩ := Jvm.LawKit.callS X1 hx (y := (⟨"java/lang/StringUTF16", "compress", "([CI[BII)I"⟩ : MethodName)) hown (mvT hZ (ow hw 28 rfl)) (mvT hZ (ow hw 29 rfl)) (mvT hZ (ow hw 25 rfl)) (mvT hZ (ow hw 30 rfl)) (by decide) (backOf (W := 0) (rm_cmp5 l Z a0 hw [] S_AD S_HI S_LO g_CS S_CS nz_CS p0 b1 p2 xs ka k1 nn jj h1 n0 O1 c3 V1 g_b1 (Nat.ne_of_lt (Nat.lt_of_lt_of_le hp0.lt (Nat.le_of_eq g1.symm))) hnn hn hxn hWd) hZ (ow hw 30 rfl) (ow hw 25 rfl) (by decide) (by decide)) (g := (mkF m 9 #[lR p0, lI (0 : Int32), lI p2, lR b1, lU, lU] [(.int p2), (.int 0), (.ref b1), (.int 0), (.ref p0)])) rfl (by rw [hml]; rfl) (argsL := [(.ref p0), (.int 0), (.ref b1), (.int 0), (.int p2)]) (rest := []) (lenOf own_pd9 rfl) rfl (by show 2 * 0 + _ ≤ _; exact Nat.le_of_eq rfl) (hb hby od19_9) (fun _ _ => ⟨rfl, e1, (by decide : 1 + 0 ≤ _), (by decide : 32 + 0 ≤ _)⟩)
 dsimp only [Pt.U, Pt.locs, Pt.cells, Pt.slots] at X2 l2 y2 z2 st2 hQ2
 subst y2 z2
 refine Go.st st2 ?_
 obtain ⟨rfl, N2q, K2q⟩ := hQ2
 have N2 : Fr n0 L2 := by rw [l2]; exact Fr.app N0 N2q
 have O2 := O1.keep K2q (allS g_b1 all0)
 have K2 : Keep h0 T2.heap [] := K1.trans K2q (allS (Or.inr sz_b1) all0)
 show Go _ _ _ _ (T2.setTop (mkF m 12 #[lR p0, lI (0 : Int32), lI p2, lR b1, lU, lU] [(.int (Int32.ofNat jj))]))
 refine Go.st (fun _ => XS.istore X2.here hx rfl (hb hby od19_12) rfl (l' := #[lR p0, lI (0 : Int32), lI p2, lR b1, lI (Int32.ofNat jj), lU]) rfl) ?_
 show Go _ _ _ _ (T2.setTop (mkF m 14 #[lR p0, lI (0 : Int32), lI p2, lR b1, lI (Int32.ofNat jj), lU] []))
 refine Go.st (fun _ => XS.iload X2.here hx rfl (hb hby od19_14) rfl) ?_
 refine Go.st (fun _ => XS.iloadN X2.here hx rfl (hb hby od19_16) rfl) ?_
 show Go _ _ _ _ (T2.setTop (mkF m 17 #[lR p0, lI (0 : Int32), lI p2, lR b1, lI (Int32.ofNat jj), lU] [(.int p2), (.int (Int32.ofNat jj))]))
 have hb4 : ¬ ((Int32.ofNat jj) = p2) := fun q => by rw [hnn] at q; have q2 := congrArg Int32.toInt q; rw [own_ofN (by omega), own_ofN (by omega)] at q2; omega
 refine Go.st (fun _ => XS.icmpNo X2.here hx rfl (hb hby od19_17) rfl (feq hb4).1) ?_
 show Go _ _ _ _ (T2.setTop (mkF m 20 #[lR p0, lI (0 : Int32), lI p2, lR b1, lI (Int32.ofNat jj), lU] []))
 refine Go.st (fun _ => XS.aloadN X2.here hx rfl (hb hby od19_20) rfl rfl) ?_
 refine Go.st (fun _ => XS.iloadN X2.here hx rfl (hb hby od19_21) rfl) ?_
 refine Go.st (fun _ => XS.iloadN X2.here hx rfl (hb hby od19_22) rfl) ?_
 show Go _ _ _ _ (T2.setTop (mkF m 23 #[lR p0, lI (0 : Int32), lI p2, lR b1, lI (Int32.ofNat jj), lU] [(.int p2), (.int 0), (.ref p0)]))
 have c6 := (c3.keep K2q (ninS (Nat.ne_of_lt (Nat.lt_of_lt_of_le hp0.lt (Nat.le_of_eq g1.symm))) nin0))
 obtain ⟨_, _, ⟨T5, L5, k5, n5⟩, -, X5, ⟨Lc5, hQ5, l5, y5, z5⟩, st5⟩ := Jvm.LawKit.callS X2 hx (y := (⟨"java/lang/StringUTF16", "toBytes", "([CII)[B"⟩ : MethodName)) hown (mvT hZ (ow hw 132 rfl)) (mvT hZ (ow hw 133 rfl)) (mvT hZ (ow hw 25 rfl)) (mvT hZ (ow hw 134 rfl)) (by decide) (backOf (W := 0) (rm_u16b3 l Z a0 hw [] S_AD S_HI S_LO g_CS S_CS nz_CS p0 p2 xs ka nn T2.heap n0 O2 c6 hnn hn hxn) hZ (ow hw 134 rfl) (ow hw 25 rfl) (by decide) (by decide)) (g := (mkF m 23 #[lR p0, lI (0 : Int32), lI p2, lR b1, lI (Int32.ofNat jj), lU] [(.int p2), (.int 0), (.ref p0)])) rfl (by rw [hml]; rfl) (argsL := [(.ref p0), (.int 0), (.int p2)]) (rest := []) (lenOf own_pd10 rfl) rfl (by show 2 * 0 + _ ≤ _; exact Nat.le_of_eq rfl) (hb hby od19_23) (fun _ _ => ⟨rfl, rfl, (by decide : 1 + 1 ≤ _), (by decide : 32 + 64 ≤ _)⟩)
 dsimp only [Pt.U, Pt.locs, Pt.cells, Pt.slots] at X5 l5 y5 z5 st5 hQ5
 subst y5 z5
 refine Go.st st5 ?_
 obtain ⟨ob_7, kb_8, rfl, N5q, K5q, q5_0, q5_1⟩ := hQ5
 have N5 : Fr n0 L5 := by rw [l5]; exact Fr.app N2 N5q
 have O5 := O2.keep K5q all0
 have K5 : Keep h0 T5.heap [] := K2.trans K5q all0
 have sz_ob_7 : h0.size ≤ ob_7 := Nat.le_trans K2.1 q5_0
 have g_ob_7 : n0 ≤ ob_7 := Nat.le_trans (own_oldsz X00) sz_ob_7
 show Go _ _ _ _ (T5.setTop (mkF m 26 #[lR p0, lI (0 : Int32), lI p2, lR b1, lI (Int32.ofNat jj), lU] [(.ref ob_7)]))
 refine Go.st (fun _ => XS.astore X5.here hx rfl (hb hby od19_26) rfl rfl (l' := #[lR p0, lI (0 : Int32), lI p2, lR b1, lI (Int32.ofNat jj), lR ob_7]) rfl) ?_
 show Go _ _ _ _ (T5.setTop (mkF m 28 #[lR p0, lI (0 : Int32), lI p2, lR b1, lI (Int32.ofNat jj), lR ob_7] []))
 refine Go.st (fun _ => XS.aload X5.here hx rfl (hb hby od19_28) rfl rfl) ?_
 refine Go.st (fun _ => XS.iload X5.here hx rfl (hb hby od19_30) rfl) ?_
 show Go _ _ _ _ (T5.setTop (mkF m 32 #[lR p0, lI (0 : Int32), lI p2, lR b1, lI (Int32.ofNat jj), lR ob_7] [(.int (Int32.ofNat jj)), (.ref ob_7)]))
 obtain ⟨_, _, ⟨T9, L9, k9, n9⟩, -, X9, ⟨Lc9, hQ9, l9, y9, z9⟩, st9⟩ := Jvm.LawKit.callS X5 hx (y := (⟨"java/lang/StringUTF16", "getChar", "([BI)C"⟩ : MethodName)) hown (mvT hZ (ow hw 142 rfl)) (mvT hZ (ow hw 143 rfl)) (mvT hZ (ow hw 25 rfl)) (mvT hZ (ow hw 144 rfl)) (by decide) (backOf (W := 0) (rm_u16gc l Z a0 hw [] S_AD S_HI S_LO g_CS S_CS nz_CS ob_7 (Int32.ofNat jj) (own_wb xs) kb_8 (Int32.ofNat (2 * nn)) (xs.getD jj 0) jj T5.heap n0 O5 q5_1 rfl (by omega) (by rw [own_clamp (by omega)]; omega) (own_wb_at xs jj hWd.1).1 (own_wb_at xs jj hWd.1).2 (hC jj hWd.1)) hZ (ow hw 144 rfl) (ow hw 25 rfl) (by decide) (by decide)) (g := (mkF m 32 #[lR p0, lI (0 : Int32), lI p2, lR b1, lI (Int32.ofNat jj), lR ob_7] [(.int (Int32.ofNat jj)), (.ref ob_7)])) rfl (by rw [hml]; rfl) (argsL := [(.ref ob_7), (.int (Int32.ofNat jj))]) (rest := []) (lenOf own_pd11 rfl) rfl (by show 2 * 0 + _ ≤ _; exact Nat.le_of_eq rfl) (hb hby od19_32) (fun _ _ => ⟨rfl, rfl, (by decide : 2 + 0 ≤ _), (by decide : 96 + 0 ≤ _)⟩)
 dsimp only [Pt.U, Pt.locs, Pt.cells, Pt.slots] at X9 l9 y9 z9 st9 hQ9
 subst y9 z9
 refine Go.st st9 ?_
 obtain ⟨rfl, N9q, e9⟩ := hQ9
 have N9 : Fr n0 L9 := by rw [l9]; exact Fr.app N5 N9q
 show Go _ _ _ _ (T9.setTop (mkF m 35 #[lR p0, lI (0 : Int32), lI p2, lR b1, lI (Int32.ofNat jj), lR ob_7] [(.int (xs.getD jj 0))]))
 refine Go.st (fun _ => XS.sipush X9.here hx rfl (hb hby od19_35)) ?_
 show Go _ _ _ _ (T9.setTop (mkF m 38 #[lR p0, lI (0 : Int32), lI p2, lR b1, lI (Int32.ofNat jj), lR ob_7] [(.int 255), (.int (xs.getD jj 0))]))
 have hb10 : (255 : Int32) < (xs.getD jj 0) := hWd.2.2
 refine Go.st (fun _ => XS.icmpYes X9.here hx rfl (pc0 := 38) (pc' := 54) rfl (hb hby od19_38) rfl (tlt hb10).2.2.1 (by decide) (by decide)) ?_
 show Go _ _ _ _ (T9.setTop (mkF m 54 #[lR p0, lI (0 : Int32), lI p2, lR b1, lI (Int32.ofNat jj), lR ob_7] []))
 refine Go.st (fun _ => XS.aload X9.here hx rfl (hb hby od19_54) rfl rfl) ?_
 show Go _ _ _ _ (T9.setTop (mkF m 56 #[lR p0, lI (0 : Int32), lI p2, lR b1, lI (Int32.ofNat jj), lR ob_7] [(.ref ob_7)]))
 obtain ⟨fs, hr, hrun, hended, hW, hsame⟩ := X9.leave (v := some (.ref ob_7)) (fun h => by rw [Bd.returns] at h; cases h)
 refine ⟨_, ?_, hPend _ _ hrun hended ⟨_, _, rfl, ?_, ⟨_, rfl⟩, hW, hsame.mono (by decide) (by decide)⟩⟩
 ·exact retOut X9 hx (t := (.array .byte)) Bd.returns rfl (Or.inr (Or.inr (Or.inr (Or.inr ⟨rfl, rfl, rfl⟩)))) (hb hby od19_56) hr
 ·show Q_rm_cmp3 Z _ _ _ _ _ _ _ h0 n0 _ T9.heap _
  rw [e9]
  exact ⟨ob_7, kb_8, rfl, N9, K5, sz_ob_7, q5_1⟩
theorem own_ef_rm_cfal (m : MethodId) (x0 : Addr) (x1 : Int32) : entryFrame m #[(.ref x0), (.int x1)] 2 = mkF m 0 #[.val (.ref x0), .val (.int x1)] [] := by first | (simp [entryFrame, mkF, argsToLocals, Value.category]; done) | rfl
theorem od20_0 : decode jdk_52_method_15_code 0 = .ok (.iload_n 1, 1) := by decide +kernel
theorem od20_1 : decode jdk_52_method_15_code 1 = .ok (.aload_n 0, 1) := by decide +kernel
theorem od20_2 : decode jdk_52_method_15_code 2 = .ok (.arraylength, 1) := by decide +kernel
theorem od20_3 : decode jdk_52_method_15_code 3 = .ok (.isub, 1) := by decide +kernel
theorem od20_4 : decode jdk_52_method_15_code 4 = .ok (.bipush 31, 2) := by decide +kernel
theorem od20_6 : decode jdk_52_method_15_code 6 = .ok (.iushr, 1) := by decide +kernel
theorem od20_7 : decode jdk_52_method_15_code 7 = .ok (.i2b, 1) := by decide +kernel
theorem od20_8 : decode jdk_52_method_15_code 8 = .ok (.ireturn, 1) := by decide +kernel
def Q_rm_cfal (Z : State) (g_CS : Int32) (p0 : Addr) (p1 : Int32) (ka : ClassId) (va : List Value) (nn : Nat) (h0 : Heap) (n0 : Nat) (v : Option Value) (h : Heap) (L : List Loc) : Prop := v = some (.int 1) ∧ Fr n0 L ∧ h = h0
set_option maxRecDepth 65536 in
set_option maxHeartbeats 40000000 in
theorem rm_cfal (l : Launch) (Z : State) (a0 : Array Value) (hw : ∀ d ∈ tables_1, d.before a0 Z = true) (ws : List Jvm.Cond) (S_AD : Sta Z Z.heap "java/lang/StringUTF16" "$assertionsDisabled" "Z" (.int 1)) (S_HI : Sta Z Z.heap "java/lang/StringUTF16" "HI_BYTE_SHIFT" "I" (.int 0)) (S_LO : Sta Z Z.heap "java/lang/StringUTF16" "LO_BYTE_SHIFT" "I" (.int 8)) (g_CS : Int32) (S_CS : Sta Z Z.heap "java/lang/String" "COMPACT_STRINGS" "Z" (.int g_CS)) (nz_CS : ¬ (g_CS = (0 : Int32))) (p0 : Addr) (p1 : Int32) (ka : ClassId) (va : List Value) (nn : Nat) (h0 : Heap) (n0 : Nat) (X00 : Old Z n0 h0) (hp0 : Arv Z h0 p0 ka .byte (Int32.ofNat (2 * nn)) va (.int 0)) (hnn : p1 = Int32.ofNat nn) (hn1 : 1 ≤ nn) (hn : nn ≤ 32) :
    MetFree l (⟨"java/lang/StringUTF16", "coderFromArrayLen", "([BI)B"⟩ : MethodName) (head1 (Jvm.Cond.code (⟨"java/lang/StringUTF16", "coderFromArrayLen", "([BI)B"⟩ : MethodName) jdk_52_method_15_code 2 (some .byte) :: ws) ({ frames := 0, cells := 0, slots := 0, locals := 0 } : Room)) (fun a U => a = #[(.ref p0), (.int p1)] ∧ Z.Warmed39 U.vm ∧ U.heap = h0) (fun _ _ _ _ _ => True) (fun _ U o U' => ∃ v L, o = .returned v ∧ Q_rm_cfal Z g_CS p0 p1 ka va nn h0 n0 v U'.heap L ∧ FrameEnd U o U' L ({ frames := 0, cells := 0, slots := 0, locals := 0 } : Room).cells ({ frames := 0, cells := 0, slots := 0, locals := 0 } : Room).slots) := by
 refine MetFree.of_bodySF (plainFor_of_name own_pn4) hisR ?_
 intro p e s m args below meth c s₁ Bd hml0 hP hK
 obtain ⟨rfl, hZ, hh⟩ := hP
 have hx := Bd.exec
 have hby := Bd.bytes
 have hml : c.maxLocals = 2 := hml0
 have hown : s.vm.findClass "java/lang/StringUTF16" = some m.cls := findClass_of_methodNamed Bd.named
 have hnm := (name_of_methodNamed Bd.named Bd.method).1
 have X0 : Stand p l e ({ frames := 0, cells := 0, slots := 0, locals := 0 } : Room) s m #[(.ref p0), (.int p1)] below meth c s₁ [] 0 0 := Stand.of_body Bd
 have e0 : s₁.heap = h0 := by rw [← hh, Bd.state]; rfl
 have N0 := Fr.nil n0
 refine Go.start fun P hPend => ?_
 refine Go.st (fun _ k => castTop (own_ef_rm_cfal m p0 p1) k) ?_
 show Go _ _ _ _ (s₁.setTop (mkF m 0 #[lR p0, lI p1] []))
 refine Go.st (fun _ => XS.iloadN X0.here hx rfl (hb hby od20_0) rfl) ?_
 refine Go.st (fun _ => XS.aloadN X0.here hx rfl (hb hby od20_1) rfl rfl) ?_
 show Go _ _ _ _ (s₁.setTop (mkF m 2 #[lR p0, lI p1] [(.ref p0), (.int p1)]))
 refine Go.st (fun _ => own_len X0 hx hZ e0 hp0 (g := (mkF m 2 #[lR p0, lI p1] [(.ref p0), (.int p1)])) rfl rfl (hb hby od20_2) _) ?_
 show Go _ _ _ _ (s₁.setTop (mkF m 3 #[lR p0, lI p1] [(.int (Int32.ofNat (2 * nn))), (.int p1)]))
 refine Go.st (fun _ => XS.isub X0.here hx rfl (hb hby od20_3) rfl) ?_
 show Go _ _ _ _ (s₁.setTop (mkF m 4 #[lR p0, lI p1] [(.int (p1 - (Int32.ofNat (2 * nn))))]))
 refine Go.st (fun _ => XS.bipush X0.here hx rfl (hb hby od20_4)) ?_
 show Go _ _ _ _ (s₁.setTop (mkF m 6 #[lR p0, lI p1] [(.int 31), (.int (p1 - (Int32.ofNat (2 * nn))))]))
 refine Go.st (fun _ => XS.iushr X0.here hx rfl (hb hby od20_6) rfl) ?_
 show Go _ _ _ _ (s₁.setTop (mkF m 7 #[lR p0, lI p1] [(.int (((p1 - (Int32.ofNat (2 * nn))).toUInt32 >>> ((31 : Int32) &&& 31).toUInt32).toInt32))]))
 refine Go.st (fun _ => XS.i2b X0.here hx rfl (hb hby od20_7) rfl) ?_
 show Go _ _ _ _ (s₁.setTop (mkF m 8 #[lR p0, lI p1] [(.int ((((p1 - (Int32.ofNat (2 * nn))).toUInt32 >>> ((31 : Int32) &&& 31).toUInt32).toInt32).toInt8.toInt32))]))
 obtain ⟨fs, hr, hrun, hended, hW, hsame⟩ := X0.leave (v := some (.int (nar .byte ((((p1 - (Int32.ofNat (2 * nn))).toUInt32 >>> ((31 : Int32) &&& 31).toUInt32).toInt32).toInt8.toInt32)))) (fun h => by rw [Bd.returns] at h; cases h)
 refine ⟨_, ?_, hPend _ _ hrun hended ⟨_, _, rfl, ?_, ⟨_, rfl⟩, hW, hsame.mono (by decide) (by decide)⟩⟩
 ·exact retN X0 hx (t := .byte) Bd.returns (by simp) (hb hby od20_8) hr
 ·show Q_rm_cfal Z _ _ _ _ _ _ h0 n0 _ s₁.heap _
  rw [e0]
  exact ⟨(congrArg (fun z => some (Value.int z)) (by rw [hnn]; exact own_coder1 hn1 hn)), N0, rfl⟩
theorem own_ef_rm_wid2 (m : MethodId) (x0 : Addr) (x1 : Addr) (x2 : Int32) (x3 : Int32) : entryFrame m #[(.ref x0), (.ref x1), (.int x2), (.int x3), .null] 6 = mkF m 0 #[.val (.ref x0), .val (.ref x1), .val (.int x2), .val (.int x3), .val .null, .unset] [] := by first | (simp [entryFrame, mkF, argsToLocals, Value.category]; done) | rfl
theorem od0_27 : decode jdk_42_method_149_code 27 = .ok (.getstatic 38, 3) := by decide +kernel
theorem od0_30 : decode jdk_42_method_149_code 30 = .ok (.ifCond .eq 28, 3) := by decide +kernel
theorem od0_33 : decode jdk_42_method_149_code 33 = .ok (.aload_n 1, 1) := by decide +kernel
theorem od0_34 : decode jdk_42_method_149_code 34 = .ok (.iload_n 2, 1) := by decide +kernel
theorem od0_35 : decode jdk_42_method_149_code 35 = .ok (.iload_n 3, 1) := by decide +kernel
theorem od0_36 : decode jdk_42_method_149_code 36 = .ok (.invokestatic 177, 3) := by decide +kernel
theorem od0_39 : decode jdk_42_method_149_code 39 = .ok (.astore 5, 2) := by decide +kernel
theorem od0_41 : decode jdk_42_method_149_code 41 = .ok (.aload_n 0, 1) := by decide +kernel
theorem od0_42 : decode jdk_42_method_149_code 42 = .ok (.aload 5, 2) := by decide +kernel
theorem od0_44 : decode jdk_42_method_149_code 44 = .ok (.iload_n 3, 1) := by decide +kernel
theorem od0_45 : decode jdk_42_method_149_code 45 = .ok (.invokestatic 47, 3) := by decide +kernel
theorem own_pd12 : parseMethodDescriptor "([BI)B" = some ⟨[(.array .byte), .int], some .byte⟩ := by decide +kernel
theorem od0_48 : decode jdk_42_method_149_code 48 = .ok (.putfield 15, 3) := by decide +kernel
theorem od0_51 : decode jdk_42_method_149_code 51 = .ok (.aload_n 0, 1) := by decide +kernel
theorem od0_52 : decode jdk_42_method_149_code 52 = .ok (.aload 5, 2) := by decide +kernel
theorem od0_54 : decode jdk_42_method_149_code 54 = .ok (.putfield 9, 3) := by decide +kernel
theorem od0_57 : decode jdk_42_method_149_code 57 = .ok (.return_, 1) := by decide +kernel
def Q_rm_wid2 (Z : State) (g_CS : Int32) (p0 : Addr) (p1 : Addr) (p3 : Int32) (xs : List Int32) (ka : ClassId) (nn : Nat) (jj : Nat) (h0 : Heap) (n0 : Nat) (v : Option Value) (h : Heap) (L : List Loc) : Prop := v = none ∧ Fr n0 L ∧ Keep h0 h [p0] ∧ Exa Z h p0 "java/lang/String" ∧ Fld Z h p0 "java/lang/String" "coder" "B" (.int 1)
set_option maxRecDepth 65536 in
set_option maxHeartbeats 40000000 in
theorem rm_wid2 (l : Launch) (Z : State) (a0 : Array Value) (hw : ∀ d ∈ tables_1, d.before a0 Z = true) (ws : List Jvm.Cond) (S_AD : Sta Z Z.heap "java/lang/StringUTF16" "$assertionsDisabled" "Z" (.int 1)) (S_HI : Sta Z Z.heap "java/lang/StringUTF16" "HI_BYTE_SHIFT" "I" (.int 0)) (S_LO : Sta Z Z.heap "java/lang/StringUTF16" "LO_BYTE_SHIFT" "I" (.int 8)) (g_CS : Int32) (S_CS : Sta Z Z.heap "java/lang/String" "COMPACT_STRINGS" "Z" (.int g_CS)) (nz_CS : ¬ (g_CS = (0 : Int32))) (p0 : Addr) (p1 : Addr) (p3 : Int32) (xs : List Int32) (ka : ClassId) (nn : Nat) (jj : Nat) (h0 : Heap) (n0 : Nat) (X00 : Old Z n0 h0) (hp0 : Exa Z h0 p0 "java/lang/String") (hp1 : Fld Z h0 p0 "java/lang/String" "value" "[B" .null) (hp2 : Fld Z h0 p0 "java/lang/String" "coder" "B" (.int 0)) (hp3 : n0 ≤ p0) (hp4 : Arv Z h0 p1 ka .char p3 (xs.map Value.int) (.int 0)) (hnn : p3 = Int32.ofNat nn) (hn : nn ≤ 32) (hxn : xs.length = nn) (hWd : own_W xs jj) (hC : own_C xs) :
    MetFree l (⟨"java/lang/String", "<init>", "([CIILjava/lang/Void;)V"⟩ : MethodName) (head1 (Jvm.Cond.code (⟨"java/lang/String", "<init>", "([CIILjava/lang/Void;)V"⟩ : MethodName) jdk_42_method_149_code 6 none :: ws) ({ frames := 4, cells := 2, slots := 96, locals := 57 } : Room)) (fun a U => a = #[(.ref p0), (.ref p1), (.int 0), (.int p3), .null] ∧ Z.Warmed39 U.vm ∧ U.heap = h0) (fun _ _ _ _ _ => True) (fun _ U o U' => ∃ v L, o = .returned v ∧ Q_rm_wid2 Z g_CS p0 p1 p3 xs ka nn jj h0 n0 v U'.heap L ∧ FrameEnd U o U' L ({ frames := 4, cells := 2, slots := 96, locals := 57 } : Room).cells ({ frames := 4, cells := 2, slots := 96, locals := 57 } : Room).slots) := by
 refine MetFree.of_bodySF (plainFor_of_name own_pn0) hisR ?_
 intro p e s m args below meth c s₁ Bd hml0 hP hK
 obtain ⟨rfl, hZ, hh⟩ := hP
 have hx := Bd.exec
 have hby := Bd.bytes
 have hml : c.maxLocals = 6 := hml0
 have hown : s.vm.findClass "java/lang/String" = some m.cls := findClass_of_methodNamed Bd.named
 have hnm := (name_of_methodNamed Bd.named Bd.method).1
 have X0 : Stand p l e ({ frames := 4, cells := 2, slots := 96, locals := 57 } : Room) s m #[(.ref p0), (.ref p1), (.int 0), (.int p3), .null] below meth c s₁ [] 0 0 := Stand.of_body Bd
 have e0 : s₁.heap = h0 := by rw [← hh, Bd.state]; rfl
 have N0 := Fr.nil n0
 refine Go.start fun P hPend => ?_
 refine Go.st (fun _ k => castTop (own_ef_rm_wid2 m p0 p1 ((0 : Int32)) p3) k) ?_
 have hjn := hWd.1
 show Go _ _ _ _ (s₁.setTop (mkF m 0 #[lR p0, lR p1, lI (0 : Int32), lI p3, lN, lU] []))
 refine Go.st (fun _ => XS.aloadN X0.here hx rfl (hb hby od0_0) rfl rfl) ?_
 show Go _ _ _ _ (s₁.setTop (mkF m 1 #[lR p0, lR p1, lI (0 : Int32), lI p3, lN, lU] [(.ref p0)]))
 obtain ⟨T1, X1, e1, st1⟩ := initO X0 hx hZ hown (ow hw 19 rfl) (ow hw 20 rfl) (ow hw 21 rfl) e0 (g := (mkF m 1 #[lR p0, lR p1, lI (0 : Int32), lI p3, lN, lU] [(.ref p0)])) rfl (by rw [hml]; rfl) rfl (hb hby od0_1) (by decide) (W := 0) (by show 2 * 0 + _ ≤ _; exact Nat.le_of_eq rfl) (by decide)
 refine Go.st st1 ?_
 show Go _ _ _ _ (T1.setTop (mkF m 4 #[lR p0, lR p1, lI (0 : Int32), lI p3, lN, lU] []))
 refine Go.st (fun _ => XS.iloadN X1.here hx rfl (hb hby od0_4) rfl) ?_
 show Go _ _ _ _ (T1.setTop (mkF m 5 #[lR p0, lR p1, lI (0 : Int32), lI p3, lN, lU] [(.int p3)]))
 have hb2 : ¬ (p3 = (0 : Int32)) := fun q => by rw [hnn] at q; have q2 := congrArg Int32.toInt q; rw [own_ofN (by omega), show (0 : Int32).toInt = 0 from rfl] at q2; omega
 refine Go.st (fun _ => XS.ifYes X1.here hx rfl (pc0 := 5) (pc' := 27) rfl (hb hby od0_5) rfl ((if0 _ _).trans (feq hb2).2) (by decide) (by decide)) ?_
 show Go _ _ _ _ (T1.setTop (mkF m 27 #[lR p0, lR p1, lI (0 : Int32), lI p3, lN, lU] []))
 obtain ⟨T3, X3, e3, st3⟩ := getS2 X1 hx hZ hown (host := "") (Or.inl (ow hw 22 rfl)) Via.refl e1 (S_CS.ext X00.2) (g := (mkF m 27 #[lR p0, lR p1, lI (0 : Int32), lI p3, lN, lU] [])) rfl (hb hby od0_27)
 refine Go.st st3 ?_
 show Go _ _ _ _ (T3.setTop (mkF m 30 #[lR p0, lR p1, lI (0 : Int32), lI p3, lN, lU] [(.int g_CS)]))
 have hb4 : ¬ (g_CS = (0 : Int32)) := nz_CS
 refine Go.st (fun _ => XS.ifNo X3.here hx rfl (hb hby od0_30) rfl ((if0 _ _).trans (feq hb4).1)) ?_
 show Go _ _ _ _ (T3.setTop (mkF m 33 #[lR p0, lR p1, lI (0 : Int32), lI p3, lN, lU] []))
 refine Go.st (fun _ => XS.aloadN X3.here hx rfl (hb hby od0_33) rfl rfl) ?_
 refine Go.st (fun _ => XS.iloadN X3.here hx rfl (hb hby od0_34) rfl) ?_
 refine Go.st (fun _ => XS.iloadN X3.here hx rfl (hb hby od0_35) rfl) ?_
 show Go _ _ _ _ (T3.setTop (mkF m 36 #[lR p0, lR p1, lI (0 : Int32), lI p3, lN, lU] [(.int p3), (.int 0), (.ref p1)]))
 obtain ⟨_, _, ⟨T5, L5, k5, n5⟩, -, X5, ⟨Lc5, hQ5, l5, y5, z5⟩, st5⟩ := Jvm.LawKit.callS X3 hx (y := (⟨"java/lang/StringUTF16", "compress", "([CII)[B"⟩ : MethodName)) hown (mvT hZ (ow hw 23 rfl)) (mvT hZ (ow hw 24 rfl)) (mvT hZ (ow hw 25 rfl)) (mvT hZ (ow hw 26 rfl)) (by decide) (backOf (W := 0) (rm_cmp3 l Z a0 hw [] S_AD S_HI S_LO g_CS S_CS nz_CS p1 p3 xs ka nn jj h0 n0 X00 hp4 hnn hn hxn hWd hC) hZ (ow hw 26 rfl) (ow hw 25 rfl) (by decide) (by decide)) (g := (mkF m 36 #[lR p0, lR p1, lI (0 : Int32), lI p3, lN, lU] [(.int p3), (.int 0), (.ref p1)])) rfl (by rw [hml]; rfl) (argsL := [(.ref p1), (.int 0), (.int p3)]) (rest := []) (lenOf own_pd10 rfl) rfl (by show 2 * 0 + _ ≤ _; exact Nat.le_of_eq rfl) (hb hby od0_36) (fun _ _ => ⟨rfl, e3, (by decide : 0 + 2 ≤ _), (by decide : 0 + 96 ≤ _)⟩)
 dsimp only [Pt.U, Pt.locs, Pt.cells, Pt.slots] at X5 l5 y5 z5 st5 hQ5
 subst y5 z5
 refine Go.st st5 ?_
 obtain ⟨ob_6, kb_7, rfl, N5q, K5q, q5_0, q5_1⟩ := hQ5
 have N5 : Fr n0 L5 := by rw [l5]; exact Fr.app N0 N5q
 have O5 := X00.keep K5q all0
 have K5 : Keep h0 T5.heap [p0] := (Keep.refl h0 [p0]).trans K5q all0
 have sz_ob_6 : h0.size ≤ ob_6 := Nat.le_trans (Keep.refl h0 [p0]).1 q5_0
 have g_ob_6 : n0 ≤ ob_6 := Nat.le_trans (own_oldsz X00) sz_ob_6
 show Go _ _ _ _ (T5.setTop (mkF m 39 #[lR p0, lR p1, lI (0 : Int32), lI p3, lN, lU] [(.ref ob_6)]))
 refine Go.st (fun _ => XS.astore X5.here hx rfl (hb hby od0_39) rfl rfl (l' := #[lR p0, lR p1, lI (0 : Int32), lI p3, lN, lR ob_6]) rfl) ?_
 show Go _ _ _ _ (T5.setTop (mkF m 41 #[lR p0, lR p1, lI (0 : Int32), lI p3, lN, lR ob_6] []))
 refine Go.st (fun _ => XS.aloadN X5.here hx rfl (hb hby od0_41) rfl rfl) ?_
 refine Go.st (fun _ => XS.aload X5.here hx rfl (hb hby od0_42) rfl rfl) ?_
 refine Go.st (fun _ => XS.iloadN X5.here hx rfl (hb hby od0_44) rfl) ?_
 show Go _ _ _ _ (T5.setTop (mkF m 45 #[lR p0, lR p1, lI (0 : Int32), lI p3, lN, lR ob_6] [(.int p3), (.ref ob_6), (.ref p0)]))
 obtain ⟨_, _, ⟨T8, L8, k8, n8⟩, -, X8, ⟨Lc8, hQ8, l8, y8, z8⟩, st8⟩ := Jvm.LawKit.callS X5 hx (y := (⟨"java/lang/StringUTF16", "coderFromArrayLen", "([BI)B"⟩ : MethodName)) hown (mvT hZ (ow hw 31 rfl)) (mvT hZ (ow hw 32 rfl)) (mvT hZ (ow hw 25 rfl)) (mvT hZ (ow hw 33 rfl)) (by decide) (backOf (W := 1) (rm_cfal l Z a0 hw [] S_AD S_HI S_LO g_CS S_CS nz_CS ob_6 p3 kb_7 ((own_wb xs).map Value.int) nn T5.heap n0 O5 q5_1 hnn (by omega) hn) hZ (ow hw 33 rfl) (ow hw 25 rfl) (by decide) (by decide)) (g := (mkF m 45 #[lR p0, lR p1, lI (0 : Int32), lI p3, lN, lR ob_6] [(.int p3), (.ref ob_6), (.ref p0)])) rfl (by rw [hml]; rfl) (argsL := [(.ref ob_6), (.int p3)]) (rest := [(.ref p0)]) (lenOf own_pd12 rfl) rfl (by show 2 * 0 + _ ≤ _; exact Nat.le_of_eq rfl) (hb hby od0_45) (fun _ _ => ⟨rfl, rfl, (by decide : 2 + 0 ≤ _), (by decide : 96 + 0 ≤ _)⟩)
 dsimp only [Pt.U, Pt.locs, Pt.cells, Pt.slots] at X8 l8 y8 z8 st8 hQ8
 subst y8 z8
 refine Go.st st8 ?_
 obtain ⟨rfl, N8q, e8⟩ := hQ8
 have N8 : Fr n0 L8 := by rw [l8]; exact Fr.app N5 N8q
 show Go _ _ _ _ (T8.setTop (mkF m 48 #[lR p0, lR p1, lI (0 : Int32), lI p3, lN, lR ob_6] [(.int 1), (.ref p0)]))
 have c9 := (hp2.keep K5q nin0)
 have c10 := (hp0.keep K5q)
 obtain ⟨T11, h11, X11, e11, W11, st11⟩ := putF X8 hx hZ hown (host := "") (Or.inl (ow hw 34 rfl)) Via.refl e8 c9 c10 (Or.inr ⟨(ow hw 35 rfl), rfl, hnm⟩) (ow hw 10 rfl) (ty := .byte) (by decide) rfl rfl (g := (mkF m 48 #[lR p0, lR p1, lI (0 : Int32), lI p3, lN, lR ob_6] [(.int 1), (.ref p0)])) rfl rfl (hb hby od0_48)
 refine Go.st st11 ?_
 have K11 : Keep h0 h11 [p0] := K5.wr W11 (Or.inl (List.mem_of_getElem? (i := 0) rfl))
 have O11 := O5.wr W11 hp3
 have N11 := Fr.snoc X11 N8 hp3
 have F11 := c9.same W11
 show Go _ _ _ _ (T11.setTop (mkF m 51 #[lR p0, lR p1, lI (0 : Int32), lI p3, lN, lR ob_6] []))
 refine Go.st (fun _ => XS.aloadN X11.here hx rfl (hb hby od0_51) rfl rfl) ?_
 refine Go.st (fun _ => XS.aload X11.here hx rfl (hb hby od0_52) rfl rfl) ?_
 show Go _ _ _ _ (T11.setTop (mkF m 54 #[lR p0, lR p1, lI (0 : Int32), lI p3, lN, lR ob_6] [(.ref ob_6), (.ref p0)]))
 have c12 := ((hp1.keep K5q nin0).other W11 (Or.inr (slot_ne (Or.inr (ow hw 37 rfl)) (Or.inr (ow hw 35 rfl)) (by decide) (t := (.array .byte)) (t' := .byte) (by decide) (by decide))))
 have c13 := (c10.wr W11)
 obtain ⟨T14, h14, X14, e14, W14, st14⟩ := putF X11 hx hZ hown (host := "") (Or.inl (ow hw 36 rfl)) Via.refl e11 c12 c13 (Or.inr ⟨(ow hw 37 rfl), rfl, hnm⟩) (ow hw 10 rfl) (ty := (.array .byte)) (by decide) rfl rfl (g := (mkF m 54 #[lR p0, lR p1, lI (0 : Int32), lI p3, lN, lR ob_6] [(.ref ob_6), (.ref p0)])) rfl rfl (hb hby od0_54)
 refine Go.st st14 ?_
 have K14 : Keep h0 h14 [p0] := K11.wr W14 (Or.inl (List.mem_of_getElem? (i := 0) rfl))
 have O14 := O11.wr W14 hp3
 have N14 := Fr.snoc X14 N11 hp3
 have F14 := c12.same W14
 show Go _ _ _ _ (T14.setTop (mkF m 57 #[lR p0, lR p1, lI (0 : Int32), lI p3, lN, lR ob_6] []))
 obtain ⟨fs, hr, hrun, hended, hW, hsame⟩ := X14.leave (v := none) (fun _ => rfl)
 refine ⟨_, ?_, hPend _ _ hrun hended ⟨_, _, rfl, ?_, ⟨_, rfl⟩, hW, hsame.mono (by decide) (by decide)⟩⟩
 ·exact X14.returnOut hx Bd.returns (hb hby od0_57) hr
 ·show Q_rm_wid2 Z _ _ _ _ _ _ _ _ h0 n0 _ T14.heap _
  rw [e14]
  have c15 := (c13.wr W14)
  have c16 := (F11.other W14 (Or.inr (slot_ne (Or.inr (ow hw 35 rfl)) (Or.inr (ow hw 37 rfl)) (by decide) (t := .byte) (t' := (.array .byte)) (by decide) (by decide))))
  exact ⟨rfl, N14, K14, c15, c16⟩
theorem own_ef_rm_wid1 (m : MethodId) (x0 : Addr) (x1 : Addr) : entryFrame m #[(.ref x0), (.ref x1)] 2 = mkF m 0 #[.val (.ref x0), .val (.ref x1)] [] := by first | (simp [entryFrame, mkF, argsToLocals, Value.category]; done) | rfl
def Q_rm_wid1 (Z : State) (g_CS : Int32) (p0 : Addr) (p1 : Addr) (xs : List Int32) (ka : ClassId) (nn : Nat) (jj : Nat) (h0 : Heap) (n0 : Nat) (v : Option Value) (h : Heap) (L : List Loc) : Prop := v = none ∧ Fr n0 L ∧ Keep h0 h [p0] ∧ Exa Z h p0 "java/lang/String" ∧ Fld Z h p0 "java/lang/String" "coder" "B" (.int 1)
set_option maxRecDepth 65536 in
set_option maxHeartbeats 40000000 in
theorem rm_wid1 (l : Launch) (Z : State) (a0 : Array Value) (hw : ∀ d ∈ tables_1, d.before a0 Z = true) (ws : List Jvm.Cond) (S_AD : Sta Z Z.heap "java/lang/StringUTF16" "$assertionsDisabled" "Z" (.int 1)) (S_HI : Sta Z Z.heap "java/lang/StringUTF16" "HI_BYTE_SHIFT" "I" (.int 0)) (S_LO : Sta Z Z.heap "java/lang/StringUTF16" "LO_BYTE_SHIFT" "I" (.int 8)) (g_CS : Int32) (S_CS : Sta Z Z.heap "java/lang/String" "COMPACT_STRINGS" "Z" (.int g_CS)) (nz_CS : ¬ (g_CS = (0 : Int32))) (p0 : Addr) (p1 : Addr) (xs : List Int32) (ka : ClassId) (nn : Nat) (jj : Nat) (h0 : Heap) (n0 : Nat) (X00 : Old Z n0 h0) (hp0 : Exa Z h0 p0 "java/lang/String") (hp1 : Fld Z h0 p0 "java/lang/String" "value" "[B" .null) (hp2 : Fld Z h0 p0 "java/lang/String" "coder" "B" (.int 0)) (hp3 : n0 ≤ p0) (hp4 : Arv Z h0 p1 ka .char (Int32.ofNat nn) (xs.map Value.int) (.int 0)) (hn : nn ≤ 32) (hxn : xs.length = nn) (hWd : own_W xs jj) (hC : own_C xs) :
    MetFree l (⟨"java/lang/String", "<init>", "([C)V"⟩ : MethodName) (head1 (Jvm.Cond.code (⟨"java/lang/String", "<init>", "([C)V"⟩ : MethodName) jdk_42_method_3_code 2 none :: ws) ({ frames := 5, cells := 2, slots := 96, locals := 74 } : Room)) (fun a U => a = #[(.ref p0), (.ref p1)] ∧ Z.Warmed39 U.vm ∧ U.heap = h0) (fun _ _ _ _ _ => True) (fun _ U o U' => ∃ v L, o = .returned v ∧ Q_rm_wid1 Z g_CS p0 p1 xs ka nn jj h0 n0 v U'.heap L ∧ FrameEnd U o U' L ({ frames := 5, cells := 2, slots := 96, locals := 74 } : Room).cells ({ frames := 5, cells := 2, slots := 96, locals := 74 } : Room).slots) := by
 refine MetFree.of_bodySF (plainFor_of_name own_pn0) hisR ?_
 intro p e s m args below meth c s₁ Bd hml0 hP hK
 obtain ⟨rfl, hZ, hh⟩ := hP
 have hx := Bd.exec
 have hby := Bd.bytes
 have hml : c.maxLocals = 2 := hml0
 have hown : s.vm.findClass "java/lang/String" = some m.cls := findClass_of_methodNamed Bd.named
 have hnm := (name_of_methodNamed Bd.named Bd.method).1
 have X0 : Stand p l e ({ frames := 5, cells := 2, slots := 96, locals := 74 } : Room) s m #[(.ref p0), (.ref p1)] below meth c s₁ [] 0 0 := Stand.of_body Bd
 have e0 : s₁.heap = h0 := by rw [← hh, Bd.state]; rfl
 have N0 := Fr.nil n0
 refine Go.start fun P hPend => ?_
 refine Go.st (fun _ k => castTop (own_ef_rm_wid1 m p0 p1) k) ?_
 show Go _ _ _ _ (s₁.setTop (mkF m 0 #[lR p0, lR p1] []))
 refine Go.st (fun _ => XS.aloadN X0.here hx rfl (hb hby od1_0) rfl rfl) ?_
 refine Go.st (fun _ => XS.aloadN X0.here hx rfl (hb hby od1_1) rfl rfl) ?_
 refine Go.st (fun _ => XS.iconst X0.here hx rfl (hb hby od1_2)) ?_
 refine Go.st (fun _ => XS.aloadN X0.here hx rfl (hb hby od1_3) rfl rfl) ?_
 show Go _ _ _ _ (s₁.setTop (mkF m 4 #[lR p0, lR p1] [(.ref p1), (.int 0), (.ref p1), (.ref p0)]))
 refine Go.st (fun _ => own_len X0 hx hZ e0 hp4 (g := (mkF m 4 #[lR p0, lR p1] [(.ref p1), (.int 0), (.ref p1), (.ref p0)])) rfl rfl (hb hby od1_4) _) ?_
 show Go _ _ _ _ (s₁.setTop (mkF m 5 #[lR p0, lR p1] [(.int (Int32.ofNat nn)), (.int 0), (.ref p1), (.ref p0)]))
 refine Go.st (fun _ => XS.aconstNull X0.here hx rfl (hb hby od1_5)) ?_
 show Go _ _ _ _ (s₁.setTop (mkF m 6 #[lR p0, lR p1] [.null, (.int (Int32.ofNat nn)), (.int 0), (.ref p1), (.ref p0)]))
 obtain ⟨_, _, ⟨T1, L1, k1, n1⟩, -, X1, ⟨Lc1, hQ1, l1, y1, z1⟩, st1⟩ := X0.specialBack hx (y := (⟨"java/lang/String", "<init>", "([CIILjava/lang/Void;)V"⟩ : MethodName)) rfl hown (mvT hZ (ow hw 15 rfl)) (mvT hZ (ow hw 16 rfl)) (mvT hZ (ow hw 18 rfl)) (by decide) (backOf (W := 0) (rm_wid2 l Z a0 hw [] S_AD S_HI S_LO g_CS S_CS nz_CS p0 p1 (Int32.ofNat nn) xs ka nn jj h0 n0 X00 hp0 hp1 hp2 hp3 hp4 rfl hn hxn hWd hC) hZ (ow hw 18 rfl) (ow hw 11 rfl) (by decide) (by decide)) (g := (mkF m 6 #[lR p0, lR p1] [.null, (.int (Int32.ofNat nn)), (.int 0), (.ref p1), (.ref p0)])) rfl (by rw [hml]; rfl) (Steps.refl _) (a := p0) (argsL := [(.ref p1), (.int 0), (.int (Int32.ofNat nn)), .null]) (rest := []) (lenOf own_pd0 rfl) rfl (by show 2 * 0 + _ ≤ _; exact Nat.le_of_eq rfl) (hb hby od1_6) (fun _ _ => ⟨rfl, e0, (by decide : 0 + 2 ≤ _), (by decide : 0 + 96 ≤ _)⟩)
 dsimp only [Pt.U, Pt.locs, Pt.cells, Pt.slots] at X1 l1 y1 z1 st1 hQ1
 subst y1 z1
 refine Go.tr st1 ?_
 obtain ⟨rfl, N1q, K1q, q1_0, q1_1⟩ := hQ1
 have N1 : Fr n0 L1 := by rw [l1]; exact Fr.app N0 N1q
 have O1 := X00.keep K1q (allS hp3 all0)
 have K1 : Keep h0 T1.heap [p0] := (Keep.refl h0 [p0]).trans K1q (allS (Or.inl (List.mem_of_getElem? (i := 0) rfl)) all0)
 show Go _ _ _ _ (T1.setTop (mkF m 9 #[lR p0, lR p1] []))
 obtain ⟨fs, hr, hrun, hended, hW, hsame⟩ := X1.leave (v := none) (fun _ => rfl)
 refine ⟨_, ?_, hPend _ _ hrun hended ⟨_, _, rfl, ?_, ⟨_, rfl⟩, hW, hsame.mono (by decide) (by decide)⟩⟩
 ·exact X1.returnOut hx Bd.returns (hb hby od1_9) hr
 ·show Q_rm_wid1 Z _ _ _ _ _ _ _ h0 n0 _ T1.heap _
  exact ⟨rfl, N1, K1, q1_0, q1_1⟩
theorem own_ef_rm_canEn0 (m : MethodId) (x0 : Int32) : entryFrame m #[(.int x0)] 1 = mkF m 0 #[.val (.int x0)] [] := by first | (simp [entryFrame, mkF, argsToLocals, Value.category]; done) | rfl
theorem od2_11 : decode jdk_43_method_3_code 11 = .ok (.iconst 0, 1) := by decide +kernel
def Q_rm_canEn0 (Z : State) (g_CS : Int32) (p0 : Int32) (h0 : Heap) (n0 : Nat) (v : Option Value) (h : Heap) (L : List Loc) : Prop := v = some (.int 0) ∧ Fr n0 L ∧ h = h0
set_option maxRecDepth 65536 in
set_option maxHeartbeats 40000000 in
theorem rm_canEn0 (l : Launch) (Z : State) (a0 : Array Value) (hw : ∀ d ∈ tables_1, d.before a0 Z = true) (ws : List Jvm.Cond) (S_AD : Sta Z Z.heap "java/lang/StringUTF16" "$assertionsDisabled" "Z" (.int 1)) (S_HI : Sta Z Z.heap "java/lang/StringUTF16" "HI_BYTE_SHIFT" "I" (.int 0)) (S_LO : Sta Z Z.heap "java/lang/StringUTF16" "LO_BYTE_SHIFT" "I" (.int 8)) (g_CS : Int32) (S_CS : Sta Z Z.heap "java/lang/String" "COMPACT_STRINGS" "Z" (.int g_CS)) (nz_CS : ¬ (g_CS = (0 : Int32))) (p0 : Int32) (h0 : Heap) (n0 : Nat) (X00 : Old Z n0 h0) (hbg : (255 : Int32) < p0) :
    MetFree l (⟨"java/lang/StringLatin1", "canEncode", "(C)Z"⟩ : MethodName) (head1 (Jvm.Cond.code (⟨"java/lang/StringLatin1", "canEncode", "(C)Z"⟩ : MethodName) jdk_43_method_3_code 1 (some .boolean) :: ws) ({ frames := 0, cells := 0, slots := 0, locals := 0 } : Room)) (fun a U => a = #[(.int p0)] ∧ Z.Warmed39 U.vm ∧ U.heap = h0) (fun _ _ _ _ _ => True) (fun _ U o U' => ∃ v L, o = .returned v ∧ Q_rm_canEn0 Z g_CS p0 h0 n0 v U'.heap L ∧ FrameEnd U o U' L ({ frames := 0, cells := 0, slots := 0, locals := 0 } : Room).cells ({ frames := 0, cells := 0, slots := 0, locals := 0 } : Room).slots) := by
 refine MetFree.of_bodySF (plainFor_of_name own_pn1) hisR ?_
 intro p e s m args below meth c s₁ Bd hml0 hP hK
 obtain ⟨rfl, hZ, hh⟩ := hP
 have hx := Bd.exec
 have hby := Bd.bytes
 have hml : c.maxLocals = 1 := hml0
 have hown : s.vm.findClass "java/lang/StringLatin1" = some m.cls := findClass_of_methodNamed Bd.named
 have hnm := (name_of_methodNamed Bd.named Bd.method).1
 have X0 : Stand p l e ({ frames := 0, cells := 0, slots := 0, locals := 0 } : Room) s m #[(.int p0)] below meth c s₁ [] 0 0 := Stand.of_body Bd
 have e0 : s₁.heap = h0 := by rw [← hh, Bd.state]; rfl
 have N0 := Fr.nil n0
 refine Go.start fun P hPend => ?_
 refine Go.st (fun _ k => castTop (own_ef_rm_canEn0 m p0) k) ?_
 show Go _ _ _ _ (s₁.setTop (mkF m 0 #[lI p0] []))
 refine Go.st (fun _ => XS.iloadN X0.here hx rfl (hb hby od2_0) rfl) ?_
 refine Go.st (fun _ => XS.sipush X0.here hx rfl (hb hby od2_1)) ?_
 show Go _ _ _ _ (s₁.setTop (mkF m 4 #[lI p0] [(.int 255), (.int p0)]))
 have hb1 : (255 : Int32) < p0 := hbg
 refine Go.st (fun _ => XS.icmpYes X0.here hx rfl (pc0 := 4) (pc' := 11) rfl (hb hby od2_4) rfl (tlt hb1).2.2.1 (by decide) (by decide)) ?_
 show Go _ _ _ _ (s₁.setTop (mkF m 11 #[lI p0] []))
 refine Go.st (fun _ => XS.iconst X0.here hx rfl (hb hby od2_11)) ?_
 show Go _ _ _ _ (s₁.setTop (mkF m 12 #[lI p0] [(.int 0)]))
 obtain ⟨fs, hr, hrun, hended, hW, hsame⟩ := X0.leave (v := some (.int 0)) (fun h => by rw [Bd.returns] at h; cases h)
 refine ⟨_, ?_, hPend _ _ hrun hended ⟨_, _, rfl, ?_, ⟨_, rfl⟩, hW, hsame.mono (by decide) (by decide)⟩⟩
 ·exact retN X0 hx (t := .boolean) Bd.returns (by simp) (hb hby od2_12) hr
 ·show Q_rm_canEn0 Z _ _ h0 n0 _ s₁.heap _
  rw [e0]
  exact ⟨rfl, N0, rfl⟩
theorem own_ef_rm_valOw (m : MethodId) (x0 : Int32) : entryFrame m #[(.int x0)] 1 = mkF m 0 #[.val (.int x0)] [] := by first | (simp [entryFrame, mkF, argsToLocals, Value.category]; done) | rfl
theorem od5_26 : decode jdk_42_method_139_code 26 = .ok (.new 10, 3) := by decide +kernel
theorem od5_29 : decode jdk_42_method_139_code 29 = .ok (.dup, 1) := by decide +kernel
theorem od5_30 : decode jdk_42_method_139_code 30 = .ok (.iload_n 0, 1) := by decide +kernel
theorem od5_31 : decode jdk_42_method_139_code 31 = .ok (.invokestatic 1021, 3) := by decide +kernel
theorem od5_34 : decode jdk_42_method_139_code 34 = .ok (.iconst 1, 1) := by decide +kernel
theorem od5_35 : decode jdk_42_method_139_code 35 = .ok (.invokespecial 209, 3) := by decide +kernel
theorem od5_38 : decode jdk_42_method_139_code 38 = .ok (.areturn, 1) := by decide +kernel
def Q_rm_valOw (Z : State) (g_CS : Int32) (p0 : Int32) (h0 : Heap) (n0 : Nat) (v : Option Value) (h : Heap) (L : List Loc) : Prop := ∃ (ob : Addr), v = some (.ref ob) ∧ Fr n0 L ∧ Keep h0 h [] ∧ h0.size ≤ ob ∧ Exa Z h ob "java/lang/String" ∧ Fld Z h ob "java/lang/String" "coder" "B" (.int 1)
set_option maxRecDepth 65536 in
set_option maxHeartbeats 40000000 in
theorem rm_valOw (l : Launch) (Z : State) (a0 : Array Value) (hw : ∀ d ∈ tables_1, d.before a0 Z = true) (ws : List Jvm.Cond) (S_AD : Sta Z Z.heap "java/lang/StringUTF16" "$assertionsDisabled" "Z" (.int 1)) (S_HI : Sta Z Z.heap "java/lang/StringUTF16" "HI_BYTE_SHIFT" "I" (.int 0)) (S_LO : Sta Z Z.heap "java/lang/StringUTF16" "LO_BYTE_SHIFT" "I" (.int 8)) (g_CS : Int32) (S_CS : Sta Z Z.heap "java/lang/String" "COMPACT_STRINGS" "Z" (.int g_CS)) (nz_CS : ¬ (g_CS = (0 : Int32))) (p0 : Int32) (h0 : Heap) (n0 : Nat) (X00 : Old Z n0 h0) (hbg : (255 : Int32) < p0) :
    MetFree l (⟨"java/lang/String", "valueOf", "(C)Ljava/lang/String;"⟩ : MethodName) (head1 (Jvm.Cond.code (⟨"java/lang/String", "valueOf", "(C)Ljava/lang/String;"⟩ : MethodName) jdk_42_method_139_code 1 (some (.object "java/lang/String")) :: ws) ({ frames := 2, cells := 2, slots := 6, locals := 29 } : Room)) (fun a U => a = #[(.int p0)] ∧ Z.Warmed39 U.vm ∧ U.heap = h0) (fun _ _ _ _ _ => True) (fun _ U o U' => ∃ v L, o = .returned v ∧ Q_rm_valOw Z g_CS p0 h0 n0 v U'.heap L ∧ FrameEnd U o U' L ({ frames := 2, cells := 2, slots := 6, locals := 29 } : Room).cells ({ frames := 2, cells := 2, slots := 6, locals := 29 } : Room).slots) := by
 refine MetFree.of_bodySF (plainFor_of_name own_pn0) hisR ?_
 intro p e s m args below meth c s₁ Bd hml0 hP hK
 obtain ⟨rfl, hZ, hh⟩ := hP
 have hx := Bd.exec
 have hby := Bd.bytes
 have hml : c.maxLocals = 1 := hml0
 have hown : s.vm.findClass "java/lang/String" = some m.cls := findClass_of_methodNamed Bd.named
 have hnm := (name_of_methodNamed Bd.named Bd.method).1
 have X0 : Stand p l e ({ frames := 2, cells := 2, slots := 6, locals := 29 } : Room) s m #[(.int p0)] below meth c s₁ [] 0 0 := Stand.of_body Bd
 have e0 : s₁.heap = h0 := by rw [← hh, Bd.state]; rfl
 have N0 := Fr.nil n0
 refine Go.start fun P hPend => ?_
 refine Go.st (fun _ k => castTop (own_ef_rm_valOw m p0) k) ?_
 show Go _ _ _ _ (s₁.setTop (mkF m 0 #[lI p0] []))
 obtain ⟨T1, X1, e1, st1⟩ := getS2 X0 hx hZ hown (host := "") (Or.inl (ow hw 22 rfl)) Via.refl e0 (S_CS.ext X00.2) (g := (mkF m 0 #[lI p0] [])) rfl (hb hby od5_0)
 refine Go.st st1 ?_
 show Go _ _ _ _ (T1.setTop (mkF m 3 #[lI p0] [(.int g_CS)]))
 have hb2 : ¬ (g_CS = (0 : Int32)) := nz_CS
 refine Go.st (fun _ => XS.ifNo X1.here hx rfl (hb hby od5_3) rfl ((if0 _ _).trans (feq hb2).1)) ?_
 show Go _ _ _ _ (T1.setTop (mkF m 6 #[lI p0] []))
 refine Go.st (fun _ => XS.iloadN X1.here hx rfl (hb hby od5_6) rfl) ?_
 show Go _ _ _ _ (T1.setTop (mkF m 7 #[lI p0] [(.int p0)]))
 obtain ⟨_, _, ⟨T3, L3, k3, n3⟩, -, X3, ⟨Lc3, hQ3, l3, y3, z3⟩, st3⟩ := Jvm.LawKit.callS X1 hx (y := (⟨"java/lang/StringLatin1", "canEncode", "(C)Z"⟩ : MethodName)) hown (mvT hZ (ow hw 108 rfl)) (mvT hZ (ow hw 109 rfl)) (mvT hZ (ow hw 67 rfl)) (mvT hZ (ow hw 110 rfl)) (by decide) (backOf (W := 0) (rm_canEn0 l Z a0 hw [] S_AD S_HI S_LO g_CS S_CS nz_CS p0 h0 n0 X00 hbg) hZ (ow hw 110 rfl) (ow hw 67 rfl) (by decide) (by decide)) (g := (mkF m 7 #[lI p0] [(.int p0)])) rfl (by rw [hml]; rfl) (argsL := [(.int p0)]) (rest := []) (lenOf own_pd1 rfl) rfl (by show 2 * 0 + _ ≤ _; exact Nat.le_of_eq rfl) (hb hby od5_7) (fun _ _ => ⟨rfl, e1, (by decide : 0 + 0 ≤ _), (by decide : 0 + 0 ≤ _)⟩)
 dsimp only [Pt.U, Pt.locs, Pt.cells, Pt.slots] at X3 l3 y3 z3 st3 hQ3
 subst y3 z3
 refine Go.st st3 ?_
 obtain ⟨rfl, N3q, e3⟩ := hQ3
 have N3 : Fr n0 L3 := by rw [l3]; exact Fr.app N0 N3q
 show Go _ _ _ _ (T3.setTop (mkF m 10 #[lI p0] [(.int 0)]))
 refine Go.st (fun _ => XS.ifYes X3.here hx rfl (pc0 := 10) (pc' := 26) rfl (hb hby od5_10) rfl ((if0 _ _).trans (teq (by decide)).1) (by decide) (by decide)) ?_
 show Go _ _ _ _ (T3.setTop (mkF m 26 #[lI p0] []))
 obtain ⟨T4, h4, X4, e4, E4, A4, D4, -, st4⟩ := newO X3 hx hZ hown (ow hw 64 rfl) (ow hw 10 rfl) (ow hw 11 rfl) e3 (g := (mkF m 26 #[lI p0] [])) rfl (hb hby od5_26) (by decide) (by decide)
 obtain ⟨b4, g4⟩ : ∃ z, z = h0.size := ⟨_, rfl⟩
 rw [← g4] at A4 D4 st4
 refine Go.st st4 ?_
 have g_b4 : n0 ≤ b4 := Nat.le_trans (own_oldsz X00) (Nat.le_of_eq g4.symm)
 have sz_b4 : h0.size ≤ b4 := Nat.le_trans (Keep.refl h0 []).1 (Nat.le_of_eq g4.symm)
 have K4 : Keep h0 h4 [] := (Keep.refl h0 []).ext E4
 have O4 := X00.ext E4
 have F5 : Fld Z h4 b4 "java/lang/String" "coder" "B" (.int 0) := D4 (Or.inr (ow hw 35 rfl)) (ty := .byte) (by decide)
 have F6 : Fld Z h4 b4 "java/lang/String" "value" "[B" .null := D4 (Or.inr (ow hw 37 rfl)) (ty := (.array .byte)) (by decide)
 show Go _ _ _ _ (T4.setTop (mkF m 29 #[lI p0] [(.ref b4)]))
 refine Go.st (fun _ => XS.dup X4.here hx rfl (hb hby od5_29) rfl rfl) ?_
 refine Go.st (fun _ => XS.iloadN X4.here hx rfl (hb hby od5_30) rfl) ?_
 show Go _ _ _ _ (T4.setTop (mkF m 31 #[lI p0] [(.int p0), (.ref b4), (.ref b4)]))
 obtain ⟨_, _, ⟨T7, L7, k7, n7⟩, -, X7, ⟨Lc7, hQ7, l7, y7, z7⟩, st7⟩ := Jvm.LawKit.callS X4 hx (y := (⟨"java/lang/StringUTF16", "toBytes", "(C)[B"⟩ : MethodName)) hown (mvT hZ (ow hw 111 rfl)) (mvT hZ (ow hw 112 rfl)) (mvT hZ (ow hw 25 rfl)) (mvT hZ (ow hw 113 rfl)) (by decide) (backOf (W := 2) (rm_u16b1 l Z a0 hw [] S_AD S_HI S_LO g_CS S_CS nz_CS p0 h4 n0 O4 ) hZ (ow hw 113 rfl) (ow hw 25 rfl) (by decide) (by decide)) (g := (mkF m 31 #[lI p0] [(.int p0), (.ref b4), (.ref b4)])) rfl (by rw [hml]; rfl) (argsL := [(.int p0)]) (rest := [(.ref b4), (.ref b4)]) (lenOf own_pd2 rfl) rfl (by show 2 * 0 + _ ≤ _; exact Nat.le_of_eq rfl) (hb hby od5_31) (fun _ _ => ⟨rfl, e4, (by decide : 1 + 1 ≤ _), (by decide : 4 + 2 ≤ _)⟩)
 dsimp only [Pt.U, Pt.locs, Pt.cells, Pt.slots] at X7 l7 y7 z7 st7 hQ7
 subst y7 z7
 refine Go.st st7 ?_
 obtain ⟨ob_8, kb_9, rfl, N7q, K7q, q7_0⟩ := hQ7
 have N7 : Fr n0 L7 := by rw [l7]; exact Fr.app N3 N7q
 have O7 := O4.keep K7q all0
 have K7 : Keep h0 T7.heap [] := K4.trans K7q all0
 have sz_ob_8 : h0.size ≤ ob_8 := Nat.le_trans K4.1 q7_0
 have g_ob_8 : n0 ≤ ob_8 := Nat.le_trans (own_oldsz X00) sz_ob_8
 show Go _ _ _ _ (T7.setTop (mkF m 34 #[lI p0] [(.ref ob_8), (.ref b4), (.ref b4)]))
 refine Go.st (fun _ => XS.iconst X7.here hx rfl (hb hby od5_34)) ?_
 show Go _ _ _ _ (T7.setTop (mkF m 35 #[lI p0] [(.int 1), (.ref ob_8), (.ref b4), (.ref b4)]))
 have c11 := (A4.keep K7q)
 have c12 := (F6.keep K7q nin0)
 have c13 := (F5.keep K7q nin0)
 obtain ⟨_, _, ⟨T10, L10, k10, n10⟩, -, X10, ⟨Lc10, hQ10, l10, y10, z10⟩, st10⟩ := X7.specialBack hx (y := (⟨"java/lang/String", "<init>", "([BB)V"⟩ : MethodName)) rfl hown (mvT hZ (ow hw 120 rfl)) (mvT hZ (ow hw 121 rfl)) (mvT hZ (ow hw 122 rfl)) (by decide) (backOf (W := 1) (rm_sBB l Z a0 hw [] g_CS S_CS nz_CS b4 ob_8 (1 : Int32) T7.heap n0 O7 c11 c12 c13 g_b4 rfl rfl) hZ (ow hw 122 rfl) (ow hw 11 rfl) (by decide) (by decide)) (g := (mkF m 35 #[lI p0] [(.int 1), (.ref ob_8), (.ref b4), (.ref b4)])) rfl (by rw [hml]; rfl) (Steps.refl _) (a := b4) (argsL := [(.ref ob_8), (.int 1)]) (rest := [(.ref b4)]) (lenOf own_pd3 rfl) rfl (by show 2 * 0 + _ ≤ _; exact Nat.le_of_eq rfl) (hb hby od5_35) (fun _ _ => ⟨rfl, rfl, (by decide : 2 + 0 ≤ _), (by decide : 6 + 0 ≤ _)⟩)
 dsimp only [Pt.U, Pt.locs, Pt.cells, Pt.slots] at X10 l10 y10 z10 st10 hQ10
 subst y10 z10
 refine Go.tr st10 ?_
 obtain ⟨rfl, N10q, K10q, q10_0, q10_1, q10_2⟩ := hQ10
 have N10 : Fr n0 L10 := by rw [l10]; exact Fr.app N7 N10q
 have O10 := O7.keep K10q (allS g_b4 all0)
 have K10 : Keep h0 T10.heap [] := K7.trans K10q (allS (Or.inr sz_b4) all0)
 show Go _ _ _ _ (T10.setTop (mkF m 38 #[lI p0] [(.ref b4)]))
 obtain ⟨fs, hr, hrun, hended, hW, hsame⟩ := X10.leave (v := some (.ref b4)) (fun h => by rw [Bd.returns] at h; cases h)
 refine ⟨_, ?_, hPend _ _ hrun hended ⟨_, _, rfl, ?_, ⟨_, rfl⟩, hW, hsame.mono (by decide) (by decide)⟩⟩
 ·exact retOut X10 hx (t := (.object "java/lang/String")) Bd.returns rfl (Or.inr (Or.inr (Or.inr (Or.inr ⟨rfl, rfl, rfl⟩)))) (hb hby od5_38) hr
 ·show Q_rm_valOw Z _ _ h0 n0 _ T10.heap _
  exact ⟨b4, rfl, N10, K10, sz_b4, q10_0, q10_2⟩
theorem own_ef_rm_eqn (m : MethodId) (x0 : Addr) : entryFrame m #[(.ref x0), .null] 3 = mkF m 0 #[.val (.ref x0), .val .null, .unset] [] := by first | (simp [entryFrame, mkF, argsToLocals, Value.category]; done) | rfl
theorem od21_0 : decode jdk_42_method_66_code 0 = .ok (.aload_n 0, 1) := by decide +kernel
theorem od21_1 : decode jdk_42_method_66_code 1 = .ok (.aload_n 1, 1) := by decide +kernel
theorem od21_2 : decode jdk_42_method_66_code 2 = .ok (.if_acmp .ne 5, 3) := by decide +kernel
theorem od21_7 : decode jdk_42_method_66_code 7 = .ok (.aload_n 1, 1) := by decide +kernel
theorem od21_8 : decode jdk_42_method_66_code 8 = .ok (.instanceof 10, 3) := by decide +kernel
theorem od21_11 : decode jdk_42_method_66_code 11 = .ok (.ifCond .eq 43, 3) := by decide +kernel
theorem od21_54 : decode jdk_42_method_66_code 54 = .ok (.iconst 0, 1) := by decide +kernel
theorem od21_55 : decode jdk_42_method_66_code 55 = .ok (.ireturn, 1) := by decide +kernel
def Q_rm_eqn (Z : State) (g_CS : Int32) (p0 : Addr) (h0 : Heap) (n0 : Nat) (v : Option Value) (h : Heap) (L : List Loc) : Prop := v = some (.int 0) ∧ Fr n0 L ∧ h = h0
set_option maxRecDepth 65536 in
set_option maxHeartbeats 40000000 in
theorem rm_eqn (l : Launch) (Z : State) (a0 : Array Value) (hw : ∀ d ∈ tables_1, d.before a0 Z = true) (ws : List Jvm.Cond) (S_AD : Sta Z Z.heap "java/lang/StringUTF16" "$assertionsDisabled" "Z" (.int 1)) (S_HI : Sta Z Z.heap "java/lang/StringUTF16" "HI_BYTE_SHIFT" "I" (.int 0)) (S_LO : Sta Z Z.heap "java/lang/StringUTF16" "LO_BYTE_SHIFT" "I" (.int 8)) (g_CS : Int32) (S_CS : Sta Z Z.heap "java/lang/String" "COMPACT_STRINGS" "Z" (.int g_CS)) (nz_CS : ¬ (g_CS = (0 : Int32))) (p0 : Addr) (h0 : Heap) (n0 : Nat) (X00 : Old Z n0 h0)  :
    MetFree l (⟨"java/lang/String", "equals", "(Ljava/lang/Object;)Z"⟩ : MethodName) (head1 (Jvm.Cond.code (⟨"java/lang/String", "equals", "(Ljava/lang/Object;)Z"⟩ : MethodName) jdk_42_method_66_code 3 (some .boolean) :: ws) ({ frames := 0, cells := 0, slots := 0, locals := 0 } : Room)) (fun a U => a = #[(.ref p0), .null] ∧ Z.Warmed39 U.vm ∧ U.heap = h0) (fun _ _ _ _ _ => True) (fun _ U o U' => ∃ v L, o = .returned v ∧ Q_rm_eqn Z g_CS p0 h0 n0 v U'.heap L ∧ FrameEnd U o U' L ({ frames := 0, cells := 0, slots := 0, locals := 0 } : Room).cells ({ frames := 0, cells := 0, slots := 0, locals := 0 } : Room).slots) := by
 refine MetFree.of_bodySF (plainFor_of_name own_pn0) hisR ?_
 intro p e s m args below meth c s₁ Bd hml0 hP hK
 obtain ⟨rfl, hZ, hh⟩ := hP
 have hx := Bd.exec
 have hby := Bd.bytes
 have hml : c.maxLocals = 3 := hml0
 have hown : s.vm.findClass "java/lang/String" = some m.cls := findClass_of_methodNamed Bd.named
 have hnm := (name_of_methodNamed Bd.named Bd.method).1
 have X0 : Stand p l e ({ frames := 0, cells := 0, slots := 0, locals := 0 } : Room) s m #[(.ref p0), .null] below meth c s₁ [] 0 0 := Stand.of_body Bd
 have e0 : s₁.heap = h0 := by rw [← hh, Bd.state]; rfl
 have N0 := Fr.nil n0
 refine Go.start fun P hPend => ?_
 refine Go.st (fun _ k => castTop (own_ef_rm_eqn m p0) k) ?_
 show Go _ _ _ _ (s₁.setTop (mkF m 0 #[lR p0, lN, lU] []))
 refine Go.st (fun _ => XS.aloadN X0.here hx rfl (hb hby od21_0) rfl rfl) ?_
 refine Go.st (fun _ => XS.aloadN X0.here hx rfl (hb hby od21_1) rfl rfl) ?_
 show Go _ _ _ _ (s₁.setTop (mkF m 2 #[lR p0, lN, lU] [.null, (.ref p0)]))
 refine Go.st (fun _ => Jvm.RoadKit.acmp (g := (mkF m 2 #[lR p0, lN, lU] [.null, (.ref p0)])) X0 hx rfl rfl rfl (pc0 := 2) (pc' := 7) (same := false) rfl (hb hby od21_2) rfl (decide_eq_false nofun) (by decide) (by decide)) ?_
 show Go _ _ _ _ (s₁.setTop (mkF m 7 #[lR p0, lN, lU] []))
 refine Go.st (fun _ => XS.aloadN X0.here hx rfl (hb hby od21_7) rfl rfl) ?_
 show Go _ _ _ _ (s₁.setTop (mkF m 8 #[lR p0, lN, lU] [.null]))
 refine Go.st (fun _ => X0.instanceofNull hx (g := (mkF m 8 #[lR p0, lN, lU] [.null])) rfl rfl (hb hby od21_8) _) ?_
 show Go _ _ _ _ (s₁.setTop (mkF m 11 #[lR p0, lN, lU] [(.int 0)]))
 refine Go.st (fun _ => XS.ifYes X0.here hx rfl (pc0 := 11) (pc' := 54) rfl (hb hby od21_11) rfl ((if0 _ _).trans (teq (by decide)).1) (by decide) (by decide)) ?_
 show Go _ _ _ _ (s₁.setTop (mkF m 54 #[lR p0, lN, lU] []))
 refine Go.st (fun _ => XS.iconst X0.here hx rfl (hb hby od21_54)) ?_
 show Go _ _ _ _ (s₁.setTop (mkF m 55 #[lR p0, lN, lU] [(.int 0)]))
 obtain ⟨fs, hr, hrun, hended, hW, hsame⟩ := X0.leave (v := some (.int 0)) (fun h => by rw [Bd.returns] at h; cases h)
 refine ⟨_, ?_, hPend _ _ hrun hended ⟨_, _, rfl, ?_, ⟨_, rfl⟩, hW, hsame.mono (by decide) (by decide)⟩⟩
 ·exact retN X0 hx (t := .boolean) Bd.returns (by simp) (hb hby od21_55) hr
 ·show Q_rm_eqn Z _ _ h0 n0 _ s₁.heap _
  rw [e0]
  exact ⟨rfl, N0, rfl⟩
theorem own_ef_rm_eqw (m : MethodId) (x0 : Addr) (x1 : Addr) : entryFrame m #[(.ref x0), (.ref x1)] 3 = mkF m 0 #[.val (.ref x0), .val (.ref x1), .unset] [] := by first | (simp [entryFrame, mkF, argsToLocals, Value.category]; done) | rfl
theorem od21_14 : decode jdk_42_method_66_code 14 = .ok (.aload_n 1, 1) := by decide +kernel
theorem od21_15 : decode jdk_42_method_66_code 15 = .ok (.checkcast 10, 3) := by decide +kernel
theorem od21_18 : decode jdk_42_method_66_code 18 = .ok (.astore_n 2, 1) := by decide +kernel
theorem od21_19 : decode jdk_42_method_66_code 19 = .ok (.getstatic 38, 3) := by decide +kernel
theorem od21_22 : decode jdk_42_method_66_code 22 = .ok (.ifCond .eq 14, 3) := by decide +kernel
theorem od21_25 : decode jdk_42_method_66_code 25 = .ok (.aload_n 0, 1) := by decide +kernel
theorem od21_26 : decode jdk_42_method_66_code 26 = .ok (.getfield 15, 3) := by decide +kernel
theorem od21_29 : decode jdk_42_method_66_code 29 = .ok (.aload_n 2, 1) := by decide +kernel
theorem od21_30 : decode jdk_42_method_66_code 30 = .ok (.getfield 15, 3) := by decide +kernel
theorem od21_33 : decode jdk_42_method_66_code 33 = .ok (.if_icmp .ne 21, 3) := by decide +kernel
def Q_rm_eqw (Z : State) (g_CS : Int32) (p0 : Addr) (p1 : Addr) (h0 : Heap) (n0 : Nat) (v : Option Value) (h : Heap) (L : List Loc) : Prop := v = some (.int 0) ∧ Fr n0 L ∧ h = h0
set_option maxRecDepth 65536 in
set_option maxHeartbeats 40000000 in
theorem rm_eqw (l : Launch) (Z : State) (a0 : Array Value) (hw : ∀ d ∈ tables_1, d.before a0 Z = true) (ws : List Jvm.Cond) (S_AD : Sta Z Z.heap "java/lang/StringUTF16" "$assertionsDisabled" "Z" (.int 1)) (S_HI : Sta Z Z.heap "java/lang/StringUTF16" "HI_BYTE_SHIFT" "I" (.int 0)) (S_LO : Sta Z Z.heap "java/lang/StringUTF16" "LO_BYTE_SHIFT" "I" (.int 8)) (g_CS : Int32) (S_CS : Sta Z Z.heap "java/lang/String" "COMPACT_STRINGS" "Z" (.int g_CS)) (nz_CS : ¬ (g_CS = (0 : Int32))) (p0 : Addr) (p1 : Addr) (h0 : Heap) (n0 : Nat) (X00 : Old Z n0 h0) (hp0 : Exa Z h0 p0 "java/lang/String") (hp1 : Fld Z h0 p0 "java/lang/String" "coder" "B" (.int 0)) (hp2 : Exa Z h0 p1 "java/lang/String") (hp3 : Fld Z h0 p1 "java/lang/String" "coder" "B" (.int 1)) :
    MetFree l (⟨"java/lang/String", "equals", "(Ljava/lang/Object;)Z"⟩ : MethodName) (head1 (Jvm.Cond.code (⟨"java/lang/String", "equals", "(Ljava/lang/Object;)Z"⟩ : MethodName) jdk_42_method_66_code 3 (some .boolean) :: ws) ({ frames := 0, cells := 0, slots := 0, locals := 0 } : Room)) (fun a U => a = #[(.ref p0), (.ref p1)] ∧ Z.Warmed39 U.vm ∧ U.heap = h0) (fun _ _ _ _ _ => True) (fun _ U o U' => ∃ v L, o = .returned v ∧ Q_rm_eqw Z g_CS p0 p1 h0 n0 v U'.heap L ∧ FrameEnd U o U' L ({ frames := 0, cells := 0, slots := 0, locals := 0 } : Room).cells ({ frames := 0, cells := 0, slots := 0, locals := 0 } : Room).slots) := by
 refine MetFree.of_bodySF (plainFor_of_name own_pn0) hisR ?_
 intro p e s m args below meth c s₁ Bd hml0 hP hK
 obtain ⟨rfl, hZ, hh⟩ := hP
 have hx := Bd.exec
 have hby := Bd.bytes
 have hml : c.maxLocals = 3 := hml0
 have hown : s.vm.findClass "java/lang/String" = some m.cls := findClass_of_methodNamed Bd.named
 have hnm := (name_of_methodNamed Bd.named Bd.method).1
 have X0 : Stand p l e ({ frames := 0, cells := 0, slots := 0, locals := 0 } : Room) s m #[(.ref p0), (.ref p1)] below meth c s₁ [] 0 0 := Stand.of_body Bd
 have e0 : s₁.heap = h0 := by rw [← hh, Bd.state]; rfl
 have N0 := Fr.nil n0
 refine Go.start fun P hPend => ?_
 refine Go.st (fun _ k => castTop (own_ef_rm_eqw m p0 p1) k) ?_
 show Go _ _ _ _ (s₁.setTop (mkF m 0 #[lR p0, lR p1, lU] []))
 refine Go.st (fun _ => XS.aloadN X0.here hx rfl (hb hby od21_0) rfl rfl) ?_
 refine Go.st (fun _ => XS.aloadN X0.here hx rfl (hb hby od21_1) rfl rfl) ?_
 show Go _ _ _ _ (s₁.setTop (mkF m 2 #[lR p0, lR p1, lU] [(.ref p1), (.ref p0)]))
 have hb1 : ¬ ((Value.ref p0) = (Value.ref p1)) := fun q => Fld.ne hp1 hp3 (by decide) (Value.ref.inj q)
 refine Go.st (fun _ => Jvm.RoadKit.acmp (g := (mkF m 2 #[lR p0, lR p1, lU] [(.ref p1), (.ref p0)])) X0 hx rfl rfl rfl (pc0 := 2) (pc' := 7) (same := false) rfl (hb hby od21_2) rfl (decide_eq_false hb1) (by decide) (by decide)) ?_
 show Go _ _ _ _ (s₁.setTop (mkF m 7 #[lR p0, lR p1, lU] []))
 refine Go.st (fun _ => XS.aloadN X0.here hx rfl (hb hby od21_7) rfl rfl) ?_
 show Go _ _ _ _ (s₁.setTop (mkF m 8 #[lR p0, lR p1, lU] [(.ref p1)]))
 obtain ⟨T2, X2, e2, st2⟩ := instY X0 hx hZ hown (ow hw 64 rfl) e0 (Ins.self hp2) (g := (mkF m 8 #[lR p0, lR p1, lU] [(.ref p1)])) rfl rfl (hb hby od21_8)
 refine Go.st st2 ?_
 show Go _ _ _ _ (T2.setTop (mkF m 11 #[lR p0, lR p1, lU] [(.int 1)]))
 refine Go.st (fun _ => XS.ifNo X2.here hx rfl (hb hby od21_11) rfl ((if0 _ _).trans (feq (by decide)).1)) ?_
 show Go _ _ _ _ (T2.setTop (mkF m 14 #[lR p0, lR p1, lU] []))
 refine Go.st (fun _ => XS.aloadN X2.here hx rfl (hb hby od21_14) rfl rfl) ?_
 show Go _ _ _ _ (T2.setTop (mkF m 15 #[lR p0, lR p1, lU] [(.ref p1)]))
 obtain ⟨T3, X3, e3, st3⟩ := castY X2 hx hZ hown (ow hw 64 rfl) e2 (Ins.self hp2) (g := (mkF m 15 #[lR p0, lR p1, lU] [(.ref p1)])) rfl rfl (hb hby od21_15)
 refine Go.st st3 ?_
 show Go _ _ _ _ (T3.setTop (mkF m 18 #[lR p0, lR p1, lU] [(.ref p1)]))
 refine Go.st (fun _ => XS.astoreN X3.here hx rfl (hb hby od21_18) rfl rfl (l' := #[lR p0, lR p1, lR p1]) rfl) ?_
 show Go _ _ _ _ (T3.setTop (mkF m 19 #[lR p0, lR p1, lR p1] []))
 obtain ⟨T4, X4, e4, st4⟩ := getS2 X3 hx hZ hown (host := "") (Or.inl (ow hw 22 rfl)) Via.refl e3 (S_CS.ext X00.2) (g := (mkF m 19 #[lR p0, lR p1, lR p1] [])) rfl (hb hby od21_19)
 refine Go.st st4 ?_
 show Go _ _ _ _ (T4.setTop (mkF m 22 #[lR p0, lR p1, lR p1] [(.int g_CS)]))
 have hb5 : ¬ (g_CS = (0 : Int32)) := nz_CS
 refine Go.st (fun _ => XS.ifNo X4.here hx rfl (hb hby od21_22) rfl ((if0 _ _).trans (feq hb5).1)) ?_
 show Go _ _ _ _ (T4.setTop (mkF m 25 #[lR p0, lR p1, lR p1] []))
 refine Go.st (fun _ => XS.aloadN X4.here hx rfl (hb hby od21_25) rfl rfl) ?_
 show Go _ _ _ _ (T4.setTop (mkF m 26 #[lR p0, lR p1, lR p1] [(.ref p0)]))
 obtain ⟨T6, X6, e6, st6⟩ := getF X4 hx hZ hown (host := "") (Or.inl (ow hw 34 rfl)) Via.refl e4 hp1 (g := (mkF m 26 #[lR p0, lR p1, lR p1] [(.ref p0)])) rfl rfl (hb hby od21_26)
 refine Go.st st6 ?_
 show Go _ _ _ _ (T6.setTop (mkF m 29 #[lR p0, lR p1, lR p1] [(.int 0)]))
 refine Go.st (fun _ => XS.aloadN X6.here hx rfl (hb hby od21_29) rfl rfl) ?_
 show Go _ _ _ _ (T6.setTop (mkF m 30 #[lR p0, lR p1, lR p1] [(.ref p1), (.int 0)]))
 obtain ⟨T7, X7, e7, st7⟩ := getF X6 hx hZ hown (host := "") (Or.inl (ow hw 34 rfl)) Via.refl e6 hp3 (g := (mkF m 30 #[lR p0, lR p1, lR p1] [(.ref p1), (.int 0)])) rfl rfl (hb hby od21_30)
 refine Go.st st7 ?_
 show Go _ _ _ _ (T7.setTop (mkF m 33 #[lR p0, lR p1, lR p1] [(.int 1), (.int 0)]))
 refine Go.st (fun _ => XS.icmpYes X7.here hx rfl (pc0 := 33) (pc' := 54) rfl (hb hby od21_33) rfl (feq (by decide)).2 (by decide) (by decide)) ?_
 show Go _ _ _ _ (T7.setTop (mkF m 54 #[lR p0, lR p1, lR p1] []))
 refine Go.st (fun _ => XS.iconst X7.here hx rfl (hb hby od21_54)) ?_
 show Go _ _ _ _ (T7.setTop (mkF m 55 #[lR p0, lR p1, lR p1] [(.int 0)]))
 obtain ⟨fs, hr, hrun, hended, hW, hsame⟩ := X7.leave (v := some (.int 0)) (fun h => by rw [Bd.returns] at h; cases h)
 refine ⟨_, ?_, hPend _ _ hrun hended ⟨_, _, rfl, ?_, ⟨_, rfl⟩, hW, hsame.mono (by decide) (by decide)⟩⟩
 ·exact retN X7 hx (t := .boolean) Bd.returns (by simp) (hb hby od21_55) hr
 ·show Q_rm_eqw Z _ _ _ h0 n0 _ T7.heap _
  rw [e7]
  exact ⟨rfl, N0, rfl⟩
theorem own_ef_rm_vals (m : MethodId)  : entryFrame m #[] 0 = mkF m 0 #[] [] := by first | (simp [entryFrame, mkF, argsToLocals, Value.category]; done) | rfl
theorem own_pn5 : plainName "com/example/tidewall/tidewall/ledger/AccountClass" = true := by first | (simp [plainName, overriddenIn]; done) | decide +kernel
theorem od22_0 : decode prog_34_method_1_code 0 = .ok (.getstatic 10, 3) := by decide +kernel
theorem od22_3 : decode prog_34_method_1_code 3 = .ok (.invokevirtual 14, 3) := by decide +kernel
theorem od22_6 : decode prog_34_method_1_code 6 = .ok (.checkcast 15, 3) := by decide +kernel
theorem od22_9 : decode prog_34_method_1_code 9 = .ok (.areturn, 1) := by decide +kernel
def Q_rm_vals (Z : State) (w_C : Addr) (w_P : Addr) (w_V : Addr) (k_V : ClassId) (h0 : Heap) (n0 : Nat) (v : Option Value) (h : Heap) (L : List Loc) : Prop := ∃ (ob : Addr), v = some (.ref ob) ∧ Fr n0 L ∧ Keep h0 h [] ∧ h0.size ≤ ob ∧ Arv Z h ob k_V (.object "com/example/tidewall/tidewall/ledger/AccountClass") (2 : Int32) [(.ref w_C), (.ref w_P)] .null
set_option maxRecDepth 65536 in
set_option maxHeartbeats 40000000 in
theorem rm_vals (l : Launch) (Z : State) (a0 : Array Value) (hw : ∀ d ∈ tables_1, d.before a0 Z = true) (ws : List Jvm.Cond) (w_C : Addr) (w_P : Addr) (w_V : Addr) (k_V : ClassId) (S_V : Sta Z Z.heap "com/example/tidewall/tidewall/ledger/AccountClass" "$VALUES" "[Lcom/example/tidewall/tidewall/ledger/AccountClass;" (.ref w_V)) (X_V : Exa Z Z.heap w_V "[Lcom/example/tidewall/tidewall/ledger/AccountClass;") (V_V : Arv Z Z.heap w_V k_V (.object "com/example/tidewall/tidewall/ledger/AccountClass") (2 : Int32) [(.ref w_C), (.ref w_P)] .null) (h0 : Heap) (n0 : Nat) (X00 : Old Z n0 h0)  :
    MetFree l (⟨"com/example/tidewall/tidewall/ledger/AccountClass", "values", "()[Lcom/example/tidewall/tidewall/ledger/AccountClass;"⟩ : MethodName) (head1 (Jvm.Cond.code (⟨"com/example/tidewall/tidewall/ledger/AccountClass", "values", "()[Lcom/example/tidewall/tidewall/ledger/AccountClass;"⟩ : MethodName) prog_34_method_1_code 0 (some (.array (.object "com/example/tidewall/tidewall/ledger/AccountClass"))) :: ws) ({ frames := 1, cells := 1, slots := 2, locals := 14 } : Room)) (fun a U => a = #[] ∧ Z.Warmed39 U.vm ∧ U.heap = h0) (fun _ _ _ _ _ => True) (fun _ U o U' => ∃ v L, o = .returned v ∧ Q_rm_vals Z w_C w_P w_V k_V h0 n0 v U'.heap L ∧ FrameEnd U o U' L ({ frames := 1, cells := 1, slots := 2, locals := 14 } : Room).cells ({ frames := 1, cells := 1, slots := 2, locals := 14 } : Room).slots) := by
 refine MetFree.of_bodySF (plainFor_of_name own_pn5) hisR ?_
 intro p e s m args below meth c s₁ Bd hml0 hP hK
 obtain ⟨rfl, hZ, hh⟩ := hP
 have hx := Bd.exec
 have hby := Bd.bytes
 have hml : c.maxLocals = 0 := hml0
 have hown : s.vm.findClass "com/example/tidewall/tidewall/ledger/AccountClass" = some m.cls := findClass_of_methodNamed Bd.named
 have hnm := (name_of_methodNamed Bd.named Bd.method).1
 have X0 : Stand p l e ({ frames := 1, cells := 1, slots := 2, locals := 14 } : Room) s m #[] below meth c s₁ [] 0 0 := Stand.of_body Bd
 have e0 : s₁.heap = h0 := by rw [← hh, Bd.state]; rfl
 have N0 := Fr.nil n0
 refine Go.start fun P hPend => ?_
 refine Go.st (fun _ k => castTop (own_ef_rm_vals m ) k) ?_
 show Go _ _ _ _ (s₁.setTop (mkF m 0 #[] []))
 obtain ⟨T1, X1, e1, st1⟩ := getS2 X0 hx hZ hown (host := "") (Or.inl (ow hw 44 rfl)) Via.refl e0 (S_V.ext X00.2) (g := (mkF m 0 #[] [])) rfl (hb hby od22_0)
 refine Go.st st1 ?_
 show Go _ _ _ _ (T1.setTop (mkF m 3 #[] [(.ref w_V)]))
 obtain ⟨T2, h2, X2, e2, E2, A2, B2, st2⟩ := cloneH X1 hx hZ hown (ow hw 46 rfl) (ow hw 47 rfl) (ow hw 51 rfl) (ow hw 49 rfl) (ow hw 50 rfl) (ow hw 52 rfl) e1 (Arv.arh (V_V.ext X00.2)) (X_V.ext X00.2) (g := (mkF m 3 #[] [(.ref w_V)])) rfl (by rw [hml]; rfl) rfl (hb hby od22_3) (by decide) (W := 0) (cap := 2) (by show 2 * 0 + _ ≤ _; exact Nat.le_of_eq rfl) (by decide) (by decide) (by decide) (by decide)
 obtain ⟨b2, g2⟩ : ∃ z, z = h0.size := ⟨_, rfl⟩
 rw [← g2] at A2 B2 st2
 refine Go.st st2 ?_
 have g_b2 : n0 ≤ b2 := Nat.le_trans (own_oldsz X00) (Nat.le_of_eq g2.symm)
 have sz_b2 : h0.size ≤ b2 := Nat.le_trans (Keep.refl h0 []).1 (Nat.le_of_eq g2.symm)
 have K2 : Keep h0 h2 [] := (Keep.refl h0 []).ext E2
 have O2 := X00.ext E2
 have V2 : Arv Z h2 b2 k_V (.object "com/example/tidewall/tidewall/ledger/AccountClass") (2 : Int32) [(.ref w_C), (.ref w_P)] .null := A2
 show Go _ _ _ _ (T2.setTop (mkF m 6 #[] [(.ref b2)]))
 obtain ⟨T3, X3, e3, st3⟩ := castY X2 hx hZ hown (ow hw 55 rfl) e2 (Ins.self B2) (g := (mkF m 6 #[] [(.ref b2)])) rfl rfl (hb hby od22_6)
 refine Go.st st3 ?_
 show Go _ _ _ _ (T3.setTop (mkF m 9 #[] [(.ref b2)]))
 obtain ⟨fs, hr, hrun, hended, hW, hsame⟩ := X3.leave (v := some (.ref b2)) (fun h => by rw [Bd.returns] at h; cases h)
 refine ⟨_, ?_, hPend _ _ hrun hended ⟨_, _, rfl, ?_, ⟨_, rfl⟩, hW, hsame.mono (by decide) (by decide)⟩⟩
 ·exact retOut X3 hx (t := (.array (.object "com/example/tidewall/tidewall/ledger/AccountClass"))) Bd.returns rfl (Or.inr (Or.inr (Or.inr (Or.inr ⟨rfl, rfl, rfl⟩)))) (hb hby od22_9) hr
 ·show Q_rm_vals Z _ _ _ _ h0 n0 _ T3.heap _
  rw [e3]
  exact ⟨b2, rfl, N0, K2, sz_b2, V2⟩
theorem own_ef_rm_byN (m : MethodId)  : entryFrame m #[.null] 5 = mkF m 0 #[.val .null, .unset, .unset, .unset, .unset] [] := by first | (simp [entryFrame, mkF, argsToLocals, Value.category]; done) | rfl
theorem od23_0 : decode prog_34_method_5_code 0 = .ok (.invokestatic 33, 3) := by decide +kernel
theorem own_pd13 : parseMethodDescriptor "()[Lcom/example/tidewall/tidewall/ledger/AccountClass;" = some ⟨[], some (.array (.object "com/example/tidewall/tidewall/ledger/AccountClass"))⟩ := by decide +kernel
theorem od23_3 : decode prog_34_method_5_code 3 = .ok (.astore_n 1, 1) := by decide +kernel
theorem od23_4 : decode prog_34_method_5_code 4 = .ok (.aload_n 1, 1) := by decide +kernel
theorem od23_5 : decode prog_34_method_5_code 5 = .ok (.arraylength, 1) := by decide +kernel
theorem od23_6 : decode prog_34_method_5_code 6 = .ok (.istore_n 2, 1) := by decide +kernel
theorem od23_7 : decode prog_34_method_5_code 7 = .ok (.iconst 0, 1) := by decide +kernel
theorem od23_8 : decode prog_34_method_5_code 8 = .ok (.istore_n 3, 1) := by decide +kernel
theorem od23_9 : decode prog_34_method_5_code 9 = .ok (.iload_n 3, 1) := by decide +kernel
theorem od23_10 : decode prog_34_method_5_code 10 = .ok (.iload_n 2, 1) := by decide +kernel
theorem od23_11 : decode prog_34_method_5_code 11 = .ok (.if_icmp .ge 32, 3) := by decide +kernel
theorem od23_14 : decode prog_34_method_5_code 14 = .ok (.aload_n 1, 1) := by decide +kernel
theorem od23_15 : decode prog_34_method_5_code 15 = .ok (.iload_n 3, 1) := by decide +kernel
theorem od23_16 : decode prog_34_method_5_code 16 = .ok (.aaload, 1) := by decide +kernel
theorem od23_17 : decode prog_34_method_5_code 17 = .ok (.astore 4, 2) := by decide +kernel
theorem od23_19 : decode prog_34_method_5_code 19 = .ok (.aload 4, 2) := by decide +kernel
theorem od23_21 : decode prog_34_method_5_code 21 = .ok (.getfield 29, 3) := by decide +kernel
theorem od23_24 : decode prog_34_method_5_code 24 = .ok (.aload_n 0, 1) := by decide +kernel
theorem od23_25 : decode prog_34_method_5_code 25 = .ok (.invokevirtual 37, 3) := by decide +kernel
theorem own_pd14 : parseMethodDescriptor "(Ljava/lang/Object;)Z" = some ⟨[(.object "java/lang/Object")], some .boolean⟩ := by decide +kernel
theorem od23_28 : decode prog_34_method_5_code 28 = .ok (.ifCond .eq 9, 3) := by decide +kernel
theorem od23_37 : decode prog_34_method_5_code 37 = .ok (.iinc 3 1, 3) := by decide +kernel
theorem od23_40 : decode prog_34_method_5_code 40 = .ok (.goto (-31), 3) := by decide +kernel
theorem od23_43 : decode prog_34_method_5_code 43 = .ok (.invokestatic 49, 3) := by decide +kernel
theorem own_pd15 : parseMethodDescriptor "()Ljava/util/Optional;" = some ⟨[], some (.object "java/util/Optional")⟩ := by decide +kernel
theorem od23_46 : decode prog_34_method_5_code 46 = .ok (.areturn, 1) := by decide +kernel
def Q_rm_byN (Z : State) (w_C : Addr) (w_P : Addr) (w_V : Addr) (k_V : ClassId) (w_CS : Addr) (w_CB : Addr) (k_CB : ClassId) (w_PS : Addr) (w_PB : Addr) (k_PB : ClassId) (w_OE : Addr) (g_CS : Int32) (g_SF : Value) (h0 : Heap) (n0 : Nat) (v : Option Value) (h : Heap) (L : List Loc) : Prop := v = some (.ref w_OE) ∧ Fr n0 L ∧ Keep h0 h []
set_option maxRecDepth 65536 in
set_option maxHeartbeats 40000000 in
theorem rm_byN (l : Launch) (Z : State) (a0 : Array Value) (hw : ∀ d ∈ tables_1, d.before a0 Z = true) (ws : List Jvm.Cond) (w_C : Addr) (S_C : Sta Z Z.heap "com/example/tidewall/tidewall/ledger/AccountClass" "CUSTOMER" "Lcom/example/tidewall/tidewall/ledger/AccountClass;" (.ref w_C)) (X_C : Exa Z Z.heap w_C "com/example/tidewall/tidewall/ledger/AccountClass") (w_P : Addr) (S_P : Sta Z Z.heap "com/example/tidewall/tidewall/ledger/AccountClass" "PROPRIETARY" "Lcom/example/tidewall/tidewall/ledger/AccountClass;" (.ref w_P)) (X_P : Exa Z Z.heap w_P "com/example/tidewall/tidewall/ledger/AccountClass") (w_V : Addr) (k_V : ClassId) (S_V : Sta Z Z.heap "com/example/tidewall/tidewall/ledger/AccountClass" "$VALUES" "[Lcom/example/tidewall/tidewall/ledger/AccountClass;" (.ref w_V)) (X_V : Exa Z Z.heap w_V "[Lcom/example/tidewall/tidewall/ledger/AccountClass;") (V_V : Arv Z Z.heap w_V k_V (.object "com/example/tidewall/tidewall/ledger/AccountClass") (2 : Int32) [(.ref w_C), (.ref w_P)] .null) (w_CS : Addr) (F_CS : Fld Z Z.heap w_C "com/example/tidewall/tidewall/ledger/AccountClass" "id" "Ljava/lang/String;" (.ref w_CS)) (X_CS : Exa Z Z.heap w_CS "java/lang/String") (I_CS_coder : Fld Z Z.heap w_CS "java/lang/String" "coder" "B" (.int 0)) (w_CB : Addr) (k_CB : ClassId) (F_CB : Fld Z Z.heap w_CS "java/lang/String" "value" "[B" (.ref w_CB)) (V_CB : Arv Z Z.heap w_CB k_CB .byte (8 : Int32) [(.int 99), (.int 117), (.int 115), (.int 116), (.int 111), (.int 109), (.int 101), (.int 114)] (.int 0)) (w_PS : Addr) (F_PS : Fld Z Z.heap w_P "com/example/tidewall/tidewall/ledger/AccountClass" "id" "Ljava/lang/String;" (.ref w_PS)) (X_PS : Exa Z Z.heap w_PS "java/lang/String") (I_PS_coder : Fld Z Z.heap w_PS "java/lang/String" "coder" "B" (.int 0)) (w_PB : Addr) (k_PB : ClassId) (F_PB : Fld Z Z.heap w_PS "java/lang/String" "value" "[B" (.ref w_PB)) (V_PB : Arv Z Z.heap w_PB k_PB .byte (11 : Int32) [(.int 112), (.int 114), (.int 111), (.int 112), (.int 114), (.int 105), (.int 101), (.int 116), (.int 97), (.int 114), (.int 121)] (.int 0)) (S_AD : Sta Z Z.heap "java/lang/StringUTF16" "$assertionsDisabled" "Z" (.int 1)) (S_HI : Sta Z Z.heap "java/lang/StringUTF16" "HI_BYTE_SHIFT" "I" (.int 0)) (S_LO : Sta Z Z.heap "java/lang/StringUTF16" "LO_BYTE_SHIFT" "I" (.int 8)) (w_OE : Addr) (S_OE : Sta Z Z.heap "java/util/Optional" "EMPTY" "Ljava/util/Optional;" (.ref w_OE)) (X_OE : Exa Z Z.heap w_OE "java/util/Optional") (I_OE_value : Fld Z Z.heap w_OE "java/util/Optional" "value" "Ljava/lang/Object;" .null) (g_CS : Int32) (S_CS : Sta Z Z.heap "java/lang/String" "COMPACT_STRINGS" "Z" (.int g_CS)) (nz_CS : ¬ (g_CS = (0 : Int32))) (g_SF : Value) (S_SF : Sta Z Z.heap "jdk/internal/util/Preconditions" "SIOOBE_FORMATTER" "Ljava/util/function/BiFunction;" g_SF) (r_SF : g_SF.isRef = true) (h0 : Heap) (n0 : Nat) (X00 : Old Z n0 h0)  :
    MetFree l (⟨"com/example/tidewall/tidewall/ledger/AccountClass", "byId", "(Ljava/lang/String;)Ljava/util/Optional;"⟩ : MethodName) (head1 (Jvm.Cond.code (⟨"com/example/tidewall/tidewall/ledger/AccountClass", "byId", "(Ljava/lang/String;)Ljava/util/Optional;"⟩ : MethodName) prog_34_method_5_code 5 (some (.object "java/util/Optional")) :: ws) ({ frames := 2, cells := 1, slots := 2, locals := 25 } : Room)) (fun a U => a = #[.null] ∧ Z.Warmed39 U.vm ∧ U.heap = h0) (fun _ _ _ _ _ => True) (fun _ U o U' => ∃ v L, o = .returned v ∧ Q_rm_byN Z w_C w_P w_V k_V w_CS w_CB k_CB w_PS w_PB k_PB w_OE g_CS g_SF h0 n0 v U'.heap L ∧ FrameEnd U o U' L ({ frames := 2, cells := 1, slots := 2, locals := 25 } : Room).cells ({ frames := 2, cells := 1, slots := 2, locals := 25 } : Room).slots) := by
 refine MetFree.of_bodySF (plainFor_of_name own_pn5) hisR ?_
 intro p e s m args below meth c s₁ Bd hml0 hP hK
 obtain ⟨rfl, hZ, hh⟩ := hP
 have hx := Bd.exec
 have hby := Bd.bytes
 have hml : c.maxLocals = 5 := hml0
 have hown : s.vm.findClass "com/example/tidewall/tidewall/ledger/AccountClass" = some m.cls := findClass_of_methodNamed Bd.named
 have hnm := (name_of_methodNamed Bd.named Bd.method).1
 have X0 : Stand p l e ({ frames := 2, cells := 1, slots := 2, locals := 25 } : Room) s m #[.null] below meth c s₁ [] 0 0 := Stand.of_body Bd
 have e0 : s₁.heap = h0 := by rw [← hh, Bd.state]; rfl
 have N0 := Fr.nil n0
 refine Go.start fun P hPend => ?_
 refine Go.st (fun _ k => castTop (own_ef_rm_byN m ) k) ?_
 show Go _ _ _ _ (s₁.setTop (mkF m 0 #[lN, lU, lU, lU, lU] []))
 obtain ⟨_, _, ⟨T1, L1, k1, n1⟩, -, X1, ⟨Lc1, hQ1, l1, y1, z1⟩, st1⟩ := Jvm.LawKit.callS X0 hx (y := (⟨"com/example/tidewall/tidewall/ledger/AccountClass", "values", "()[Lcom/example/tidewall/tidewall/ledger/AccountClass;"⟩ : MethodName)) hown (mvT hZ (ow hw 41 rfl)) (mvT hZ (ow hw 42 rfl)) (mvT hZ (ow hw 7 rfl)) (mvT hZ (ow hw 43 rfl)) (by decide) (backOf (W := 0) (rm_vals l Z a0 hw [] w_C w_P w_V k_V S_V X_V V_V h0 n0 X00 ) hZ (ow hw 43 rfl) (ow hw 7 rfl) (by decide) (by decide)) (g := (mkF m 0 #[lN, lU, lU, lU, lU] [])) rfl (by rw [hml]; rfl) (argsL := []) (rest := []) (lenOf own_pd13 rfl) rfl (by show 2 * 0 + _ ≤ _; exact Nat.le_of_eq rfl) (hb hby od23_0) (fun _ _ => ⟨rfl, e0, (by decide : 0 + 1 ≤ _), (by decide : 0 + 2 ≤ _)⟩)
 dsimp only [Pt.U, Pt.locs, Pt.cells, Pt.slots] at X1 l1 y1 z1 st1 hQ1
 subst y1 z1
 refine Go.st st1 ?_
 obtain ⟨ob_2, rfl, N1q, K1q, q1_0, q1_1⟩ := hQ1
 have N1 : Fr n0 L1 := by rw [l1]; exact Fr.app N0 N1q
 have O1 := X00.keep K1q all0
 have K1 : Keep h0 T1.heap [] := (Keep.refl h0 []).trans K1q all0
 have sz_ob_2 : h0.size ≤ ob_2 := Nat.le_trans (Keep.refl h0 []).1 q1_0
 have g_ob_2 : n0 ≤ ob_2 := Nat.le_trans (own_oldsz X00) sz_ob_2
 show Go _ _ _ _ (T1.setTop (mkF m 3 #[lN, lU, lU, lU, lU] [(.ref ob_2)]))
 refine Go.st (fun _ => XS.astoreN X1.here hx rfl (hb hby od23_3) rfl rfl (l' := #[lN, lR ob_2, lU, lU, lU]) rfl) ?_
 show Go _ _ _ _ (T1.setTop (mkF m 4 #[lN, lR ob_2, lU, lU, lU] []))
 refine Go.st (fun _ => XS.aloadN X1.here hx rfl (hb hby od23_4) rfl rfl) ?_
 show Go _ _ _ _ (T1.setTop (mkF m 5 #[lN, lR ob_2, lU, lU, lU] [(.ref ob_2)]))
 refine Go.st (fun _ => own_len X1 hx hZ rfl q1_1 (g := (mkF m 5 #[lN, lR ob_2, lU, lU, lU] [(.ref ob_2)])) rfl rfl (hb hby od23_5) _) ?_
 show Go _ _ _ _ (T1.setTop (mkF m 6 #[lN, lR ob_2, lU, lU, lU] [(.int 2)]))
 refine Go.st (fun _ => XS.istoreN X1.here hx rfl (hb hby od23_6) rfl (l' := #[lN, lR ob_2, lI (2 : Int32), lU, lU]) rfl) ?_
 show Go _ _ _ _ (T1.setTop (mkF m 7 #[lN, lR ob_2, lI (2 : Int32), lU, lU] []))
 refine Go.st (fun _ => XS.iconst X1.here hx rfl (hb hby od23_7)) ?_
 show Go _ _ _ _ (T1.setTop (mkF m 8 #[lN, lR ob_2, lI (2 : Int32), lU, lU] [(.int 0)]))
 refine Go.st (fun _ => XS.istoreN X1.here hx rfl (hb hby od23_8) rfl (l' := #[lN, lR ob_2, lI (2 : Int32), lI (0 : Int32), lU]) rfl) ?_
 show Go _ _ _ _ (T1.setTop (mkF m 9 #[lN, lR ob_2, lI (2 : Int32), lI (0 : Int32), lU] []))
 refine Go.st (fun _ => XS.iloadN X1.here hx rfl (hb hby od23_9) rfl) ?_
 refine Go.st (fun _ => XS.iloadN X1.here hx rfl (hb hby od23_10) rfl) ?_
 show Go _ _ _ _ (T1.setTop (mkF m 11 #[lN, lR ob_2, lI (2 : Int32), lI (0 : Int32), lU] [(.int 2), (.int 0)]))
 refine Go.st (fun _ => XS.icmpNo X1.here hx rfl (hb hby od23_11) rfl (tlt (by decide)).2.1) ?_
 show Go _ _ _ _ (T1.setTop (mkF m 14 #[lN, lR ob_2, lI (2 : Int32), lI (0 : Int32), lU] []))
 refine Go.st (fun _ => XS.aloadN X1.here hx rfl (hb hby od23_14) rfl rfl) ?_
 refine Go.st (fun _ => XS.iloadN X1.here hx rfl (hb hby od23_15) rfl) ?_
 show Go _ _ _ _ (T1.setTop (mkF m 16 #[lN, lR ob_2, lI (2 : Int32), lI (0 : Int32), lU] [(.int 0), (.ref ob_2)]))
 refine Go.st (fun _ => own_ldR X1 hx hZ rfl q1_1 (j := (0 : Int32)) (i := 0) (v := (.ref w_C)) (by decide) (by decide) rfl (g := (mkF m 16 #[lN, lR ob_2, lI (2 : Int32), lI (0 : Int32), lU] [(.int 0), (.ref ob_2)])) rfl rfl (hb hby od23_16) _) ?_
 show Go _ _ _ _ (T1.setTop (mkF m 17 #[lN, lR ob_2, lI (2 : Int32), lI (0 : Int32), lU] [(.ref w_C)]))
 refine Go.st (fun _ => XS.astore X1.here hx rfl (hb hby od23_17) rfl rfl (l' := #[lN, lR ob_2, lI (2 : Int32), lI (0 : Int32), lR w_C]) rfl) ?_
 show Go _ _ _ _ (T1.setTop (mkF m 19 #[lN, lR ob_2, lI (2 : Int32), lI (0 : Int32), lR w_C] []))
 refine Go.st (fun _ => XS.aload X1.here hx rfl (hb hby od23_19) rfl rfl) ?_
 show Go _ _ _ _ (T1.setTop (mkF m 21 #[lN, lR ob_2, lI (2 : Int32), lI (0 : Int32), lR w_C] [(.ref w_C)]))
 obtain ⟨T4, X4, e4, st4⟩ := getF X1 hx hZ hown (host := "") (Or.inl (ow hw 57 rfl)) Via.refl rfl (F_CS.ext O1.2) (g := (mkF m 21 #[lN, lR ob_2, lI (2 : Int32), lI (0 : Int32), lR w_C] [(.ref w_C)])) rfl rfl (hb hby od23_21)
 refine Go.st st4 ?_
 show Go _ _ _ _ (T4.setTop (mkF m 24 #[lN, lR ob_2, lI (2 : Int32), lI (0 : Int32), lR w_C] [(.ref w_CS)]))
 refine Go.st (fun _ => XS.aloadN X4.here hx rfl (hb hby od23_24) rfl rfl) ?_
 show Go _ _ _ _ (T4.setTop (mkF m 25 #[lN, lR ob_2, lI (2 : Int32), lI (0 : Int32), lR w_C] [.null, (.ref w_CS)]))
 obtain ⟨cq5, kq5, q5a, q5b, q5c⟩ := isOf hZ e4 (X_CS.ext O1.2)
 obtain ⟨_, _, ⟨T5, L5, k5, n5⟩, -, X5, ⟨Lc5, hQ5, l5, y5, z5⟩, st5⟩ := X4.virtualBack hx (y := (⟨"java/lang/String", "equals", "(Ljava/lang/Object;)Z"⟩ : MethodName)) (z := (⟨"java/lang/String", "equals", "(Ljava/lang/Object;)Z"⟩ : MethodName)) hown (mvT hZ (ow hw 59 rfl)) (mvT hZ (ow hw 60 rfl)) (notFace_of_selects (args := #[]) (mvT hZ (ow hw 62 rfl))) (mvT hZ (ow hw 62 rfl)) (mvT hZ (ow hw 61 rfl)) (by decide) (backOf (W := 0) (rm_eqn l Z a0 hw [] S_AD S_HI S_LO g_CS S_CS nz_CS w_CS T1.heap n0 O1 ) hZ (ow hw 63 rfl) (ow hw 11 rfl) (by decide) (by decide)) q5a q5c (g := (mkF m 25 #[lN, lR ob_2, lI (2 : Int32), lI (0 : Int32), lR w_C] [.null, (.ref w_CS)])) rfl (by rw [hml]; rfl) (Steps.refl _) (argsL := [.null]) (rest := []) (lenOf own_pd14 rfl) rfl (by show 2 * 0 + _ ≤ _; exact Nat.le_of_eq rfl) (hb hby od23_25) (fun _ _ => ⟨rfl, e4, (by decide : 1 + 0 ≤ _), (by decide : 2 + 0 ≤ _)⟩)
 dsimp only [Pt.U, Pt.locs, Pt.cells, Pt.slots] at X5 l5 y5 z5 st5 hQ5
 subst y5 z5
 refine Go.tr st5 ?_
 obtain ⟨rfl, N5q, e5⟩ := hQ5
 have N5 : Fr n0 L5 := by rw [l5]; exact Fr.app N1 N5q
 show Go _ _ _ _ (T5.setTop (mkF m 28 #[lN, lR ob_2, lI (2 : Int32), lI (0 : Int32), lR w_C] [(.int 0)]))
 refine Go.st (fun _ => XS.ifYes X5.here hx rfl (pc0 := 28) (pc' := 37) rfl (hb hby od23_28) rfl ((if0 _ _).trans (teq (by decide)).1) (by decide) (by decide)) ?_
 show Go _ _ _ _ (T5.setTop (mkF m 37 #[lN, lR ob_2, lI (2 : Int32), lI (0 : Int32), lR w_C] []))
 refine Go.st (fun _ => XS.iinc X5.here hx rfl (hb hby od23_37) rfl (l' := #[lN, lR ob_2, lI (2 : Int32), lI (1 : Int32), lR w_C]) rfl) ?_
 show Go _ _ _ _ (T5.setTop (mkF m 40 #[lN, lR ob_2, lI (2 : Int32), lI (1 : Int32), lR w_C] []))
 refine Go.st (fun _ => XS.goto X5.here hx rfl (pc0 := 40) (pc' := 9) rfl (hb hby od23_40) (by decide) (by decide)) ?_
 show Go _ _ _ _ (T5.setTop (mkF m 9 #[lN, lR ob_2, lI (2 : Int32), lI (1 : Int32), lR w_C] []))
 refine Go.st (fun _ => XS.iloadN X5.here hx rfl (hb hby od23_9) rfl) ?_
 refine Go.st (fun _ => XS.iloadN X5.here hx rfl (hb hby od23_10) rfl) ?_
 show Go _ _ _ _ (T5.setTop (mkF m 11 #[lN, lR ob_2, lI (2 : Int32), lI (1 : Int32), lR w_C] [(.int 2), (.int 1)]))
 refine Go.st (fun _ => XS.icmpNo X5.here hx rfl (hb hby od23_11) rfl (tlt (by decide)).2.1) ?_
 show Go _ _ _ _ (T5.setTop (mkF m 14 #[lN, lR ob_2, lI (2 : Int32), lI (1 : Int32), lR w_C] []))
 refine Go.st (fun _ => XS.aloadN X5.here hx rfl (hb hby od23_14) rfl rfl) ?_
 refine Go.st (fun _ => XS.iloadN X5.here hx rfl (hb hby od23_15) rfl) ?_
 show Go _ _ _ _ (T5.setTop (mkF m 16 #[lN, lR ob_2, lI (2 : Int32), lI (1 : Int32), lR w_C] [(.int 1), (.ref ob_2)]))
 refine Go.st (fun _ => own_ldR X5 hx hZ e5 q1_1 (j := (1 : Int32)) (i := 1) (v := (.ref w_P)) (by decide) (by decide) rfl (g := (mkF m 16 #[lN, lR ob_2, lI (2 : Int32), lI (1 : Int32), lR w_C] [(.int 1), (.ref ob_2)])) rfl rfl (hb hby od23_16) _) ?_
 show Go _ _ _ _ (T5.setTop (mkF m 17 #[lN, lR ob_2, lI (2 : Int32), lI (1 : Int32), lR w_C] [(.ref w_P)]))
 refine Go.st (fun _ => XS.astore X5.here hx rfl (hb hby od23_17) rfl rfl (l' := #[lN, lR ob_2, lI (2 : Int32), lI (1 : Int32), lR w_P]) rfl) ?_
 show Go _ _ _ _ (T5.setTop (mkF m 19 #[lN, lR ob_2, lI (2 : Int32), lI (1 : Int32), lR w_P] []))
 refine Go.st (fun _ => XS.aload X5.here hx rfl (hb hby od23_19) rfl rfl) ?_
 show Go _ _ _ _ (T5.setTop (mkF m 21 #[lN, lR ob_2, lI (2 : Int32), lI (1 : Int32), lR w_P] [(.ref w_P)]))
 obtain ⟨T7, X7, e7, st7⟩ := getF X5 hx hZ hown (host := "") (Or.inl (ow hw 57 rfl)) Via.refl e5 (F_PS.ext O1.2) (g := (mkF m 21 #[lN, lR ob_2, lI (2 : Int32), lI (1 : Int32), lR w_P] [(.ref w_P)])) rfl rfl (hb hby od23_21)
 refine Go.st st7 ?_
 show Go _ _ _ _ (T7.setTop (mkF m 24 #[lN, lR ob_2, lI (2 : Int32), lI (1 : Int32), lR w_P] [(.ref w_PS)]))
 refine Go.st (fun _ => XS.aloadN X7.here hx rfl (hb hby od23_24) rfl rfl) ?_
 show Go _ _ _ _ (T7.setTop (mkF m 25 #[lN, lR ob_2, lI (2 : Int32), lI (1 : Int32), lR w_P] [.null, (.ref w_PS)]))
 obtain ⟨cq8, kq8, q8a, q8b, q8c⟩ := isOf hZ e7 (X_PS.ext O1.2)
 obtain ⟨_, _, ⟨T8, L8, k8, n8⟩, -, X8, ⟨Lc8, hQ8, l8, y8, z8⟩, st8⟩ := X7.virtualBack hx (y := (⟨"java/lang/String", "equals", "(Ljava/lang/Object;)Z"⟩ : MethodName)) (z := (⟨"java/lang/String", "equals", "(Ljava/lang/Object;)Z"⟩ : MethodName)) hown (mvT hZ (ow hw 59 rfl)) (mvT hZ (ow hw 60 rfl)) (notFace_of_selects (args := #[]) (mvT hZ (ow hw 62 rfl))) (mvT hZ (ow hw 62 rfl)) (mvT hZ (ow hw 61 rfl)) (by decide) (backOf (W := 0) (rm_eqn l Z a0 hw [] S_AD S_HI S_LO g_CS S_CS nz_CS w_PS T1.heap n0 O1 ) hZ (ow hw 63 rfl) (ow hw 11 rfl) (by decide) (by decide)) q8a q8c (g := (mkF m 25 #[lN, lR ob_2, lI (2 : Int32), lI (1 : Int32), lR w_P] [.null, (.ref w_PS)])) rfl (by rw [hml]; rfl) (Steps.refl _) (argsL := [.null]) (rest := []) (lenOf own_pd14 rfl) rfl (by show 2 * 0 + _ ≤ _; exact Nat.le_of_eq rfl) (hb hby od23_25) (fun _ _ => ⟨rfl, e7, (by decide : 1 + 0 ≤ _), (by decide : 2 + 0 ≤ _)⟩)
 dsimp only [Pt.U, Pt.locs, Pt.cells, Pt.slots] at X8 l8 y8 z8 st8 hQ8
 subst y8 z8
 refine Go.tr st8 ?_
 obtain ⟨rfl, N8q, e8⟩ := hQ8
 have N8 : Fr n0 L8 := by rw [l8]; exact Fr.app N5 N8q
 show Go _ _ _ _ (T8.setTop (mkF m 28 #[lN, lR ob_2, lI (2 : Int32), lI (1 : Int32), lR w_P] [(.int 0)]))
 refine Go.st (fun _ => XS.ifYes X8.here hx rfl (pc0 := 28) (pc' := 37) rfl (hb hby od23_28) rfl ((if0 _ _).trans (teq (by decide)).1) (by decide) (by decide)) ?_
 show Go _ _ _ _ (T8.setTop (mkF m 37 #[lN, lR ob_2, lI (2 : Int32), lI (1 : Int32), lR w_P] []))
 refine Go.st (fun _ => XS.iinc X8.here hx rfl (hb hby od23_37) rfl (l' := #[lN, lR ob_2, lI (2 : Int32), lI (2 : Int32), lR w_P]) rfl) ?_
 show Go _ _ _ _ (T8.setTop (mkF m 40 #[lN, lR ob_2, lI (2 : Int32), lI (2 : Int32), lR w_P] []))
 refine Go.st (fun _ => XS.goto X8.here hx rfl (pc0 := 40) (pc' := 9) rfl (hb hby od23_40) (by decide) (by decide)) ?_
 show Go _ _ _ _ (T8.setTop (mkF m 9 #[lN, lR ob_2, lI (2 : Int32), lI (2 : Int32), lR w_P] []))
 refine Go.st (fun _ => XS.iloadN X8.here hx rfl (hb hby od23_9) rfl) ?_
 refine Go.st (fun _ => XS.iloadN X8.here hx rfl (hb hby od23_10) rfl) ?_
 show Go _ _ _ _ (T8.setTop (mkF m 11 #[lN, lR ob_2, lI (2 : Int32), lI (2 : Int32), lR w_P] [(.int 2), (.int 2)]))
 refine Go.st (fun _ => XS.icmpYes X8.here hx rfl (pc0 := 11) (pc' := 43) rfl (hb hby od23_11) rfl (flt (by decide)).2.1 (by decide) (by decide)) ?_
 show Go _ _ _ _ (T8.setTop (mkF m 43 #[lN, lR ob_2, lI (2 : Int32), lI (2 : Int32), lR w_P] []))
 obtain ⟨_, _, ⟨T9, L9, k9, n9⟩, -, X9, ⟨Lc9, hQ9, l9, y9, z9⟩, st9⟩ := Jvm.LawKit.callS X8 hx (y := (⟨"java/util/Optional", "empty", "()Ljava/util/Optional;"⟩ : MethodName)) hown (mvT hZ (ow hw 101 rfl)) (mvT hZ (ow hw 102 rfl)) (mvT hZ (ow hw 71 rfl)) (mvT hZ (ow hw 103 rfl)) (by decide) (backOf (W := 0) (rm_oem l Z a0 hw [] w_OE S_OE X_OE I_OE_value T1.heap n0 O1 ) hZ (ow hw 103 rfl) (ow hw 71 rfl) (by decide) (by decide)) (g := (mkF m 43 #[lN, lR ob_2, lI (2 : Int32), lI (2 : Int32), lR w_P] [])) rfl (by rw [hml]; rfl) (argsL := []) (rest := []) (lenOf own_pd15 rfl) rfl (by show 2 * 0 + _ ≤ _; exact Nat.le_of_eq rfl) (hb hby od23_43) (fun _ _ => ⟨rfl, e8, (by decide : 1 + 0 ≤ _), (by decide : 2 + 0 ≤ _)⟩)
 dsimp only [Pt.U, Pt.locs, Pt.cells, Pt.slots] at X9 l9 y9 z9 st9 hQ9
 subst y9 z9
 refine Go.st st9 ?_
 obtain ⟨rfl, N9q, e9⟩ := hQ9
 have N9 : Fr n0 L9 := by rw [l9]; exact Fr.app N8 N9q
 show Go _ _ _ _ (T9.setTop (mkF m 46 #[lN, lR ob_2, lI (2 : Int32), lI (2 : Int32), lR w_P] [(.ref w_OE)]))
 obtain ⟨fs, hr, hrun, hended, hW, hsame⟩ := X9.leave (v := some (.ref w_OE)) (fun h => by rw [Bd.returns] at h; cases h)
 refine ⟨_, ?_, hPend _ _ hrun hended ⟨_, _, rfl, ?_, ⟨_, rfl⟩, hW, hsame.mono (by decide) (by decide)⟩⟩
 ·exact retOut X9 hx (t := (.object "java/util/Optional")) Bd.returns rfl (Or.inr (Or.inr (Or.inr (Or.inr ⟨rfl, rfl, rfl⟩)))) (hb hby od23_46) hr
 ·show Q_rm_byN Z _ _ _ _ _ _ _ _ _ _ _ _ _ h0 n0 _ T9.heap _
  rw [e9]
  exact ⟨rfl, N9, K1⟩
theorem own_ef_rm_byW (m : MethodId) (x0 : Addr) : entryFrame m #[(.ref x0)] 5 = mkF m 0 #[.val (.ref x0), .unset, .unset, .unset, .unset] [] := by first | (simp [entryFrame, mkF, argsToLocals, Value.category]; done) | rfl
def Q_rm_byW (Z : State) (w_C : Addr) (w_P : Addr) (w_V : Addr) (k_V : ClassId) (w_CS : Addr) (w_CB : Addr) (k_CB : ClassId) (w_PS : Addr) (w_PB : Addr) (k_PB : ClassId) (w_OE : Addr) (g_CS : Int32) (g_SF : Value) (p0 : Addr) (h0 : Heap) (n0 : Nat) (v : Option Value) (h : Heap) (L : List Loc) : Prop := v = some (.ref w_OE) ∧ Fr n0 L ∧ Keep h0 h []
set_option maxRecDepth 65536 in
set_option maxHeartbeats 40000000 in
theorem rm_byW (l : Launch) (Z : State) (a0 : Array Value) (hw : ∀ d ∈ tables_1, d.before a0 Z = true) (ws : List Jvm.Cond) (w_C : Addr) (S_C : Sta Z Z.heap "com/example/tidewall/tidewall/ledger/AccountClass" "CUSTOMER" "Lcom/example/tidewall/tidewall/ledger/AccountClass;" (.ref w_C)) (X_C : Exa Z Z.heap w_C "com/example/tidewall/tidewall/ledger/AccountClass") (w_P : Addr) (S_P : Sta Z Z.heap "com/example/tidewall/tidewall/ledger/AccountClass" "PROPRIETARY" "Lcom/example/tidewall/tidewall/ledger/AccountClass;" (.ref w_P)) (X_P : Exa Z Z.heap w_P "com/example/tidewall/tidewall/ledger/AccountClass") (w_V : Addr) (k_V : ClassId) (S_V : Sta Z Z.heap "com/example/tidewall/tidewall/ledger/AccountClass" "$VALUES" "[Lcom/example/tidewall/tidewall/ledger/AccountClass;" (.ref w_V)) (X_V : Exa Z Z.heap w_V "[Lcom/example/tidewall/tidewall/ledger/AccountClass;") (V_V : Arv Z Z.heap w_V k_V (.object "com/example/tidewall/tidewall/ledger/AccountClass") (2 : Int32) [(.ref w_C), (.ref w_P)] .null) (w_CS : Addr) (F_CS : Fld Z Z.heap w_C "com/example/tidewall/tidewall/ledger/AccountClass" "id" "Ljava/lang/String;" (.ref w_CS)) (X_CS : Exa Z Z.heap w_CS "java/lang/String") (I_CS_coder : Fld Z Z.heap w_CS "java/lang/String" "coder" "B" (.int 0)) (w_CB : Addr) (k_CB : ClassId) (F_CB : Fld Z Z.heap w_CS "java/lang/String" "value" "[B" (.ref w_CB)) (V_CB : Arv Z Z.heap w_CB k_CB .byte (8 : Int32) [(.int 99), (.int 117), (.int 115), (.int 116), (.int 111), (.int 109), (.int 101), (.int 114)] (.int 0)) (w_PS : Addr) (F_PS : Fld Z Z.heap w_P "com/example/tidewall/tidewall/ledger/AccountClass" "id" "Ljava/lang/String;" (.ref w_PS)) (X_PS : Exa Z Z.heap w_PS "java/lang/String") (I_PS_coder : Fld Z Z.heap w_PS "java/lang/String" "coder" "B" (.int 0)) (w_PB : Addr) (k_PB : ClassId) (F_PB : Fld Z Z.heap w_PS "java/lang/String" "value" "[B" (.ref w_PB)) (V_PB : Arv Z Z.heap w_PB k_PB .byte (11 : Int32) [(.int 112), (.int 114), (.int 111), (.int 112), (.int 114), (.int 105), (.int 101), (.int 116), (.int 97), (.int 114), (.int 121)] (.int 0)) (S_AD : Sta Z Z.heap "java/lang/StringUTF16" "$assertionsDisabled" "Z" (.int 1)) (S_HI : Sta Z Z.heap "java/lang/StringUTF16" "HI_BYTE_SHIFT" "I" (.int 0)) (S_LO : Sta Z Z.heap "java/lang/StringUTF16" "LO_BYTE_SHIFT" "I" (.int 8)) (w_OE : Addr) (S_OE : Sta Z Z.heap "java/util/Optional" "EMPTY" "Ljava/util/Optional;" (.ref w_OE)) (X_OE : Exa Z Z.heap w_OE "java/util/Optional") (I_OE_value : Fld Z Z.heap w_OE "java/util/Optional" "value" "Ljava/lang/Object;" .null) (g_CS : Int32) (S_CS : Sta Z Z.heap "java/lang/String" "COMPACT_STRINGS" "Z" (.int g_CS)) (nz_CS : ¬ (g_CS = (0 : Int32))) (g_SF : Value) (S_SF : Sta Z Z.heap "jdk/internal/util/Preconditions" "SIOOBE_FORMATTER" "Ljava/util/function/BiFunction;" g_SF) (r_SF : g_SF.isRef = true) (p0 : Addr) (h0 : Heap) (n0 : Nat) (X00 : Old Z n0 h0) (hp0 : Exa Z h0 p0 "java/lang/String") (hp1 : Fld Z h0 p0 "java/lang/String" "coder" "B" (.int 1)) :
    MetFree l (⟨"com/example/tidewall/tidewall/ledger/AccountClass", "byId", "(Ljava/lang/String;)Ljava/util/Optional;"⟩ : MethodName) (head1 (Jvm.Cond.code (⟨"com/example/tidewall/tidewall/ledger/AccountClass", "byId", "(Ljava/lang/String;)Ljava/util/Optional;"⟩ : MethodName) prog_34_method_5_code 5 (some (.object "java/util/Optional")) :: ws) ({ frames := 2, cells := 1, slots := 2, locals := 25 } : Room)) (fun a U => a = #[(.ref p0)] ∧ Z.Warmed39 U.vm ∧ U.heap = h0) (fun _ _ _ _ _ => True) (fun _ U o U' => ∃ v L, o = .returned v ∧ Q_rm_byW Z w_C w_P w_V k_V w_CS w_CB k_CB w_PS w_PB k_PB w_OE g_CS g_SF p0 h0 n0 v U'.heap L ∧ FrameEnd U o U' L ({ frames := 2, cells := 1, slots := 2, locals := 25 } : Room).cells ({ frames := 2, cells := 1, slots := 2, locals := 25 } : Room).slots) := by
 refine MetFree.of_bodySF (plainFor_of_name own_pn5) hisR ?_
 intro p e s m args below meth c s₁ Bd hml0 hP hK
 obtain ⟨rfl, hZ, hh⟩ := hP
 have hx := Bd.exec
 have hby := Bd.bytes
 have hml : c.maxLocals = 5 := hml0
 have hown : s.vm.findClass "com/example/tidewall/tidewall/ledger/AccountClass" = some m.cls := findClass_of_methodNamed Bd.named
 have hnm := (name_of_methodNamed Bd.named Bd.method).1
 have X0 : Stand p l e ({ frames := 2, cells := 1, slots := 2, locals := 25 } : Room) s m #[(.ref p0)] below meth c s₁ [] 0 0 := Stand.of_body Bd
 have e0 : s₁.heap = h0 := by rw [← hh, Bd.state]; rfl
 have N0 := Fr.nil n0
 refine Go.start fun P hPend => ?_
 refine Go.st (fun _ k => castTop (own_ef_rm_byW m p0) k) ?_
 show Go _ _ _ _ (s₁.setTop (mkF m 0 #[lR p0, lU, lU, lU, lU] []))
 obtain ⟨_, _, ⟨T1, L1, k1, n1⟩, -, X1, ⟨Lc1, hQ1, l1, y1, z1⟩, st1⟩ := Jvm.LawKit.callS X0 hx (y := (⟨"com/example/tidewall/tidewall/ledger/AccountClass", "values", "()[Lcom/example/tidewall/tidewall/ledger/AccountClass;"⟩ : MethodName)) hown (mvT hZ (ow hw 41 rfl)) (mvT hZ (ow hw 42 rfl)) (mvT hZ (ow hw 7 rfl)) (mvT hZ (ow hw 43 rfl)) (by decide) (backOf (W := 0) (rm_vals l Z a0 hw [] w_C w_P w_V k_V S_V X_V V_V h0 n0 X00 ) hZ (ow hw 43 rfl) (ow hw 7 rfl) (by decide) (by decide)) (g := (mkF m 0 #[lR p0, lU, lU, lU, lU] [])) rfl (by rw [hml]; rfl) (argsL := []) (rest := []) (lenOf own_pd13 rfl) rfl (by show 2 * 0 + _ ≤ _; exact Nat.le_of_eq rfl) (hb hby od23_0) (fun _ _ => ⟨rfl, e0, (by decide : 0 + 1 ≤ _), (by decide : 0 + 2 ≤ _)⟩)
 dsimp only [Pt.U, Pt.locs, Pt.cells, Pt.slots] at X1 l1 y1 z1 st1 hQ1
 subst y1 z1
 refine Go.st st1 ?_
 obtain ⟨ob_2, rfl, N1q, K1q, q1_0, q1_1⟩ := hQ1
 have N1 : Fr n0 L1 := by rw [l1]; exact Fr.app N0 N1q
 have O1 := X00.keep K1q all0
 have K1 : Keep h0 T1.heap [] := (Keep.refl h0 []).trans K1q all0
 have sz_ob_2 : h0.size ≤ ob_2 := Nat.le_trans (Keep.refl h0 []).1 q1_0
 have g_ob_2 : n0 ≤ ob_2 := Nat.le_trans (own_oldsz X00) sz_ob_2
 show Go _ _ _ _ (T1.setTop (mkF m 3 #[lR p0, lU, lU, lU, lU] [(.ref ob_2)]))
 refine Go.st (fun _ => XS.astoreN X1.here hx rfl (hb hby od23_3) rfl rfl (l' := #[lR p0, lR ob_2, lU, lU, lU]) rfl) ?_
 show Go _ _ _ _ (T1.setTop (mkF m 4 #[lR p0, lR ob_2, lU, lU, lU] []))
 refine Go.st (fun _ => XS.aloadN X1.here hx rfl (hb hby od23_4) rfl rfl) ?_
 show Go _ _ _ _ (T1.setTop (mkF m 5 #[lR p0, lR ob_2, lU, lU, lU] [(.ref ob_2)]))
 refine Go.st (fun _ => own_len X1 hx hZ rfl q1_1 (g := (mkF m 5 #[lR p0, lR ob_2, lU, lU, lU] [(.ref ob_2)])) rfl rfl (hb hby od23_5) _) ?_
 show Go _ _ _ _ (T1.setTop (mkF m 6 #[lR p0, lR ob_2, lU, lU, lU] [(.int 2)]))
 refine Go.st (fun _ => XS.istoreN X1.here hx rfl (hb hby od23_6) rfl (l' := #[lR p0, lR ob_2, lI (2 : Int32), lU, lU]) rfl) ?_
 show Go _ _ _ _ (T1.setTop (mkF m 7 #[lR p0, lR ob_2, lI (2 : Int32), lU, lU] []))
 refine Go.st (fun _ => XS.iconst X1.here hx rfl (hb hby od23_7)) ?_
 show Go _ _ _ _ (T1.setTop (mkF m 8 #[lR p0, lR ob_2, lI (2 : Int32), lU, lU] [(.int 0)]))
 refine Go.st (fun _ => XS.istoreN X1.here hx rfl (hb hby od23_8) rfl (l' := #[lR p0, lR ob_2, lI (2 : Int32), lI (0 : Int32), lU]) rfl) ?_
 show Go _ _ _ _ (T1.setTop (mkF m 9 #[lR p0, lR ob_2, lI (2 : Int32), lI (0 : Int32), lU] []))
 refine Go.st (fun _ => XS.iloadN X1.here hx rfl (hb hby od23_9) rfl) ?_
 refine Go.st (fun _ => XS.iloadN X1.here hx rfl (hb hby od23_10) rfl) ?_
 show Go _ _ _ _ (T1.setTop (mkF m 11 #[lR p0, lR ob_2, lI (2 : Int32), lI (0 : Int32), lU] [(.int 2), (.int 0)]))
 refine Go.st (fun _ => XS.icmpNo X1.here hx rfl (hb hby od23_11) rfl (tlt (by decide)).2.1) ?_
 show Go _ _ _ _ (T1.setTop (mkF m 14 #[lR p0, lR ob_2, lI (2 : Int32), lI (0 : Int32), lU] []))
 refine Go.st (fun _ => XS.aloadN X1.here hx rfl (hb hby od23_14) rfl rfl) ?_
 refine Go.st (fun _ => XS.iloadN X1.here hx rfl (hb hby od23_15) rfl) ?_
 show Go _ _ _ _ (T1.setTop (mkF m 16 #[lR p0, lR ob_2, lI (2 : Int32), lI (0 : Int32), lU] [(.int 0), (.ref ob_2)]))
 refine Go.st (fun _ => own_ldR X1 hx hZ rfl q1_1 (j := (0 : Int32)) (i := 0) (v := (.ref w_C)) (by decide) (by decide) rfl (g := (mkF m 16 #[lR p0, lR ob_2, lI (2 : Int32), lI (0 : Int32), lU] [(.int 0), (.ref ob_2)])) rfl rfl (hb hby od23_16) _) ?_
 show Go _ _ _ _ (T1.setTop (mkF m 17 #[lR p0, lR ob_2, lI (2 : Int32), lI (0 : Int32), lU] [(.ref w_C)]))
 refine Go.st (fun _ => XS.astore X1.here hx rfl (hb hby od23_17) rfl rfl (l' := #[lR p0, lR ob_2, lI (2 : Int32), lI (0 : Int32), lR w_C]) rfl) ?_
 show Go _ _ _ _ (T1.setTop (mkF m 19 #[lR p0, lR ob_2, lI (2 : Int32), lI (0 : Int32), lR w_C] []))
 refine Go.st (fun _ => XS.aload X1.here hx rfl (hb hby od23_19) rfl rfl) ?_
 show Go _ _ _ _ (T1.setTop (mkF m 21 #[lR p0, lR ob_2, lI (2 : Int32), lI (0 : Int32), lR w_C] [(.ref w_C)]))
 obtain ⟨T4, X4, e4, st4⟩ := getF X1 hx hZ hown (host := "") (Or.inl (ow hw 57 rfl)) Via.refl rfl (F_CS.ext O1.2) (g := (mkF m 21 #[lR p0, lR ob_2, lI (2 : Int32), lI (0 : Int32), lR w_C] [(.ref w_C)])) rfl rfl (hb hby od23_21)
 refine Go.st st4 ?_
 show Go _ _ _ _ (T4.setTop (mkF m 24 #[lR p0, lR ob_2, lI (2 : Int32), lI (0 : Int32), lR w_C] [(.ref w_CS)]))
 refine Go.st (fun _ => XS.aloadN X4.here hx rfl (hb hby od23_24) rfl rfl) ?_
 show Go _ _ _ _ (T4.setTop (mkF m 25 #[lR p0, lR ob_2, lI (2 : Int32), lI (0 : Int32), lR w_C] [(.ref p0), (.ref w_CS)]))
 have c6 := (hp0.keep K1q)
 have c7 := (hp1.keep K1q nin0)
 obtain ⟨cq5, kq5, q5a, q5b, q5c⟩ := isOf hZ e4 (X_CS.ext O1.2)
 obtain ⟨_, _, ⟨T5, L5, k5, n5⟩, -, X5, ⟨Lc5, hQ5, l5, y5, z5⟩, st5⟩ := X4.virtualBack hx (y := (⟨"java/lang/String", "equals", "(Ljava/lang/Object;)Z"⟩ : MethodName)) (z := (⟨"java/lang/String", "equals", "(Ljava/lang/Object;)Z"⟩ : MethodName)) hown (mvT hZ (ow hw 59 rfl)) (mvT hZ (ow hw 60 rfl)) (notFace_of_selects (args := #[]) (mvT hZ (ow hw 62 rfl))) (mvT hZ (ow hw 62 rfl)) (mvT hZ (ow hw 61 rfl)) (by decide) (backOf (W := 0) (rm_eqw l Z a0 hw [] S_AD S_HI S_LO g_CS S_CS nz_CS w_CS p0 T1.heap n0 O1 (X_CS.ext O1.2) (I_CS_coder.ext O1.2) c6 c7) hZ (ow hw 63 rfl) (ow hw 11 rfl) (by decide) (by decide)) q5a q5c (g := (mkF m 25 #[lR p0, lR ob_2, lI (2 : Int32), lI (0 : Int32), lR w_C] [(.ref p0), (.ref w_CS)])) rfl (by rw [hml]; rfl) (Steps.refl _) (argsL := [(.ref p0)]) (rest := []) (lenOf own_pd14 rfl) rfl (by show 2 * 0 + _ ≤ _; exact Nat.le_of_eq rfl) (hb hby od23_25) (fun _ _ => ⟨rfl, e4, (by decide : 1 + 0 ≤ _), (by decide : 2 + 0 ≤ _)⟩)
 dsimp only [Pt.U, Pt.locs, Pt.cells, Pt.slots] at X5 l5 y5 z5 st5 hQ5
 subst y5 z5
 refine Go.tr st5 ?_
 obtain ⟨rfl, N5q, e5⟩ := hQ5
 have N5 : Fr n0 L5 := by rw [l5]; exact Fr.app N1 N5q
 show Go _ _ _ _ (T5.setTop (mkF m 28 #[lR p0, lR ob_2, lI (2 : Int32), lI (0 : Int32), lR w_C] [(.int 0)]))
 refine Go.st (fun _ => XS.ifYes X5.here hx rfl (pc0 := 28) (pc' := 37) rfl (hb hby od23_28) rfl ((if0 _ _).trans (teq (by decide)).1) (by decide) (by decide)) ?_
 show Go _ _ _ _ (T5.setTop (mkF m 37 #[lR p0, lR ob_2, lI (2 : Int32), lI (0 : Int32), lR w_C] []))
 refine Go.st (fun _ => XS.iinc X5.here hx rfl (hb hby od23_37) rfl (l' := #[lR p0, lR ob_2, lI (2 : Int32), lI (1 : Int32), lR w_C]) rfl) ?_
 show Go _ _ _ _ (T5.setTop (mkF m 40 #[lR p0, lR ob_2, lI (2 : Int32), lI (1 : Int32), lR w_C] []))
 refine Go.st (fun _ => XS.goto X5.here hx rfl (pc0 := 40) (pc' := 9) rfl (hb hby od23_40) (by decide) (by decide)) ?_
 show Go _ _ _ _ (T5.setTop (mkF m 9 #[lR p0, lR ob_2, lI (2 : Int32), lI (1 : Int32), lR w_C] []))
 refine Go.st (fun _ => XS.iloadN X5.here hx rfl (hb hby od23_9) rfl) ?_
 refine Go.st (fun _ => XS.iloadN X5.here hx rfl (hb hby od23_10) rfl) ?_
 show Go _ _ _ _ (T5.setTop (mkF m 11 #[lR p0, lR ob_2, lI (2 : Int32), lI (1 : Int32), lR w_C] [(.int 2), (.int 1)]))
 refine Go.st (fun _ => XS.icmpNo X5.here hx rfl (hb hby od23_11) rfl (tlt (by decide)).2.1) ?_
 show Go _ _ _ _ (T5.setTop (mkF m 14 #[lR p0, lR ob_2, lI (2 : Int32), lI (1 : Int32), lR w_C] []))
 refine Go.st (fun _ => XS.aloadN X5.here hx rfl (hb hby od23_14) rfl rfl) ?_
 refine Go.st (fun _ => XS.iloadN X5.here hx rfl (hb hby od23_15) rfl) ?_
 show Go _ _ _ _ (T5.setTop (mkF m 16 #[lR p0, lR ob_2, lI (2 : Int32), lI (1 : Int32), lR w_C] [(.int 1), (.ref ob_2)]))
 refine Go.st (fun _ => own_ldR X5 hx hZ e5 q1_1 (j := (1 : Int32)) (i := 1) (v := (.ref w_P)) (by decide) (by decide) rfl (g := (mkF m 16 #[lR p0, lR ob_2, lI (2 : Int32), lI (1 : Int32), lR w_C] [(.int 1), (.ref ob_2)])) rfl rfl (hb hby od23_16) _) ?_
 show Go _ _ _ _ (T5.setTop (mkF m 17 #[lR p0, lR ob_2, lI (2 : Int32), lI (1 : Int32), lR w_C] [(.ref w_P)]))
 refine Go.st (fun _ => XS.astore X5.here hx rfl (hb hby od23_17) rfl rfl (l' := #[lR p0, lR ob_2, lI (2 : Int32), lI (1 : Int32), lR w_P]) rfl) ?_
 show Go _ _ _ _ (T5.setTop (mkF m 19 #[lR p0, lR ob_2, lI (2 : Int32), lI (1 : Int32), lR w_P] []))
 refine Go.st (fun _ => XS.aload X5.here hx rfl (hb hby od23_19) rfl rfl) ?_
 show Go _ _ _ _ (T5.setTop (mkF m 21 #[lR p0, lR ob_2, lI (2 : Int32), lI (1 : Int32), lR w_P] [(.ref w_P)]))
 obtain ⟨T9, X9, e9, st9⟩ := getF X5 hx hZ hown (host := "") (Or.inl (ow hw 57 rfl)) Via.refl e5 (F_PS.ext O1.2) (g := (mkF m 21 #[lR p0, lR ob_2, lI (2 : Int32), lI (1 : Int32), lR w_P] [(.ref w_P)])) rfl rfl (hb hby od23_21)
 refine Go.st st9 ?_
 show Go _ _ _ _ (T9.setTop (mkF m 24 #[lR p0, lR ob_2, lI (2 : Int32), lI (1 : Int32), lR w_P] [(.ref w_PS)]))
 refine Go.st (fun _ => XS.aloadN X9.here hx rfl (hb hby od23_24) rfl rfl) ?_
 show Go _ _ _ _ (T9.setTop (mkF m 25 #[lR p0, lR ob_2, lI (2 : Int32), lI (1 : Int32), lR w_P] [(.ref p0), (.ref w_PS)]))
 obtain ⟨cq10, kq10, q10a, q10b, q10c⟩ := isOf hZ e9 (X_PS.ext O1.2)
 obtain ⟨_, _, ⟨T10, L10, k10, n10⟩, -, X10, ⟨Lc10, hQ10, l10, y10, z10⟩, st10⟩ := X9.virtualBack hx (y := (⟨"java/lang/String", "equals", "(Ljava/lang/Object;)Z"⟩ : MethodName)) (z := (⟨"java/lang/String", "equals", "(Ljava/lang/Object;)Z"⟩ : MethodName)) hown (mvT hZ (ow hw 59 rfl)) (mvT hZ (ow hw 60 rfl)) (notFace_of_selects (args := #[]) (mvT hZ (ow hw 62 rfl))) (mvT hZ (ow hw 62 rfl)) (mvT hZ (ow hw 61 rfl)) (by decide) (backOf (W := 0) (rm_eqw l Z a0 hw [] S_AD S_HI S_LO g_CS S_CS nz_CS w_PS p0 T1.heap n0 O1 (X_PS.ext O1.2) (I_PS_coder.ext O1.2) c6 c7) hZ (ow hw 63 rfl) (ow hw 11 rfl) (by decide) (by decide)) q10a q10c (g := (mkF m 25 #[lR p0, lR ob_2, lI (2 : Int32), lI (1 : Int32), lR w_P] [(.ref p0), (.ref w_PS)])) rfl (by rw [hml]; rfl) (Steps.refl _) (argsL := [(.ref p0)]) (rest := []) (lenOf own_pd14 rfl) rfl (by show 2 * 0 + _ ≤ _; exact Nat.le_of_eq rfl) (hb hby od23_25) (fun _ _ => ⟨rfl, e9, (by decide : 1 + 0 ≤ _), (by decide : 2 + 0 ≤ _)⟩)
 dsimp only [Pt.U, Pt.locs, Pt.cells, Pt.slots] at X10 l10 y10 z10 st10 hQ10
 subst y10 z10
 refine Go.tr st10 ?_
 obtain ⟨rfl, N10q, e10⟩ := hQ10
 have N10 : Fr n0 L10 := by rw [l10]; exact Fr.app N5 N10q
 show Go _ _ _ _ (T10.setTop (mkF m 28 #[lR p0, lR ob_2, lI (2 : Int32), lI (1 : Int32), lR w_P] [(.int 0)]))
 refine Go.st (fun _ => XS.ifYes X10.here hx rfl (pc0 := 28) (pc' := 37) rfl (hb hby od23_28) rfl ((if0 _ _).trans (teq (by decide)).1) (by decide) (by decide)) ?_
 show Go _ _ _ _ (T10.setTop (mkF m 37 #[lR p0, lR ob_2, lI (2 : Int32), lI (1 : Int32), lR w_P] []))
 refine Go.st (fun _ => XS.iinc X10.here hx rfl (hb hby od23_37) rfl (l' := #[lR p0, lR ob_2, lI (2 : Int32), lI (2 : Int32), lR w_P]) rfl) ?_
 show Go _ _ _ _ (T10.setTop (mkF m 40 #[lR p0, lR ob_2, lI (2 : Int32), lI (2 : Int32), lR w_P] []))
 refine Go.st (fun _ => XS.goto X10.here hx rfl (pc0 := 40) (pc' := 9) rfl (hb hby od23_40) (by decide) (by decide)) ?_
 show Go _ _ _ _ (T10.setTop (mkF m 9 #[lR p0, lR ob_2, lI (2 : Int32), lI (2 : Int32), lR w_P] []))
 refine Go.st (fun _ => XS.iloadN X10.here hx rfl (hb hby od23_9) rfl) ?_
 refine Go.st (fun _ => XS.iloadN X10.here hx rfl (hb hby od23_10) rfl) ?_
 show Go _ _ _ _ (T10.setTop (mkF m 11 #[lR p0, lR ob_2, lI (2 : Int32), lI (2 : Int32), lR w_P] [(.int 2), (.int 2)]))
 refine Go.st (fun _ => XS.icmpYes X10.here hx rfl (pc0 := 11) (pc' := 43) rfl (hb hby od23_11) rfl (flt (by decide)).2.1 (by decide) (by decide)) ?_
 show Go _ _ _ _ (T10.setTop (mkF m 43 #[lR p0, lR ob_2, lI (2 : Int32), lI (2 : Int32), lR w_P] []))
 obtain ⟨_, _, ⟨T11, L11, k11, n11⟩, -, X11, ⟨Lc11, hQ11, l11, y11, z11⟩, st11⟩ := Jvm.LawKit.callS X10 hx (y := (⟨"java/util/Optional", "empty", "()Ljava/util/Optional;"⟩ : MethodName)) hown (mvT hZ (ow hw 101 rfl)) (mvT hZ (ow hw 102 rfl)) (mvT hZ (ow hw 71 rfl)) (mvT hZ (ow hw 103 rfl)) (by decide) (backOf (W := 0) (rm_oem l Z a0 hw [] w_OE S_OE X_OE I_OE_value T1.heap n0 O1 ) hZ (ow hw 103 rfl) (ow hw 71 rfl) (by decide) (by decide)) (g := (mkF m 43 #[lR p0, lR ob_2, lI (2 : Int32), lI (2 : Int32), lR w_P] [])) rfl (by rw [hml]; rfl) (argsL := []) (rest := []) (lenOf own_pd15 rfl) rfl (by show 2 * 0 + _ ≤ _; exact Nat.le_of_eq rfl) (hb hby od23_43) (fun _ _ => ⟨rfl, e10, (by decide : 1 + 0 ≤ _), (by decide : 2 + 0 ≤ _)⟩)
 dsimp only [Pt.U, Pt.locs, Pt.cells, Pt.slots] at X11 l11 y11 z11 st11 hQ11
 subst y11 z11
 refine Go.st st11 ?_
 obtain ⟨rfl, N11q, e11⟩ := hQ11
 have N11 : Fr n0 L11 := by rw [l11]; exact Fr.app N10 N11q
 show Go _ _ _ _ (T11.setTop (mkF m 46 #[lR p0, lR ob_2, lI (2 : Int32), lI (2 : Int32), lR w_P] [(.ref w_OE)]))
 obtain ⟨fs, hr, hrun, hended, hW, hsame⟩ := X11.leave (v := some (.ref w_OE)) (fun h => by rw [Bd.returns] at h; cases h)
 refine ⟨_, ?_, hPend _ _ hrun hended ⟨_, _, rfl, ?_, ⟨_, rfl⟩, hW, hsame.mono (by decide) (by decide)⟩⟩
 ·exact retOut X11 hx (t := (.object "java/util/Optional")) Bd.returns rfl (Or.inr (Or.inr (Or.inr (Or.inr ⟨rfl, rfl, rfl⟩)))) (hb hby od23_46) hr
 ·show Q_rm_byW Z _ _ _ _ _ _ _ _ _ _ _ _ _ _ h0 n0 _ T11.heap _
  rw [e11]
  exact ⟨rfl, N11, K1⟩
theorem own_ef_rm_byc (m : MethodId) (x0 : Addr) : entryFrame m #[(.ref x0)] 5 = mkF m 0 #[.val (.ref x0), .unset, .unset, .unset, .unset] [] := by first | (simp [entryFrame, mkF, argsToLocals, Value.category]; done) | rfl
theorem od23_31 : decode prog_34_method_5_code 31 = .ok (.aload 4, 2) := by decide +kernel
theorem od23_33 : decode prog_34_method_5_code 33 = .ok (.invokestatic 43, 3) := by decide +kernel
theorem own_pd16 : parseMethodDescriptor "(Ljava/lang/Object;)Ljava/util/Optional;" = some ⟨[(.object "java/lang/Object")], some (.object "java/util/Optional")⟩ := by decide +kernel
theorem od23_36 : decode prog_34_method_5_code 36 = .ok (.areturn, 1) := by decide +kernel
def Q_rm_byc (Z : State) (w_C : Addr) (w_P : Addr) (w_V : Addr) (k_V : ClassId) (w_CS : Addr) (w_CB : Addr) (k_CB : ClassId) (w_PS : Addr) (w_PB : Addr) (k_PB : ClassId) (w_OE : Addr) (g_CS : Int32) (g_SF : Value) (p0 : Addr) (pcs : List Int32) (pv : Addr) (pk : ClassId) (h0 : Heap) (n0 : Nat) (v : Option Value) (h : Heap) (L : List Loc) : Prop := ∃ (ob : Addr), v = some (.ref ob) ∧ Fr n0 L ∧ Keep h0 h [] ∧ h0.size ≤ ob ∧ Exa Z h ob "java/util/Optional" ∧ Fld Z h ob "java/util/Optional" "value" "Ljava/lang/Object;" (.ref w_C)
set_option maxRecDepth 65536 in
set_option maxHeartbeats 40000000 in
theorem rm_byc (l : Launch) (Z : State) (a0 : Array Value) (hw : ∀ d ∈ tables_1, d.before a0 Z = true) (ws : List Jvm.Cond) (w_C : Addr) (S_C : Sta Z Z.heap "com/example/tidewall/tidewall/ledger/AccountClass" "CUSTOMER" "Lcom/example/tidewall/tidewall/ledger/AccountClass;" (.ref w_C)) (X_C : Exa Z Z.heap w_C "com/example/tidewall/tidewall/ledger/AccountClass") (w_P : Addr) (S_P : Sta Z Z.heap "com/example/tidewall/tidewall/ledger/AccountClass" "PROPRIETARY" "Lcom/example/tidewall/tidewall/ledger/AccountClass;" (.ref w_P)) (X_P : Exa Z Z.heap w_P "com/example/tidewall/tidewall/ledger/AccountClass") (w_V : Addr) (k_V : ClassId) (S_V : Sta Z Z.heap "com/example/tidewall/tidewall/ledger/AccountClass" "$VALUES" "[Lcom/example/tidewall/tidewall/ledger/AccountClass;" (.ref w_V)) (X_V : Exa Z Z.heap w_V "[Lcom/example/tidewall/tidewall/ledger/AccountClass;") (V_V : Arv Z Z.heap w_V k_V (.object "com/example/tidewall/tidewall/ledger/AccountClass") (2 : Int32) [(.ref w_C), (.ref w_P)] .null) (w_CS : Addr) (F_CS : Fld Z Z.heap w_C "com/example/tidewall/tidewall/ledger/AccountClass" "id" "Ljava/lang/String;" (.ref w_CS)) (X_CS : Exa Z Z.heap w_CS "java/lang/String") (I_CS_coder : Fld Z Z.heap w_CS "java/lang/String" "coder" "B" (.int 0)) (w_CB : Addr) (k_CB : ClassId) (F_CB : Fld Z Z.heap w_CS "java/lang/String" "value" "[B" (.ref w_CB)) (V_CB : Arv Z Z.heap w_CB k_CB .byte (8 : Int32) [(.int 99), (.int 117), (.int 115), (.int 116), (.int 111), (.int 109), (.int 101), (.int 114)] (.int 0)) (w_PS : Addr) (F_PS : Fld Z Z.heap w_P "com/example/tidewall/tidewall/ledger/AccountClass" "id" "Ljava/lang/String;" (.ref w_PS)) (X_PS : Exa Z Z.heap w_PS "java/lang/String") (I_PS_coder : Fld Z Z.heap w_PS "java/lang/String" "coder" "B" (.int 0)) (w_PB : Addr) (k_PB : ClassId) (F_PB : Fld Z Z.heap w_PS "java/lang/String" "value" "[B" (.ref w_PB)) (V_PB : Arv Z Z.heap w_PB k_PB .byte (11 : Int32) [(.int 112), (.int 114), (.int 111), (.int 112), (.int 114), (.int 105), (.int 101), (.int 116), (.int 97), (.int 114), (.int 121)] (.int 0)) (S_AD : Sta Z Z.heap "java/lang/StringUTF16" "$assertionsDisabled" "Z" (.int 1)) (S_HI : Sta Z Z.heap "java/lang/StringUTF16" "HI_BYTE_SHIFT" "I" (.int 0)) (S_LO : Sta Z Z.heap "java/lang/StringUTF16" "LO_BYTE_SHIFT" "I" (.int 8)) (w_OE : Addr) (S_OE : Sta Z Z.heap "java/util/Optional" "EMPTY" "Ljava/util/Optional;" (.ref w_OE)) (X_OE : Exa Z Z.heap w_OE "java/util/Optional") (I_OE_value : Fld Z Z.heap w_OE "java/util/Optional" "value" "Ljava/lang/Object;" .null) (g_CS : Int32) (S_CS : Sta Z Z.heap "java/lang/String" "COMPACT_STRINGS" "Z" (.int g_CS)) (nz_CS : ¬ (g_CS = (0 : Int32))) (g_SF : Value) (S_SF : Sta Z Z.heap "jdk/internal/util/Preconditions" "SIOOBE_FORMATTER" "Ljava/util/function/BiFunction;" g_SF) (r_SF : g_SF.isRef = true) (p0 : Addr) (pcs : List Int32) (pv : Addr) (pk : ClassId) (h0 : Heap) (n0 : Nat) (X00 : Old Z n0 h0) (hp0 : Exa Z h0 p0 "java/lang/String") (hp1 : Fld Z h0 p0 "java/lang/String" "coder" "B" (.int 0)) (hp2 : Fld Z h0 p0 "java/lang/String" "value" "[B" (.ref pv)) (hp3 : Arv Z h0 pv pk .byte (Int32.ofNat pcs.length) ((pcs.map StrChars.lo8).map Value.int) (.int 0)) (hpc0 : ∀ c ∈ pcs, ¬ c < 0 ∧ ¬ (255 : Int32) < c) (hle0 : pcs.length ≤ 4000) (hcn : ([99, 117, 115, 116, 111, 109, 101, 114] : List Int32) = pcs) :
    MetFree l (⟨"com/example/tidewall/tidewall/ledger/AccountClass", "byId", "(Ljava/lang/String;)Ljava/util/Optional;"⟩ : MethodName) (head1 (Jvm.Cond.code (⟨"com/example/tidewall/tidewall/ledger/AccountClass", "byId", "(Ljava/lang/String;)Ljava/util/Optional;"⟩ : MethodName) prog_34_method_5_code 5 (some (.object "java/util/Optional")) :: ws) ({ frames := 3, cells := 2, slots := 3, locals := 38 } : Room)) (fun a U => a = #[(.ref p0)] ∧ Z.Warmed39 U.vm ∧ U.heap = h0) (fun _ _ _ _ _ => True) (fun _ U o U' => ∃ v L, o = .returned v ∧ Q_rm_byc Z w_C w_P w_V k_V w_CS w_CB k_CB w_PS w_PB k_PB w_OE g_CS g_SF p0 pcs pv pk h0 n0 v U'.heap L ∧ FrameEnd U o U' L ({ frames := 3, cells := 2, slots := 3, locals := 38 } : Room).cells ({ frames := 3, cells := 2, slots := 3, locals := 38 } : Room).slots) := by
 refine MetFree.of_bodySF (plainFor_of_name own_pn5) hisR ?_
 intro p e s m args below meth c s₁ Bd hml0 hP hK
 obtain ⟨rfl, hZ, hh⟩ := hP
 have hx := Bd.exec
 have hby := Bd.bytes
 have hml : c.maxLocals = 5 := hml0
 have hown : s.vm.findClass "com/example/tidewall/tidewall/ledger/AccountClass" = some m.cls := findClass_of_methodNamed Bd.named
 have hnm := (name_of_methodNamed Bd.named Bd.method).1
 have X0 : Stand p l e ({ frames := 3, cells := 2, slots := 3, locals := 38 } : Room) s m #[(.ref p0)] below meth c s₁ [] 0 0 := Stand.of_body Bd
 have e0 : s₁.heap = h0 := by rw [← hh, Bd.state]; rfl
 have N0 := Fr.nil n0
 refine Go.start fun P hPend => ?_
 refine Go.st (fun _ k => castTop (own_ef_rm_byc m p0) k) ?_
 show Go _ _ _ _ (s₁.setTop (mkF m 0 #[lR p0, lU, lU, lU, lU] []))
 obtain ⟨_, _, ⟨T1, L1, k1, n1⟩, -, X1, ⟨Lc1, hQ1, l1, y1, z1⟩, st1⟩ := Jvm.LawKit.callS X0 hx (y := (⟨"com/example/tidewall/tidewall/ledger/AccountClass", "values", "()[Lcom/example/tidewall/tidewall/ledger/AccountClass;"⟩ : MethodName)) hown (mvT hZ (ow hw 41 rfl)) (mvT hZ (ow hw 42 rfl)) (mvT hZ (ow hw 7 rfl)) (mvT hZ (ow hw 43 rfl)) (by decide) (backOf (W := 0) (rm_vals l Z a0 hw [] w_C w_P w_V k_V S_V X_V V_V h0 n0 X00 ) hZ (ow hw 43 rfl) (ow hw 7 rfl) (by decide) (by decide)) (g := (mkF m 0 #[lR p0, lU, lU, lU, lU] [])) rfl (by rw [hml]; rfl) (argsL := []) (rest := []) (lenOf own_pd13 rfl) rfl (by show 2 * 0 + _ ≤ _; exact Nat.le_of_eq rfl) (hb hby od23_0) (fun _ _ => ⟨rfl, e0, (by decide : 0 + 1 ≤ _), (by decide : 0 + 2 ≤ _)⟩)
 dsimp only [Pt.U, Pt.locs, Pt.cells, Pt.slots] at X1 l1 y1 z1 st1 hQ1
 subst y1 z1
 refine Go.st st1 ?_
 obtain ⟨ob_2, rfl, N1q, K1q, q1_0, q1_1⟩ := hQ1
 have N1 : Fr n0 L1 := by rw [l1]; exact Fr.app N0 N1q
 have O1 := X00.keep K1q all0
 have K1 : Keep h0 T1.heap [] := (Keep.refl h0 []).trans K1q all0
 have sz_ob_2 : h0.size ≤ ob_2 := Nat.le_trans (Keep.refl h0 []).1 q1_0
 have g_ob_2 : n0 ≤ ob_2 := Nat.le_trans (own_oldsz X00) sz_ob_2
 show Go _ _ _ _ (T1.setTop (mkF m 3 #[lR p0, lU, lU, lU, lU] [(.ref ob_2)]))
 refine Go.st (fun _ => XS.astoreN X1.here hx rfl (hb hby od23_3) rfl rfl (l' := #[lR p0, lR ob_2, lU, lU, lU]) rfl) ?_
 show Go _ _ _ _ (T1.setTop (mkF m 4 #[lR p0, lR ob_2, lU, lU, lU] []))
 refine Go.st (fun _ => XS.aloadN X1.here hx rfl (hb hby od23_4) rfl rfl) ?_
 show Go _ _ _ _ (T1.setTop (mkF m 5 #[lR p0, lR ob_2, lU, lU, lU] [(.ref ob_2)]))
 refine Go.st (fun _ => own_len X1 hx hZ rfl q1_1 (g := (mkF m 5 #[lR p0, lR ob_2, lU, lU, lU] [(.ref ob_2)])) rfl rfl (hb hby od23_5) _) ?_
 show Go _ _ _ _ (T1.setTop (mkF m 6 #[lR p0, lR ob_2, lU, lU, lU] [(.int 2)]))
 refine Go.st (fun _ => XS.istoreN X1.here hx rfl (hb hby od23_6) rfl (l' := #[lR p0, lR ob_2, lI (2 : Int32), lU, lU]) rfl) ?_
 show Go _ _ _ _ (T1.setTop (mkF m 7 #[lR p0, lR ob_2, lI (2 : Int32), lU, lU] []))
 refine Go.st (fun _ => XS.iconst X1.here hx rfl (hb hby od23_7)) ?_
 show Go _ _ _ _ (T1.setTop (mkF m 8 #[lR p0, lR ob_2, lI (2 : Int32), lU, lU] [(.int 0)]))
 refine Go.st (fun _ => XS.istoreN X1.here hx rfl (hb hby od23_8) rfl (l' := #[lR p0, lR ob_2, lI (2 : Int32), lI (0 : Int32), lU]) rfl) ?_
 show Go _ _ _ _ (T1.setTop (mkF m 9 #[lR p0, lR ob_2, lI (2 : Int32), lI (0 : Int32), lU] []))
 refine Go.st (fun _ => XS.iloadN X1.here hx rfl (hb hby od23_9) rfl) ?_
 refine Go.st (fun _ => XS.iloadN X1.here hx rfl (hb hby od23_10) rfl) ?_
 show Go _ _ _ _ (T1.setTop (mkF m 11 #[lR p0, lR ob_2, lI (2 : Int32), lI (0 : Int32), lU] [(.int 2), (.int 0)]))
 refine Go.st (fun _ => XS.icmpNo X1.here hx rfl (hb hby od23_11) rfl (tlt (by decide)).2.1) ?_
 show Go _ _ _ _ (T1.setTop (mkF m 14 #[lR p0, lR ob_2, lI (2 : Int32), lI (0 : Int32), lU] []))
 refine Go.st (fun _ => XS.aloadN X1.here hx rfl (hb hby od23_14) rfl rfl) ?_
 refine Go.st (fun _ => XS.iloadN X1.here hx rfl (hb hby od23_15) rfl) ?_
 show Go _ _ _ _ (T1.setTop (mkF m 16 #[lR p0, lR ob_2, lI (2 : Int32), lI (0 : Int32), lU] [(.int 0), (.ref ob_2)]))
 refine Go.st (fun _ => own_ldR X1 hx hZ rfl q1_1 (j := (0 : Int32)) (i := 0) (v := (.ref w_C)) (by decide) (by decide) rfl (g := (mkF m 16 #[lR p0, lR ob_2, lI (2 : Int32), lI (0 : Int32), lU] [(.int 0), (.ref ob_2)])) rfl rfl (hb hby od23_16) _) ?_
 show Go _ _ _ _ (T1.setTop (mkF m 17 #[lR p0, lR ob_2, lI (2 : Int32), lI (0 : Int32), lU] [(.ref w_C)]))
 refine Go.st (fun _ => XS.astore X1.here hx rfl (hb hby od23_17) rfl rfl (l' := #[lR p0, lR ob_2, lI (2 : Int32), lI (0 : Int32), lR w_C]) rfl) ?_
 show Go _ _ _ _ (T1.setTop (mkF m 19 #[lR p0, lR ob_2, lI (2 : Int32), lI (0 : Int32), lR w_C] []))
 refine Go.st (fun _ => XS.aload X1.here hx rfl (hb hby od23_19) rfl rfl) ?_
 show Go _ _ _ _ (T1.setTop (mkF m 21 #[lR p0, lR ob_2, lI (2 : Int32), lI (0 : Int32), lR w_C] [(.ref w_C)]))
 obtain ⟨T4, X4, e4, st4⟩ := getF X1 hx hZ hown (host := "") (Or.inl (ow hw 57 rfl)) Via.refl rfl (F_CS.ext O1.2) (g := (mkF m 21 #[lR p0, lR ob_2, lI (2 : Int32), lI (0 : Int32), lR w_C] [(.ref w_C)])) rfl rfl (hb hby od23_21)
 refine Go.st st4 ?_
 show Go _ _ _ _ (T4.setTop (mkF m 24 #[lR p0, lR ob_2, lI (2 : Int32), lI (0 : Int32), lR w_C] [(.ref w_CS)]))
 refine Go.st (fun _ => XS.aloadN X4.here hx rfl (hb hby od23_24) rfl rfl) ?_
 show Go _ _ _ _ (T4.setTop (mkF m 25 #[lR p0, lR ob_2, lI (2 : Int32), lI (0 : Int32), lR w_C] [(.ref p0), (.ref w_CS)]))
 have hcd5 : StrChars.Road.CodA ([99, 117, 115, 116, 111, 109, 101, 114] : List Int32) 0 (8 : Int32) [(.int 99), (.int 117), (.int 115), (.int 116), (.int 111), (.int 109), (.int 101), (.int 114)] := StrChars.Road.codOf (n := 8) rfl (fun c hc => ((show ∀ c ∈ ([99, 117, 115, 116, 111, 109, 101, 114] : List Int32), ¬ c < 0 ∧ ¬ (255 : Int32) < c by decide) c hc).2)
 have c6 := (hp0.keep K1q)
 have c7 := (hp2.keep K1q nin0)
 have c8 := (hp1.keep K1q nin0)
 have c9 := (hp3.keep K1q nin0)
 have hcd5b : StrChars.Road.CodA pcs 0 (Int32.ofNat pcs.length) ((pcs.map StrChars.lo8).map Value.int) := StrChars.Road.codOf (n := pcs.length) rfl (fun c hc => (hpc0 c hc).2)
 obtain ⟨cq5, kq5, q5a, q5b, q5c⟩ := isOf hZ e4 (X_CS.ext O1.2)
 obtain ⟨_, _, ⟨T5, L5, k5, n5⟩, -, X5, ⟨Lc5, hQ5, l5, y5, z5⟩, st5⟩ := X4.virtualBack hx (y := (⟨"java/lang/String", "equals", "(Ljava/lang/Object;)Z"⟩ : MethodName)) (z := (⟨"java/lang/String", "equals", "(Ljava/lang/Object;)Z"⟩ : MethodName)) hown (mvT hZ (ow hw 59 rfl)) (mvT hZ (ow hw 60 rfl)) (notFace_of_selects (args := #[]) (mvT hZ (ow hw 62 rfl))) (mvT hZ (ow hw 62 rfl)) (mvT hZ (ow hw 61 rfl)) (by decide) (StrChars.Road.eqW (W := 0) hZ (fun d hd => hw d (own_wEq d hd)) (kI := 4) (ow hw 10 rfl) (X_CS.ext O1.2) (F_CB.ext O1.2) (I_CS_coder.ext O1.2) (V_CB.ext O1.2) hcd5 (own_up _ (show ∀ c ∈ ([99, 117, 115, 116, 111, 109, 101, 114] : List Int32), ¬ c < 0 ∧ ¬ (255 : Int32) < c by decide)) (Nat.le_of_ble_eq_true rfl) c6 c7 c8 c9 hcd5b (own_up _ hpc0) hle0 (S_CS.ext O1.2) nz_CS (by decide) (by decide)) q5a q5c (g := (mkF m 25 #[lR p0, lR ob_2, lI (2 : Int32), lI (0 : Int32), lR w_C] [(.ref p0), (.ref w_CS)])) rfl (by rw [hml]; rfl) (Steps.refl _) (argsL := [(.ref p0)]) (rest := []) (lenOf own_pd14 rfl) rfl (by show 2 * 0 + _ ≤ _; exact Nat.le_of_eq rfl) (hb hby od23_25) (fun _ _ => ⟨rfl, e4, (by decide : 1 + 0 ≤ _), (by decide : 2 + 0 ≤ _)⟩)
 dsimp only [Pt.U, Pt.locs, Pt.cells, Pt.slots] at X5 l5 y5 z5 st5 hQ5
 subst y5 z5
 refine Go.tr st5 ?_
 obtain ⟨hor5, rfl, e5⟩ := hQ5
 have N5 : Fr n0 L5 := by rw [l5]; exact Fr.app N1 (Fr.nil n0)
 obtain ⟨rfl, heq5⟩ : _ ∧ ([99, 117, 115, 116, 111, 109, 101, 114] : List Int32) = pcs := hor5.elim id (fun q => absurd hcn q.2)
 show Go _ _ _ _ (T5.setTop (mkF m 28 #[lR p0, lR ob_2, lI (2 : Int32), lI (0 : Int32), lR w_C] [(.int 1)]))
 refine Go.st (fun _ => XS.ifNo X5.here hx rfl (hb hby od23_28) rfl ((if0 _ _).trans (feq (by decide)).1)) ?_
 show Go _ _ _ _ (T5.setTop (mkF m 31 #[lR p0, lR ob_2, lI (2 : Int32), lI (0 : Int32), lR w_C] []))
 refine Go.st (fun _ => XS.aload X5.here hx rfl (hb hby od23_31) rfl rfl) ?_
 show Go _ _ _ _ (T5.setTop (mkF m 33 #[lR p0, lR ob_2, lI (2 : Int32), lI (0 : Int32), lR w_C] [(.ref w_C)]))
 obtain ⟨_, _, ⟨T10, L10, k10, n10⟩, -, X10, ⟨Lc10, hQ10, l10, y10, z10⟩, st10⟩ := Jvm.LawKit.callS X5 hx (y := (⟨"java/util/Optional", "of", "(Ljava/lang/Object;)Ljava/util/Optional;"⟩ : MethodName)) hown (mvT hZ (ow hw 69 rfl)) (mvT hZ (ow hw 70 rfl)) (mvT hZ (ow hw 71 rfl)) (mvT hZ (ow hw 72 rfl)) (by decide) (backOf (W := 0) (rm_oof l Z a0 hw [] w_OE S_OE X_OE I_OE_value w_C T1.heap n0 O1 ) hZ (ow hw 72 rfl) (ow hw 71 rfl) (by decide) (by decide)) (g := (mkF m 33 #[lR p0, lR ob_2, lI (2 : Int32), lI (0 : Int32), lR w_C] [(.ref w_C)])) rfl (by rw [hml]; rfl) (argsL := [(.ref w_C)]) (rest := []) (lenOf own_pd16 rfl) rfl (by show 2 * 0 + _ ≤ _; exact Nat.le_of_eq rfl) (hb hby od23_33) (fun _ _ => ⟨rfl, e5, (by decide : 1 + 1 ≤ _), (by decide : 2 + 1 ≤ _)⟩)
 dsimp only [Pt.U, Pt.locs, Pt.cells, Pt.slots] at X10 l10 y10 z10 st10 hQ10
 subst y10 z10
 refine Go.st st10 ?_
 obtain ⟨ob_11, rfl, N10q, K10q, q10_0, q10_1, q10_2⟩ := hQ10
 have N10 : Fr n0 L10 := by rw [l10]; exact Fr.app N5 N10q
 have O10 := O1.keep K10q all0
 have K10 : Keep h0 T10.heap [] := K1.trans K10q all0
 have sz_ob_11 : h0.size ≤ ob_11 := Nat.le_trans K1.1 q10_0
 have g_ob_11 : n0 ≤ ob_11 := Nat.le_trans (own_oldsz X00) sz_ob_11
 show Go _ _ _ _ (T10.setTop (mkF m 36 #[lR p0, lR ob_2, lI (2 : Int32), lI (0 : Int32), lR w_C] [(.ref ob_11)]))
 obtain ⟨fs, hr, hrun, hended, hW, hsame⟩ := X10.leave (v := some (.ref ob_11)) (fun h => by rw [Bd.returns] at h; cases h)
 refine ⟨_, ?_, hPend _ _ hrun hended ⟨_, _, rfl, ?_, ⟨_, rfl⟩, hW, hsame.mono (by decide) (by decide)⟩⟩
 ·exact retOut X10 hx (t := (.object "java/util/Optional")) Bd.returns rfl (Or.inr (Or.inr (Or.inr (Or.inr ⟨rfl, rfl, rfl⟩)))) (hb hby od23_36) hr
 ·show Q_rm_byc Z _ _ _ _ _ _ _ _ _ _ _ _ _ _ _ _ _ h0 n0 _ T10.heap _
  exact ⟨ob_11, rfl, N10, K10, sz_ob_11, q10_1, q10_2⟩
theorem own_ef_rm_byp (m : MethodId) (x0 : Addr) : entryFrame m #[(.ref x0)] 5 = mkF m 0 #[.val (.ref x0), .unset, .unset, .unset, .unset] [] := by first | (simp [entryFrame, mkF, argsToLocals, Value.category]; done) | rfl
def Q_rm_byp (Z : State) (w_C : Addr) (w_P : Addr) (w_V : Addr) (k_V : ClassId) (w_CS : Addr) (w_CB : Addr) (k_CB : ClassId) (w_PS : Addr) (w_PB : Addr) (k_PB : ClassId) (w_OE : Addr) (g_CS : Int32) (g_SF : Value) (p0 : Addr) (pcs : List Int32) (pv : Addr) (pk : ClassId) (h0 : Heap) (n0 : Nat) (v : Option Value) (h : Heap) (L : List Loc) : Prop := ∃ (ob : Addr), v = some (.ref ob) ∧ Fr n0 L ∧ Keep h0 h [] ∧ h0.size ≤ ob ∧ Exa Z h ob "java/util/Optional" ∧ Fld Z h ob "java/util/Optional" "value" "Ljava/lang/Object;" (.ref w_P)
set_option maxRecDepth 65536 in
set_option maxHeartbeats 40000000 in
theorem rm_byp (l : Launch) (Z : State) (a0 : Array Value) (hw : ∀ d ∈ tables_1, d.before a0 Z = true) (ws : List Jvm.Cond) (w_C : Addr) (S_C : Sta Z Z.heap "com/example/tidewall/tidewall/ledger/AccountClass" "CUSTOMER" "Lcom/example/tidewall/tidewall/ledger/AccountClass;" (.ref w_C)) (X_C : Exa Z Z.heap w_C "com/example/tidewall/tidewall/ledger/AccountClass") (w_P : Addr) (S_P : Sta Z Z.heap "com/example/tidewall/tidewall/ledger/AccountClass" "PROPRIETARY" "Lcom/example/tidewall/tidewall/ledger/AccountClass;" (.ref w_P)) (X_P : Exa Z Z.heap w_P "com/example/tidewall/tidewall/ledger/AccountClass") (w_V : Addr) (k_V : ClassId) (S_V : Sta Z Z.heap "com/example/tidewall/tidewall/ledger/AccountClass" "$VALUES" "[Lcom/example/tidewall/tidewall/ledger/AccountClass;" (.ref w_V)) (X_V : Exa Z Z.heap w_V "[Lcom/example/tidewall/tidewall/ledger/AccountClass;") (V_V : Arv Z Z.heap w_V k_V (.object "com/example/tidewall/tidewall/ledger/AccountClass") (2 : Int32) [(.ref w_C), (.ref w_P)] .null) (w_CS : Addr) (F_CS : Fld Z Z.heap w_C "com/example/tidewall/tidewall/ledger/AccountClass" "id" "Ljava/lang/String;" (.ref w_CS)) (X_CS : Exa Z Z.heap w_CS "java/lang/String") (I_CS_coder : Fld Z Z.heap w_CS "java/lang/String" "coder" "B" (.int 0)) (w_CB : Addr) (k_CB : ClassId) (F_CB : Fld Z Z.heap w_CS "java/lang/String" "value" "[B" (.ref w_CB)) (V_CB : Arv Z Z.heap w_CB k_CB .byte (8 : Int32) [(.int 99), (.int 117), (.int 115), (.int 116), (.int 111), (.int 109), (.int 101), (.int 114)] (.int 0)) (w_PS : Addr) (F_PS : Fld Z Z.heap w_P "com/example/tidewall/tidewall/ledger/AccountClass" "id" "Ljava/lang/String;" (.ref w_PS)) (X_PS : Exa Z Z.heap w_PS "java/lang/String") (I_PS_coder : Fld Z Z.heap w_PS "java/lang/String" "coder" "B" (.int 0)) (w_PB : Addr) (k_PB : ClassId) (F_PB : Fld Z Z.heap w_PS "java/lang/String" "value" "[B" (.ref w_PB)) (V_PB : Arv Z Z.heap w_PB k_PB .byte (11 : Int32) [(.int 112), (.int 114), (.int 111), (.int 112), (.int 114), (.int 105), (.int 101), (.int 116), (.int 97), (.int 114), (.int 121)] (.int 0)) (S_AD : Sta Z Z.heap "java/lang/StringUTF16" "$assertionsDisabled" "Z" (.int 1)) (S_HI : Sta Z Z.heap "java/lang/StringUTF16" "HI_BYTE_SHIFT" "I" (.int 0)) (S_LO : Sta Z Z.heap "java/lang/StringUTF16" "LO_BYTE_SHIFT" "I" (.int 8)) (w_OE : Addr) (S_OE : Sta Z Z.heap "java/util/Optional" "EMPTY" "Ljava/util/Optional;" (.ref w_OE)) (X_OE : Exa Z Z.heap w_OE "java/util/Optional") (I_OE_value : Fld Z Z.heap w_OE "java/util/Optional" "value" "Ljava/lang/Object;" .null) (g_CS : Int32) (S_CS : Sta Z Z.heap "java/lang/String" "COMPACT_STRINGS" "Z" (.int g_CS)) (nz_CS : ¬ (g_CS = (0 : Int32))) (g_SF : Value) (S_SF : Sta Z Z.heap "jdk/internal/util/Preconditions" "SIOOBE_FORMATTER" "Ljava/util/function/BiFunction;" g_SF) (r_SF : g_SF.isRef = true) (p0 : Addr) (pcs : List Int32) (pv : Addr) (pk : ClassId) (h0 : Heap) (n0 : Nat) (X00 : Old Z n0 h0) (hp0 : Exa Z h0 p0 "java/lang/String") (hp1 : Fld Z h0 p0 "java/lang/String" "coder" "B" (.int 0)) (hp2 : Fld Z h0 p0 "java/lang/String" "value" "[B" (.ref pv)) (hp3 : Arv Z h0 pv pk .byte (Int32.ofNat pcs.length) ((pcs.map StrChars.lo8).map Value.int) (.int 0)) (hpc0 : ∀ c ∈ pcs, ¬ c < 0 ∧ ¬ (255 : Int32) < c) (hle0 : pcs.length ≤ 4000) (hcn : ¬ (([99, 117, 115, 116, 111, 109, 101, 114] : List Int32) = pcs)) (hcc : ([112, 114, 111, 112, 114, 105, 101, 116, 97, 114, 121] : List Int32) = pcs) :
    MetFree l (⟨"com/example/tidewall/tidewall/ledger/AccountClass", "byId", "(Ljava/lang/String;)Ljava/util/Optional;"⟩ : MethodName) (head1 (Jvm.Cond.code (⟨"com/example/tidewall/tidewall/ledger/AccountClass", "byId", "(Ljava/lang/String;)Ljava/util/Optional;"⟩ : MethodName) prog_34_method_5_code 5 (some (.object "java/util/Optional")) :: ws) ({ frames := 3, cells := 2, slots := 3, locals := 38 } : Room)) (fun a U => a = #[(.ref p0)] ∧ Z.Warmed39 U.vm ∧ U.heap = h0) (fun _ _ _ _ _ => True) (fun _ U o U' => ∃ v L, o = .returned v ∧ Q_rm_byp Z w_C w_P w_V k_V w_CS w_CB k_CB w_PS w_PB k_PB w_OE g_CS g_SF p0 pcs pv pk h0 n0 v U'.heap L ∧ FrameEnd U o U' L ({ frames := 3, cells := 2, slots := 3, locals := 38 } : Room).cells ({ frames := 3, cells := 2, slots := 3, locals := 38 } : Room).slots) := by
 refine MetFree.of_bodySF (plainFor_of_name own_pn5) hisR ?_
 intro p e s m args below meth c s₁ Bd hml0 hP hK
 obtain ⟨rfl, hZ, hh⟩ := hP
 have hx := Bd.exec
 have hby := Bd.bytes
 have hml : c.maxLocals = 5 := hml0
 have hown : s.vm.findClass "com/example/tidewall/tidewall/ledger/AccountClass" = some m.cls := findClass_of_methodNamed Bd.named
 have hnm := (name_of_methodNamed Bd.named Bd.method).1
 have X0 : Stand p l e ({ frames := 3, cells := 2, slots := 3, locals := 38 } : Room) s m #[(.ref p0)] below meth c s₁ [] 0 0 := Stand.of_body Bd
 have e0 : s₁.heap = h0 := by rw [← hh, Bd.state]; rfl
 have N0 := Fr.nil n0
 refine Go.start fun P hPend => ?_
 refine Go.st (fun _ k => castTop (own_ef_rm_byp m p0) k) ?_
 show Go _ _ _ _ (s₁.setTop (mkF m 0 #[lR p0, lU, lU, lU, lU] []))
 obtain ⟨_, _, ⟨T1, L1, k1, n1⟩, -, X1, ⟨Lc1, hQ1, l1, y1, z1⟩, st1⟩ := Jvm.LawKit.callS X0 hx (y := (⟨"com/example/tidewall/tidewall/ledger/AccountClass", "values", "()[Lcom/example/tidewall/tidewall/ledger/AccountClass;"⟩ : MethodName)) hown (mvT hZ (ow hw 41 rfl)) (mvT hZ (ow hw 42 rfl)) (mvT hZ (ow hw 7 rfl)) (mvT hZ (ow hw 43 rfl)) (by decide) (backOf (W := 0) (rm_vals l Z a0 hw [] w_C w_P w_V k_V S_V X_V V_V h0 n0 X00 ) hZ (ow hw 43 rfl) (ow hw 7 rfl) (by decide) (by decide)) (g := (mkF m 0 #[lR p0, lU, lU, lU, lU] [])) rfl (by rw [hml]; rfl) (argsL := []) (rest := []) (lenOf own_pd13 rfl) rfl (by show 2 * 0 + _ ≤ _; exact Nat.le_of_eq rfl) (hb hby od23_0) (fun _ _ => ⟨rfl, e0, (by decide : 0 + 1 ≤ _), (by decide : 0 + 2 ≤ _)⟩)
 dsimp only [Pt.U, Pt.locs, Pt.cells, Pt.slots] at X1 l1 y1 z1 st1 hQ1
 subst y1 z1
 refine Go.st st1 ?_
 obtain ⟨ob_2, rfl, N1q, K1q, q1_0, q1_1⟩ := hQ1
 have N1 : Fr n0 L1 := by rw [l1]; exact Fr.app N0 N1q
 have O1 := X00.keep K1q all0
 have K1 : Keep h0 T1.heap [] := (Keep.refl h0 []).trans K1q all0
 have sz_ob_2 : h0.size ≤ ob_2 := Nat.le_trans (Keep.refl h0 []).1 q1_0
 have g_ob_2 : n0 ≤ ob_2 := Nat.le_trans (own_oldsz X00) sz_ob_2
 show Go _ _ _ _ (T1.setTop (mkF m 3 #[lR p0, lU, lU, lU, lU] [(.ref ob_2)]))
 refine Go.st (fun _ => XS.astoreN X1.here hx rfl (hb hby od23_3) rfl rfl (l' := #[lR p0, lR ob_2, lU, lU, lU]) rfl) ?_
 show Go _ _ _ _ (T1.setTop (mkF m 4 #[lR p0, lR ob_2, lU, lU, lU] []))
 refine Go.st (fun _ => XS.aloadN X1.here hx rfl (hb hby od23_4) rfl rfl) ?_
 show Go _ _ _ _ (T1.setTop (mkF m 5 #[lR p0, lR ob_2, lU, lU, lU] [(.ref ob_2)]))
 refine Go.st (fun _ => own_len X1 hx hZ rfl q1_1 (g := (mkF m 5 #[lR p0, lR ob_2, lU, lU, lU] [(.ref ob_2)])) rfl rfl (hb hby od23_5) _) ?_
 show Go _ _ _ _ (T1.setTop (mkF m 6 #[lR p0, lR ob_2, lU, lU, lU] [(.int 2)]))
 refine Go.st (fun _ => XS.istoreN X1.here hx rfl (hb hby od23_6) rfl (l' := #[lR p0, lR ob_2, lI (2 : Int32), lU, lU]) rfl) ?_
 show Go _ _ _ _ (T1.setTop (mkF m 7 #[lR p0, lR ob_2, lI (2 : Int32), lU, lU] []))
 refine Go.st (fun _ => XS.iconst X1.here hx rfl (hb hby od23_7)) ?_
 show Go _ _ _ _ (T1.setTop (mkF m 8 #[lR p0, lR ob_2, lI (2 : Int32), lU, lU] [(.int 0)]))
 refine Go.st (fun _ => XS.istoreN X1.here hx rfl (hb hby od23_8) rfl (l' := #[lR p0, lR ob_2, lI (2 : Int32), lI (0 : Int32), lU]) rfl) ?_
 show Go _ _ _ _ (T1.setTop (mkF m 9 #[lR p0, lR ob_2, lI (2 : Int32), lI (0 : Int32), lU] []))
 refine Go.st (fun _ => XS.iloadN X1.here hx rfl (hb hby od23_9) rfl) ?_
 refine Go.st (fun _ => XS.iloadN X1.here hx rfl (hb hby od23_10) rfl) ?_
 show Go _ _ _ _ (T1.setTop (mkF m 11 #[lR p0, lR ob_2, lI (2 : Int32), lI (0 : Int32), lU] [(.int 2), (.int 0)]))
 refine Go.st (fun _ => XS.icmpNo X1.here hx rfl (hb hby od23_11) rfl (tlt (by decide)).2.1) ?_
 show Go _ _ _ _ (T1.setTop (mkF m 14 #[lR p0, lR ob_2, lI (2 : Int32), lI (0 : Int32), lU] []))
 refine Go.st (fun _ => XS.aloadN X1.here hx rfl (hb hby od23_14) rfl rfl) ?_
 refine Go.st (fun _ => XS.iloadN X1.here hx rfl (hb hby od23_15) rfl) ?_
 show Go _ _ _ _ (T1.setTop (mkF m 16 #[lR p0, lR ob_2, lI (2 : Int32), lI (0 : Int32), lU] [(.int 0), (.ref ob_2)]))
 refine Go.st (fun _ => own_ldR X1 hx hZ rfl q1_1 (j := (0 : Int32)) (i := 0) (v := (.ref w_C)) (by decide) (by decide) rfl (g := (mkF m 16 #[lR p0, lR ob_2, lI (2 : Int32), lI (0 : Int32), lU] [(.int 0), (.ref ob_2)])) rfl rfl (hb hby od23_16) _) ?_
 show Go _ _ _ _ (T1.setTop (mkF m 17 #[lR p0, lR ob_2, lI (2 : Int32), lI (0 : Int32), lU] [(.ref w_C)]))
 refine Go.st (fun _ => XS.astore X1.here hx rfl (hb hby od23_17) rfl rfl (l' := #[lR p0, lR ob_2, lI (2 : Int32), lI (0 : Int32), lR w_C]) rfl) ?_
 show Go _ _ _ _ (T1.setTop (mkF m 19 #[lR p0, lR ob_2, lI (2 : Int32), lI (0 : Int32), lR w_C] []))
 refine Go.st (fun _ => XS.aload X1.here hx rfl (hb hby od23_19) rfl rfl) ?_
 show Go _ _ _ _ (T1.setTop (mkF m 21 #[lR p0, lR ob_2, lI (2 : Int32), lI (0 : Int32), lR w_C] [(.ref w_C)]))
 obtain ⟨T4, X4, e4, st4⟩ := getF X1 hx hZ hown (host := "") (Or.inl (ow hw 57 rfl)) Via.refl rfl (F_CS.ext O1.2) (g := (mkF m 21 #[lR p0, lR ob_2, lI (2 : Int32), lI (0 : Int32), lR w_C] [(.ref w_C)])) rfl rfl (hb hby od23_21)
 refine Go.st st4 ?_
 show Go _ _ _ _ (T4.setTop (mkF m 24 #[lR p0, lR ob_2, lI (2 : Int32), lI (0 : Int32), lR w_C] [(.ref w_CS)]))
 refine Go.st (fun _ => XS.aloadN X4.here hx rfl (hb hby od23_24) rfl rfl) ?_
 show Go _ _ _ _ (T4.setTop (mkF m 25 #[lR p0, lR ob_2, lI (2 : Int32), lI (0 : Int32), lR w_C] [(.ref p0), (.ref w_CS)]))
 have hcd5 : StrChars.Road.CodA ([99, 117, 115, 116, 111, 109, 101, 114] : List Int32) 0 (8 : Int32) [(.int 99), (.int 117), (.int 115), (.int 116), (.int 111), (.int 109), (.int 101), (.int 114)] := StrChars.Road.codOf (n := 8) rfl (fun c hc => ((show ∀ c ∈ ([99, 117, 115, 116, 111, 109, 101, 114] : List Int32), ¬ c < 0 ∧ ¬ (255 : Int32) < c by decide) c hc).2)
 have c6 := (hp0.keep K1q)
 have c7 := (hp2.keep K1q nin0)
 have c8 := (hp1.keep K1q nin0)
 have c9 := (hp3.keep K1q nin0)
 have hcd5b : StrChars.Road.CodA pcs 0 (Int32.ofNat pcs.length) ((pcs.map StrChars.lo8).map Value.int) := StrChars.Road.codOf (n := pcs.length) rfl (fun c hc => (hpc0 c hc).2)
 obtain ⟨cq5, kq5, q5a, q5b, q5c⟩ := isOf hZ e4 (X_CS.ext O1.2)
 obtain ⟨_, _, ⟨T5, L5, k5, n5⟩, -, X5, ⟨Lc5, hQ5, l5, y5, z5⟩, st5⟩ := X4.virtualBack hx (y := (⟨"java/lang/String", "equals", "(Ljava/lang/Object;)Z"⟩ : MethodName)) (z := (⟨"java/lang/String", "equals", "(Ljava/lang/Object;)Z"⟩ : MethodName)) hown (mvT hZ (ow hw 59 rfl)) (mvT hZ (ow hw 60 rfl)) (notFace_of_selects (args := #[]) (mvT hZ (ow hw 62 rfl))) (mvT hZ (ow hw 62 rfl)) (mvT hZ (ow hw 61 rfl)) (by decide) (StrChars.Road.eqW (W := 0) hZ (fun d hd => hw d (own_wEq d hd)) (kI := 4) (ow hw 10 rfl) (X_CS.ext O1.2) (F_CB.ext O1.2) (I_CS_coder.ext O1.2) (V_CB.ext O1.2) hcd5 (own_up _ (show ∀ c ∈ ([99, 117, 115, 116, 111, 109, 101, 114] : List Int32), ¬ c < 0 ∧ ¬ (255 : Int32) < c by decide)) (Nat.le_of_ble_eq_true rfl) c6 c7 c8 c9 hcd5b (own_up _ hpc0) hle0 (S_CS.ext O1.2) nz_CS (by decide) (by decide)) q5a q5c (g := (mkF m 25 #[lR p0, lR ob_2, lI (2 : Int32), lI (0 : Int32), lR w_C] [(.ref p0), (.ref w_CS)])) rfl (by rw [hml]; rfl) (Steps.refl _) (argsL := [(.ref p0)]) (rest := []) (lenOf own_pd14 rfl) rfl (by show 2 * 0 + _ ≤ _; exact Nat.le_of_eq rfl) (hb hby od23_25) (fun _ _ => ⟨rfl, e4, (by decide : 1 + 0 ≤ _), (by decide : 2 + 0 ≤ _)⟩)
 dsimp only [Pt.U, Pt.locs, Pt.cells, Pt.slots] at X5 l5 y5 z5 st5 hQ5
 subst y5 z5
 refine Go.tr st5 ?_
 obtain ⟨hor5, rfl, e5⟩ := hQ5
 have N5 : Fr n0 L5 := by rw [l5]; exact Fr.app N1 (Fr.nil n0)
 obtain ⟨rfl, heq5⟩ := hor5.elim (fun q => absurd q.2 hcn) id
 show Go _ _ _ _ (T5.setTop (mkF m 28 #[lR p0, lR ob_2, lI (2 : Int32), lI (0 : Int32), lR w_C] [(.int 0)]))
 refine Go.st (fun _ => XS.ifYes X5.here hx rfl (pc0 := 28) (pc' := 37) rfl (hb hby od23_28) rfl ((if0 _ _).trans (teq (by decide)).1) (by decide) (by decide)) ?_
 show Go _ _ _ _ (T5.setTop (mkF m 37 #[lR p0, lR ob_2, lI (2 : Int32), lI (0 : Int32), lR w_C] []))
 refine Go.st (fun _ => XS.iinc X5.here hx rfl (hb hby od23_37) rfl (l' := #[lR p0, lR ob_2, lI (2 : Int32), lI (1 : Int32), lR w_C]) rfl) ?_
 show Go _ _ _ _ (T5.setTop (mkF m 40 #[lR p0, lR ob_2, lI (2 : Int32), lI (1 : Int32), lR w_C] []))
 refine Go.st (fun _ => XS.goto X5.here hx rfl (pc0 := 40) (pc' := 9) rfl (hb hby od23_40) (by decide) (by decide)) ?_
 show Go _ _ _ _ (T5.setTop (mkF m 9 #[lR p0, lR ob_2, lI (2 : Int32), lI (1 : Int32), lR w_C] []))
 refine Go.st (fun _ => XS.iloadN X5.here hx rfl (hb hby od23_9) rfl) ?_
 refine Go.st (fun _ => XS.iloadN X5.here hx rfl (hb hby od23_10) rfl) ?_
 show Go _ _ _ _ (T5.setTop (mkF m 11 #[lR p0, lR ob_2, lI (2 : Int32), lI (1 : Int32), lR w_C] [(.int 2), (.int 1)]))
 refine Go.st (fun _ => XS.icmpNo X5.here hx rfl (hb hby od23_11) rfl (tlt (by decide)).2.1) ?_
 show Go _ _ _ _ (T5.setTop (mkF m 14 #[lR p0, lR ob_2, lI (2 : Int32), lI (1 : Int32), lR w_C] []))
 refine Go.st (fun _ => XS.aloadN X5.here hx rfl (hb hby od23_14) rfl rfl) ?_
 refine Go.st (fun _ => XS.iloadN X5.here hx rfl (hb hby od23_15) rfl) ?_
 show Go _ _ _ _ (T5.setTop (mkF m 16 #[lR p0, lR ob_2, lI (2 : Int32), lI (1 : Int32), lR w_C] [(.int 1), (.ref ob_2)]))
 refine Go.st (fun _ => own_ldR X5 hx hZ e5 q1_1 (j := (1 : Int32)) (i := 1) (v := (.ref w_P)) (by decide) (by decide) rfl (g := (mkF m 16 #[lR p0, lR ob_2, lI (2 : Int32), lI (1 : Int32), lR w_C] [(.int 1), (.ref ob_2)])) rfl rfl (hb hby od23_16) _) ?_
 show Go _ _ _ _ (T5.setTop (mkF m 17 #[lR p0, lR ob_2, lI (2 : Int32), lI (1 : Int32), lR w_C] [(.ref w_P)]))
 refine Go.st (fun _ => XS.astore X5.here hx rfl (hb hby od23_17) rfl rfl (l' := #[lR p0, lR ob_2, lI (2 : Int32), lI (1 : Int32), lR w_P]) rfl) ?_
 show Go _ _ _ _ (T5.setTop (mkF m 19 #[lR p0, lR ob_2, lI (2 : Int32), lI (1 : Int32), lR w_P] []))
 refine Go.st (fun _ => XS.aload X5.here hx rfl (hb hby od23_19) rfl rfl) ?_
 show Go _ _ _ _ (T5.setTop (mkF m 21 #[lR p0, lR ob_2, lI (2 : Int32), lI (1 : Int32), lR w_P] [(.ref w_P)]))
 obtain ⟨T11, X11, e11, st11⟩ := getF X5 hx hZ hown (host := "") (Or.inl (ow hw 57 rfl)) Via.refl e5 (F_PS.ext O1.2) (g := (mkF m 21 #[lR p0, lR ob_2, lI (2 : Int32), lI (1 : Int32), lR w_P] [(.ref w_P)])) rfl rfl (hb hby od23_21)
 refine Go.st st11 ?_
 show Go _ _ _ _ (T11.setTop (mkF m 24 #[lR p0, lR ob_2, lI (2 : Int32), lI (1 : Int32), lR w_P] [(.ref w_PS)]))
 refine Go.st (fun _ => XS.aloadN X11.here hx rfl (hb hby od23_24) rfl rfl) ?_
 show Go _ _ _ _ (T11.setTop (mkF m 25 #[lR p0, lR ob_2, lI (2 : Int32), lI (1 : Int32), lR w_P] [(.ref p0), (.ref w_PS)]))
 have hcd12 : StrChars.Road.CodA ([112, 114, 111, 112, 114, 105, 101, 116, 97, 114, 121] : List Int32) 0 (11 : Int32) [(.int 112), (.int 114), (.int 111), (.int 112), (.int 114), (.int 105), (.int 101), (.int 116), (.int 97), (.int 114), (.int 121)] := StrChars.Road.codOf (n := 11) rfl (fun c hc => ((show ∀ c ∈ ([112, 114, 111, 112, 114, 105, 101, 116, 97, 114, 121] : List Int32), ¬ c < 0 ∧ ¬ (255 : Int32) < c by decide) c hc).2)
 have hcd12b : StrChars.Road.CodA pcs 0 (Int32.ofNat pcs.length) ((pcs.map StrChars.lo8).map Value.int) := StrChars.Road.codOf (n := pcs.length) rfl (fun c hc => (hpc0 c hc).2)
 obtain ⟨cq12, kq12, q12a, q12b, q12c⟩ := isOf hZ e11 (X_PS.ext O1.2)
 obtain ⟨_, _, ⟨T12, L12, k12, n12⟩, -, X12, ⟨Lc12, hQ12, l12, y12, z12⟩, st12⟩ := X11.virtualBack hx (y := (⟨"java/lang/String", "equals", "(Ljava/lang/Object;)Z"⟩ : MethodName)) (z := (⟨"java/lang/String", "equals", "(Ljava/lang/Object;)Z"⟩ : MethodName)) hown (mvT hZ (ow hw 59 rfl)) (mvT hZ (ow hw 60 rfl)) (notFace_of_selects (args := #[]) (mvT hZ (ow hw 62 rfl))) (mvT hZ (ow hw 62 rfl)) (mvT hZ (ow hw 61 rfl)) (by decide) (StrChars.Road.eqW (W := 0) hZ (fun d hd => hw d (own_wEq d hd)) (kI := 4) (ow hw 10 rfl) (X_PS.ext O1.2) (F_PB.ext O1.2) (I_PS_coder.ext O1.2) (V_PB.ext O1.2) hcd12 (own_up _ (show ∀ c ∈ ([112, 114, 111, 112, 114, 105, 101, 116, 97, 114, 121] : List Int32), ¬ c < 0 ∧ ¬ (255 : Int32) < c by decide)) (Nat.le_of_ble_eq_true rfl) c6 c7 c8 c9 hcd12b (own_up _ hpc0) hle0 (S_CS.ext O1.2) nz_CS (by decide) (by decide)) q12a q12c (g := (mkF m 25 #[lR p0, lR ob_2, lI (2 : Int32), lI (1 : Int32), lR w_P] [(.ref p0), (.ref w_PS)])) rfl (by rw [hml]; rfl) (Steps.refl _) (argsL := [(.ref p0)]) (rest := []) (lenOf own_pd14 rfl) rfl (by show 2 * 0 + _ ≤ _; exact Nat.le_of_eq rfl) (hb hby od23_25) (fun _ _ => ⟨rfl, e11, (by decide : 1 + 0 ≤ _), (by decide : 2 + 0 ≤ _)⟩)
 dsimp only [Pt.U, Pt.locs, Pt.cells, Pt.slots] at X12 l12 y12 z12 st12 hQ12
 subst y12 z12
 refine Go.tr st12 ?_
 obtain ⟨hor12, rfl, e12⟩ := hQ12
 have N12 : Fr n0 L12 := by rw [l12]; exact Fr.app N5 (Fr.nil n0)
 obtain ⟨rfl, heq12⟩ : _ ∧ ([112, 114, 111, 112, 114, 105, 101, 116, 97, 114, 121] : List Int32) = pcs := hor12.elim id (fun q => absurd hcc q.2)
 show Go _ _ _ _ (T12.setTop (mkF m 28 #[lR p0, lR ob_2, lI (2 : Int32), lI (1 : Int32), lR w_P] [(.int 1)]))
 refine Go.st (fun _ => XS.ifNo X12.here hx rfl (hb hby od23_28) rfl ((if0 _ _).trans (feq (by decide)).1)) ?_
 show Go _ _ _ _ (T12.setTop (mkF m 31 #[lR p0, lR ob_2, lI (2 : Int32), lI (1 : Int32), lR w_P] []))
 refine Go.st (fun _ => XS.aload X12.here hx rfl (hb hby od23_31) rfl rfl) ?_
 show Go _ _ _ _ (T12.setTop (mkF m 33 #[lR p0, lR ob_2, lI (2 : Int32), lI (1 : Int32), lR w_P] [(.ref w_P)]))
 obtain ⟨_, _, ⟨T13, L13, k13, n13⟩, -, X13, ⟨Lc13, hQ13, l13, y13, z13⟩, st13⟩ := Jvm.LawKit.callS X12 hx (y := (⟨"java/util/Optional", "of", "(Ljava/lang/Object;)Ljava/util/Optional;"⟩ : MethodName)) hown (mvT hZ (ow hw 69 rfl)) (mvT hZ (ow hw 70 rfl)) (mvT hZ (ow hw 71 rfl)) (mvT hZ (ow hw 72 rfl)) (by decide) (backOf (W := 0) (rm_oof l Z a0 hw [] w_OE S_OE X_OE I_OE_value w_P T1.heap n0 O1 ) hZ (ow hw 72 rfl) (ow hw 71 rfl) (by decide) (by decide)) (g := (mkF m 33 #[lR p0, lR ob_2, lI (2 : Int32), lI (1 : Int32), lR w_P] [(.ref w_P)])) rfl (by rw [hml]; rfl) (argsL := [(.ref w_P)]) (rest := []) (lenOf own_pd16 rfl) rfl (by show 2 * 0 + _ ≤ _; exact Nat.le_of_eq rfl) (hb hby od23_33) (fun _ _ => ⟨rfl, e12, (by decide : 1 + 1 ≤ _), (by decide : 2 + 1 ≤ _)⟩)
 dsimp only [Pt.U, Pt.locs, Pt.cells, Pt.slots] at X13 l13 y13 z13 st13 hQ13
 subst y13 z13
 refine Go.st st13 ?_
 obtain ⟨ob_14, rfl, N13q, K13q, q13_0, q13_1, q13_2⟩ := hQ13
 have N13 : Fr n0 L13 := by rw [l13]; exact Fr.app N12 N13q
 have O13 := O1.keep K13q all0
 have K13 : Keep h0 T13.heap [] := K1.trans K13q all0
 have sz_ob_14 : h0.size ≤ ob_14 := Nat.le_trans K1.1 q13_0
 have g_ob_14 : n0 ≤ ob_14 := Nat.le_trans (own_oldsz X00) sz_ob_14
 show Go _ _ _ _ (T13.setTop (mkF m 36 #[lR p0, lR ob_2, lI (2 : Int32), lI (1 : Int32), lR w_P] [(.ref ob_14)]))
 obtain ⟨fs, hr, hrun, hended, hW, hsame⟩ := X13.leave (v := some (.ref ob_14)) (fun h => by rw [Bd.returns] at h; cases h)
 refine ⟨_, ?_, hPend _ _ hrun hended ⟨_, _, rfl, ?_, ⟨_, rfl⟩, hW, hsame.mono (by decide) (by decide)⟩⟩
 ·exact retOut X13 hx (t := (.object "java/util/Optional")) Bd.returns rfl (Or.inr (Or.inr (Or.inr (Or.inr ⟨rfl, rfl, rfl⟩)))) (hb hby od23_36) hr
 ·show Q_rm_byp Z _ _ _ _ _ _ _ _ _ _ _ _ _ _ _ _ _ h0 n0 _ T13.heap _
  exact ⟨ob_14, rfl, N13, K13, sz_ob_14, q13_1, q13_2⟩
theorem own_ef_rm_byo (m : MethodId) (x0 : Addr) : entryFrame m #[(.ref x0)] 5 = mkF m 0 #[.val (.ref x0), .unset, .unset, .unset, .unset] [] := by first | (simp [entryFrame, mkF, argsToLocals, Value.category]; done) | rfl
def Q_rm_byo (Z : State) (w_C : Addr) (w_P : Addr) (w_V : Addr) (k_V : ClassId) (w_CS : Addr) (w_CB : Addr) (k_CB : ClassId) (w_PS : Addr) (w_PB : Addr) (k_PB : ClassId) (w_OE : Addr) (g_CS : Int32) (g_SF : Value) (p0 : Addr) (pcs : List Int32) (pv : Addr) (pk : ClassId) (h0 : Heap) (n0 : Nat) (v : Option Value) (h : Heap) (L : List Loc) : Prop := v = some (.ref w_OE) ∧ Fr n0 L ∧ Keep h0 h []
set_option maxRecDepth 65536 in
set_option maxHeartbeats 40000000 in
theorem rm_byo (l : Launch) (Z : State) (a0 : Array Value) (hw : ∀ d ∈ tables_1, d.before a0 Z = true) (ws : List Jvm.Cond) (w_C : Addr) (S_C : Sta Z Z.heap "com/example/tidewall/tidewall/ledger/AccountClass" "CUSTOMER" "Lcom/example/tidewall/tidewall/ledger/AccountClass;" (.ref w_C)) (X_C : Exa Z Z.heap w_C "com/example/tidewall/tidewall/ledger/AccountClass") (w_P : Addr) (S_P : Sta Z Z.heap "com/example/tidewall/tidewall/ledger/AccountClass" "PROPRIETARY" "Lcom/example/tidewall/tidewall/ledger/AccountClass;" (.ref w_P)) (X_P : Exa Z Z.heap w_P "com/example/tidewall/tidewall/ledger/AccountClass") (w_V : Addr) (k_V : ClassId) (S_V : Sta Z Z.heap "com/example/tidewall/tidewall/ledger/AccountClass" "$VALUES" "[Lcom/example/tidewall/tidewall/ledger/AccountClass;" (.ref w_V)) (X_V : Exa Z Z.heap w_V "[Lcom/example/tidewall/tidewall/ledger/AccountClass;") (V_V : Arv Z Z.heap w_V k_V (.object "com/example/tidewall/tidewall/ledger/AccountClass") (2 : Int32) [(.ref w_C), (.ref w_P)] .null) (w_CS : Addr) (F_CS : Fld Z Z.heap w_C "com/example/tidewall/tidewall/ledger/AccountClass" "id" "Ljava/lang/String;" (.ref w_CS)) (X_CS : Exa Z Z.heap w_CS "java/lang/String") (I_CS_coder : Fld Z Z.heap w_CS "java/lang/String" "coder" "B" (.int 0)) (w_CB : Addr) (k_CB : ClassId) (F_CB : Fld Z Z.heap w_CS "java/lang/String" "value" "[B" (.ref w_CB)) (V_CB : Arv Z Z.heap w_CB k_CB .byte (8 : Int32) [(.int 99), (.int 117), (.int 115), (.int 116), (.int 111), (.int 109), (.int 101), (.int 114)] (.int 0)) (w_PS : Addr) (F_PS : Fld Z Z.heap w_P "com/example/tidewall/tidewall/ledger/AccountClass" "id" "Ljava/lang/String;" (.ref w_PS)) (X_PS : Exa Z Z.heap w_PS "java/lang/String") (I_PS_coder : Fld Z Z.heap w_PS "java/lang/String" "coder" "B" (.int 0)) (w_PB : Addr) (k_PB : ClassId) (F_PB : Fld Z Z.heap w_PS "java/lang/String" "value" "[B" (.ref w_PB)) (V_PB : Arv Z Z.heap w_PB k_PB .byte (11 : Int32) [(.int 112), (.int 114), (.int 111), (.int 112), (.int 114), (.int 105), (.int 101), (.int 116), (.int 97), (.int 114), (.int 121)] (.int 0)) (S_AD : Sta Z Z.heap "java/lang/StringUTF16" "$assertionsDisabled" "Z" (.int 1)) (S_HI : Sta Z Z.heap "java/lang/StringUTF16" "HI_BYTE_SHIFT" "I" (.int 0)) (S_LO : Sta Z Z.heap "java/lang/StringUTF16" "LO_BYTE_SHIFT" "I" (.int 8)) (w_OE : Addr) (S_OE : Sta Z Z.heap "java/util/Optional" "EMPTY" "Ljava/util/Optional;" (.ref w_OE)) (X_OE : Exa Z Z.heap w_OE "java/util/Optional") (I_OE_value : Fld Z Z.heap w_OE "java/util/Optional" "value" "Ljava/lang/Object;" .null) (g_CS : Int32) (S_CS : Sta Z Z.heap "java/lang/String" "COMPACT_STRINGS" "Z" (.int g_CS)) (nz_CS : ¬ (g_CS = (0 : Int32))) (g_SF : Value) (S_SF : Sta Z Z.heap "jdk/internal/util/Preconditions" "SIOOBE_FORMATTER" "Ljava/util/function/BiFunction;" g_SF) (r_SF : g_SF.isRef = true) (p0 : Addr) (pcs : List Int32) (pv : Addr) (pk : ClassId) (h0 : Heap) (n0 : Nat) (X00 : Old Z n0 h0) (hp0 : Exa Z h0 p0 "java/lang/String") (hp1 : Fld Z h0 p0 "java/lang/String" "coder" "B" (.int 0)) (hp2 : Fld Z h0 p0 "java/lang/String" "value" "[B" (.ref pv)) (hp3 : Arv Z h0 pv pk .byte (Int32.ofNat pcs.length) ((pcs.map StrChars.lo8).map Value.int) (.int 0)) (hpc0 : ∀ c ∈ pcs, ¬ c < 0 ∧ ¬ (255 : Int32) < c) (hle0 : pcs.length ≤ 4000) (hcn : ¬ (([99, 117, 115, 116, 111, 109, 101, 114] : List Int32) = pcs)) (hcc : ¬ (([112, 114, 111, 112, 114, 105, 101, 116, 97, 114, 121] : List Int32) = pcs)) :
    MetFree l (⟨"com/example/tidewall/tidewall/ledger/AccountClass", "byId", "(Ljava/lang/String;)Ljava/util/Optional;"⟩ : MethodName) (head1 (Jvm.Cond.code (⟨"com/example/tidewall/tidewall/ledger/AccountClass", "byId", "(Ljava/lang/String;)Ljava/util/Optional;"⟩ : MethodName) prog_34_method_5_code 5 (some (.object "java/util/Optional")) :: ws) ({ frames := 2, cells := 1, slots := 2, locals := 28 } : Room)) (fun a U => a = #[(.ref p0)] ∧ Z.Warmed39 U.vm ∧ U.heap = h0) (fun _ _ _ _ _ => True) (fun _ U o U' => ∃ v L, o = .returned v ∧ Q_rm_byo Z w_C w_P w_V k_V w_CS w_CB k_CB w_PS w_PB k_PB w_OE g_CS g_SF p0 pcs pv pk h0 n0 v U'.heap L ∧ FrameEnd U o U' L ({ frames := 2, cells := 1, slots := 2, locals := 28 } : Room).cells ({ frames := 2, cells := 1, slots := 2, locals := 28 } : Room).slots) := by
 refine MetFree.of_bodySF (plainFor_of_name own_pn5) hisR ?_
 intro p e s m args below meth c s₁ Bd hml0 hP hK
 obtain ⟨rfl, hZ, hh⟩ := hP
 have hx := Bd.exec
 have hby := Bd.bytes
 have hml : c.maxLocals = 5 := hml0
 have hown : s.vm.findClass "com/example/tidewall/tidewall/ledger/AccountClass" = some m.cls := findClass_of_methodNamed Bd.named
 have hnm := (name_of_methodNamed Bd.named Bd.method).1
 have X0 : Stand p l e ({ frames := 2, cells := 1, slots := 2, locals := 28 } : Room) s m #[(.ref p0)] below meth c s₁ [] 0 0 := Stand.of_body Bd
 have e0 : s₁.heap = h0 := by rw [← hh, Bd.state]; rfl
 have N0 := Fr.nil n0
 refine Go.start fun P hPend => ?_
 refine Go.st (fun _ k => castTop (own_ef_rm_byo m p0) k) ?_
 show Go _ _ _ _ (s₁.setTop (mkF m 0 #[lR p0, lU, lU, lU, lU] []))
 obtain ⟨_, _, ⟨T1, L1, k1, n1⟩, -, X1, ⟨Lc1, hQ1, l1, y1, z1⟩, st1⟩ := Jvm.LawKit.callS X0 hx (y := (⟨"com/example/tidewall/tidewall/ledger/AccountClass", "values", "()[Lcom/example/tidewall/tidewall/ledger/AccountClass;"⟩ : MethodName)) hown (mvT hZ (ow hw 41 rfl)) (mvT hZ (ow hw 42 rfl)) (mvT hZ (ow hw 7 rfl)) (mvT hZ (ow hw 43 rfl)) (by decide) (backOf (W := 0) (rm_vals l Z a0 hw [] w_C w_P w_V k_V S_V X_V V_V h0 n0 X00 ) hZ (ow hw 43 rfl) (ow hw 7 rfl) (by decide) (by decide)) (g := (mkF m 0 #[lR p0, lU, lU, lU, lU] [])) rfl (by rw [hml]; rfl) (argsL := []) (rest := []) (lenOf own_pd13 rfl) rfl (by show 2 * 0 + _ ≤ _; exact Nat.le_of_eq rfl) (hb hby od23_0) (fun _ _ => ⟨rfl, e0, (by decide : 0 + 1 ≤ _), (by decide : 0 + 2 ≤ _)⟩)
 dsimp only [Pt.U, Pt.locs, Pt.cells, Pt.slots] at X1 l1 y1 z1 st1 hQ1
 subst y1 z1
 refine Go.st st1 ?_
 obtain ⟨ob_2, rfl, N1q, K1q, q1_0, q1_1⟩ := hQ1
 have N1 : Fr n0 L1 := by rw [l1]; exact Fr.app N0 N1q
 have O1 := X00.keep K1q all0
 have K1 : Keep h0 T1.heap [] := (Keep.refl h0 []).trans K1q all0
 have sz_ob_2 : h0.size ≤ ob_2 := Nat.le_trans (Keep.refl h0 []).1 q1_0
 have g_ob_2 : n0 ≤ ob_2 := Nat.le_trans (own_oldsz X00) sz_ob_2
 show Go _ _ _ _ (T1.setTop (mkF m 3 #[lR p0, lU, lU, lU, lU] [(.ref ob_2)]))
 refine Go.st (fun _ => XS.astoreN X1.here hx rfl (hb hby od23_3) rfl rfl (l' := #[lR p0, lR ob_2, lU, lU, lU]) rfl) ?_
 show Go _ _ _ _ (T1.setTop (mkF m 4 #[lR p0, lR ob_2, lU, lU, lU] []))
 refine Go.st (fun _ => XS.aloadN X1.here hx rfl (hb hby od23_4) rfl rfl) ?_
 show Go _ _ _ _ (T1.setTop (mkF m 5 #[lR p0, lR ob_2, lU, lU, lU] [(.ref ob_2)]))
 refine Go.st (fun _ => own_len X1 hx hZ rfl q1_1 (g := (mkF m 5 #[lR p0, lR ob_2, lU, lU, lU] [(.ref ob_2)])) rfl rfl (hb hby od23_5) _) ?_
 show Go _ _ _ _ (T1.setTop (mkF m 6 #[lR p0, lR ob_2, lU, lU, lU] [(.int 2)]))
 refine Go.st (fun _ => XS.istoreN X1.here hx rfl (hb hby od23_6) rfl (l' := #[lR p0, lR ob_2, lI (2 : Int32), lU, lU]) rfl) ?_
 show Go _ _ _ _ (T1.setTop (mkF m 7 #[lR p0, lR ob_2, lI (2 : Int32), lU, lU] []))
 refine Go.st (fun _ => XS.iconst X1.here hx rfl (hb hby od23_7)) ?_
 show Go _ _ _ _ (T1.setTop (mkF m 8 #[lR p0, lR ob_2, lI (2 : Int32), lU, lU] [(.int 0)]))
 refine Go.st (fun _ => XS.istoreN X1.here hx rfl (hb hby od23_8) rfl (l' := #[lR p0, lR ob_2, lI (2 : Int32), lI (0 : Int32), lU]) rfl) ?_
 show Go _ _ _ _ (T1.setTop (mkF m 9 #[lR p0, lR ob_2, lI (2 : Int32), lI (0 : Int32), lU] []))
 refine Go.st (fun _ => XS.iloadN X1.here hx rfl (hb hby od23_9) rfl) ?_
 refine Go.st (fun _ => XS.iloadN X1.here hx rfl (hb hby od23_10) rfl) ?_
 show Go _ _ _ _ (T1.setTop (mkF m 11 #[lR p0, lR ob_2, lI (2 : Int32), lI (0 : Int32), lU] [(.int 2), (.int 0)]))
 refine Go.st (fun _ => XS.icmpNo X1.here hx rfl (hb hby od23_11) rfl (tlt (by decide)).2.1) ?_
 show Go _ _ _ _ (T1.setTop (mkF m 14 #[lR p0, lR ob_2, lI (2 : Int32), lI (0 : Int32), lU] []))
 refine Go.st (fun _ => XS.aloadN X1.here hx rfl (hb hby od23_14) rfl rfl) ?_
 refine Go.st (fun _ => XS.iloadN X1.here hx rfl (hb hby od23_15) rfl) ?_
 show Go _ _ _ _ (T1.setTop (mkF m 16 #[lR p0, lR ob_2, lI (2 : Int32), lI (0 : Int32), lU] [(.int 0), (.ref ob_2)]))
 refine Go.st (fun _ => own_ldR X1 hx hZ rfl q1_1 (j := (0 : Int32)) (i := 0) (v := (.ref w_C)) (by decide) (by decide) rfl (g := (mkF m 16 #[lR p0, lR ob_2, lI (2 : Int32), lI (0 : Int32), lU] [(.int 0), (.ref ob_2)])) rfl rfl (hb hby od23_16) _) ?_
 show Go _ _ _ _ (T1.setTop (mkF m 17 #[lR p0, lR ob_2, lI (2 : Int32), lI (0 : Int32), lU] [(.ref w_C)]))
 refine Go.st (fun _ => XS.astore X1.here hx rfl (hb hby od23_17) rfl rfl (l' := #[lR p0, lR ob_2, lI (2 : Int32), lI (0 : Int32), lR w_C]) rfl) ?_
 show Go _ _ _ _ (T1.setTop (mkF m 19 #[lR p0, lR ob_2, lI (2 : Int32), lI (0 : Int32), lR w_C] []))
 refine Go.st (fun _ => XS.aload X1.here hx rfl (hb hby od23_19) rfl rfl) ?_
 show Go _ _ _ _ (T1.setTop (mkF m 21 #[lR p0, lR ob_2, lI (2 : Int32), lI (0 : Int32), lR w_C] [(.ref w_C)]))
 obtain ⟨T4, X4, e4, st4⟩ := getF X1 hx hZ hown (host := "") (Or.inl (ow hw 57 rfl)) Via.refl rfl (F_CS.ext O1.2) (g := (mkF m 21 #[lR p0, lR ob_2, lI (2 : Int32), lI (0 : Int32), lR w_C] [(.ref w_C)])) rfl rfl (hb hby od23_21)
 refine Go.st st4 ?_
 show Go _ _ _ _ (T4.setTop (mkF m 24 #[lR p0, lR ob_2, lI (2 : Int32), lI (0 : Int32), lR w_C] [(.ref w_CS)]))
 refine Go.st (fun _ => XS.aloadN X4.here hx rfl (hb hby od23_24) rfl rfl) ?_
 show Go _ _ _ _ (T4.setTop (mkF m 25 #[lR p0, lR ob_2, lI (2 : Int32), lI (0 : Int32), lR w_C] [(.ref p0), (.ref w_CS)]))
 have hcd5 : StrChars.Road.CodA ([99, 117, 115, 116, 111, 109, 101, 114] : List Int32) 0 (8 : Int32) [(.int 99), (.int 117), (.int 115), (.int 116), (.int 111), (.int 109), (.int 101), (.int 114)] := StrChars.Road.codOf (n := 8) rfl (fun c hc => ((show ∀ c ∈ ([99, 117, 115, 116, 111, 109, 101, 114] : List Int32), ¬ c < 0 ∧ ¬ (255 : Int32) < c by decide) c hc).2)
 have c6 := (hp0.keep K1q)
 have c7 := (hp2.keep K1q nin0)
 have c8 := (hp1.keep K1q nin0)
 have c9 := (hp3.keep K1q nin0)
 have hcd5b : StrChars.Road.CodA pcs 0 (Int32.ofNat pcs.length) ((pcs.map StrChars.lo8).map Value.int) := StrChars.Road.codOf (n := pcs.length) rfl (fun c hc => (hpc0 c hc).2)
 obtain ⟨cq5, kq5, q5a, q5b, q5c⟩ := isOf hZ e4 (X_CS.ext O1.2)
 obtain ⟨_, _, ⟨T5, L5, k5, n5⟩, -, X5, ⟨Lc5, hQ5, l5, y5, z5⟩, st5⟩ := X4.virtualBack hx (y := (⟨"java/lang/String", "equals", "(Ljava/lang/Object;)Z"⟩ : MethodName)) (z := (⟨"java/lang/String", "equals", "(Ljava/lang/Object;)Z"⟩ : MethodName)) hown (mvT hZ (ow hw 59 rfl)) (mvT hZ (ow hw 60 rfl)) (notFace_of_selects (args := #[]) (mvT hZ (ow hw 62 rfl))) (mvT hZ (ow hw 62 rfl)) (mvT hZ (ow hw 61 rfl)) (by decide) (StrChars.Road.eqW (W := 0) hZ (fun d hd => hw d (own_wEq d hd)) (kI := 4) (ow hw 10 rfl) (X_CS.ext O1.2) (F_CB.ext O1.2) (I_CS_coder.ext O1.2) (V_CB.ext O1.2) hcd5 (own_up _ (show ∀ c ∈ ([99, 117, 115, 116, 111, 109, 101, 114] : List Int32), ¬ c < 0 ∧ ¬ (255 : Int32) < c by decide)) (Nat.le_of_ble_eq_true rfl) c6 c7 c8 c9 hcd5b (own_up _ hpc0) hle0 (S_CS.ext O1.2) nz_CS (by decide) (by decide)) q5a q5c (g := (mkF m 25 #[lR p0, lR ob_2, lI (2 : Int32), lI (0 : Int32), lR w_C] [(.ref p0), (.ref w_CS)])) rfl (by rw [hml]; rfl) (Steps.refl _) (argsL := [(.ref p0)]) (rest := []) (lenOf own_pd14 rfl) rfl (by show 2 * 0 + _ ≤ _; exact Nat.le_of_eq rfl) (hb hby od23_25) (fun _ _ => ⟨rfl, e4, (by decide : 1 + 0 ≤ _), (by decide : 2 + 0 ≤ _)⟩)
 dsimp only [Pt.U, Pt.locs, Pt.cells, Pt.slots] at X5 l5 y5 z5 st5 hQ5
 subst y5 z5
 refine Go.tr st5 ?_
 obtain ⟨hor5, rfl, e5⟩ := hQ5
 have N5 : Fr n0 L5 := by rw [l5]; exact Fr.app N1 (Fr.nil n0)
 obtain ⟨rfl, heq5⟩ := hor5.elim (fun q => absurd q.2 hcn) id
 show Go _ _ _ _ (T5.setTop (mkF m 28 #[lR p0, lR ob_2, lI (2 : Int32), lI (0 : Int32), lR w_C] [(.int 0)]))
 refine Go.st (fun _ => XS.ifYes X5.here hx rfl (pc0 := 28) (pc' := 37) rfl (hb hby od23_28) rfl ((if0 _ _).trans (teq (by decide)).1) (by decide) (by decide)) ?_
 show Go _ _ _ _ (T5.setTop (mkF m 37 #[lR p0, lR ob_2, lI (2 : Int32), lI (0 : Int32), lR w_C] []))
 refine Go.st (fun _ => XS.iinc X5.here hx rfl (hb hby od23_37) rfl (l' := #[lR p0, lR ob_2, lI (2 : Int32), lI (1 : Int32), lR w_C]) rfl) ?_
 show Go _ _ _ _ (T5.setTop (mkF m 40 #[lR p0, lR ob_2, lI (2 : Int32), lI (1 : Int32), lR w_C] []))
 refine Go.st (fun _ => XS.goto X5.here hx rfl (pc0 := 40) (pc' := 9) rfl (hb hby od23_40) (by decide) (by decide)) ?_
 show Go _ _ _ _ (T5.setTop (mkF m 9 #[lR p0, lR ob_2, lI (2 : Int32), lI (1 : Int32), lR w_C] []))
 refine Go.st (fun _ => XS.iloadN X5.here hx rfl (hb hby od23_9) rfl) ?_
 refine Go.st (fun _ => XS.iloadN X5.here hx rfl (hb hby od23_10) rfl) ?_
 show Go _ _ _ _ (T5.setTop (mkF m 11 #[lR p0, lR ob_2, lI (2 : Int32), lI (1 : Int32), lR w_C] [(.int 2), (.int 1)]))
 refine Go.st (fun _ => XS.icmpNo X5.here hx rfl (hb hby od23_11) rfl (tlt (by decide)).2.1) ?_
 show Go _ _ _ _ (T5.setTop (mkF m 14 #[lR p0, lR ob_2, lI (2 : Int32), lI (1 : Int32), lR w_C] []))
 refine Go.st (fun _ => XS.aloadN X5.here hx rfl (hb hby od23_14) rfl rfl) ?_
 refine Go.st (fun _ => XS.iloadN X5.here hx rfl (hb hby od23_15) rfl) ?_
 show Go _ _ _ _ (T5.setTop (mkF m 16 #[lR p0, lR ob_2, lI (2 : Int32), lI (1 : Int32), lR w_C] [(.int 1), (.ref ob_2)]))
 refine Go.st (fun _ => own_ldR X5 hx hZ e5 q1_1 (j := (1 : Int32)) (i := 1) (v := (.ref w_P)) (by decide) (by decide) rfl (g := (mkF m 16 #[lR p0, lR ob_2, lI (2 : Int32), lI (1 : Int32), lR w_C] [(.int 1), (.ref ob_2)])) rfl rfl (hb hby od23_16) _) ?_
 show Go _ _ _ _ (T5.setTop (mkF m 17 #[lR p0, lR ob_2, lI (2 : Int32), lI (1 : Int32), lR w_C] [(.ref w_P)]))
 refine Go.st (fun _ => XS.astore X5.here hx rfl (hb hby od23_17) rfl rfl (l' := #[lR p0, lR ob_2, lI (2 : Int32), lI (1 : Int32), lR w_P]) rfl) ?_
 show Go _ _ _ _ (T5.setTop (mkF m 19 #[lR p0, lR ob_2, lI (2 : Int32), lI (1 : Int32), lR w_P] []))
 refine Go.st (fun _ => XS.aload X5.here hx rfl (hb hby od23_19) rfl rfl) ?_
 show Go _ _ _ _ (T5.setTop (mkF m 21 #[lR p0, lR ob_2, lI (2 : Int32), lI (1 : Int32), lR w_P] [(.ref w_P)]))
 obtain ⟨T11, X11, e11, st11⟩ := getF X5 hx hZ hown (host := "") (Or.inl (ow hw 57 rfl)) Via.refl e5 (F_PS.ext O1.2) (g := (mkF m 21 #[lR p0, lR ob_2, lI (2 : Int32), lI (1 : Int32), lR w_P] [(.ref w_P)])) rfl rfl (hb hby od23_21)
 refine Go.st st11 ?_
 show Go _ _ _ _ (T11.setTop (mkF m 24 #[lR p0, lR ob_2, lI (2 : Int32), lI (1 : Int32), lR w_P] [(.ref w_PS)]))
 refine Go.st (fun _ => XS.aloadN X11.here hx rfl (hb hby od23_24) rfl rfl) ?_
 show Go _ _ _ _ (T11.setTop (mkF m 25 #[lR p0, lR ob_2, lI (2 : Int32), lI (1 : Int32), lR w_P] [(.ref p0), (.ref w_PS)]))
 have hcd12 : StrChars.Road.CodA ([112, 114, 111, 112, 114, 105, 101, 116, 97, 114, 121] : List Int32) 0 (11 : Int32) [(.int 112), (.int 114), (.int 111), (.int 112), (.int 114), (.int 105), (.int 101), (.int 116), (.int 97), (.int 114), (.int 121)] := StrChars.Road.codOf (n := 11) rfl (fun c hc => ((show ∀ c ∈ ([112, 114, 111, 112, 114, 105, 101, 116, 97, 114, 121] : List Int32), ¬ c < 0 ∧ ¬ (255 : Int32) < c by decide) c hc).2)
 have hcd12b : StrChars.Road.CodA pcs 0 (Int32.ofNat pcs.length) ((pcs.map StrChars.lo8).map Value.int) := StrChars.Road.codOf (n := pcs.length) rfl (fun c hc => (hpc0 c hc).2)
 obtain ⟨cq12, kq12, q12a, q12b, q12c⟩ := isOf hZ e11 (X_PS.ext O1.2)
 obtain ⟨_, _, ⟨T12, L12, k12, n12⟩, -, X12, ⟨Lc12, hQ12, l12, y12, z12⟩, st12⟩ := X11.virtualBack hx (y := (⟨"java/lang/String", "equals", "(Ljava/lang/Object;)Z"⟩ : MethodName)) (z := (⟨"java/lang/String", "equals", "(Ljava/lang/Object;)Z"⟩ : MethodName)) hown (mvT hZ (ow hw 59 rfl)) (mvT hZ (ow hw 60 rfl)) (notFace_of_selects (args := #[]) (mvT hZ (ow hw 62 rfl))) (mvT hZ (ow hw 62 rfl)) (mvT hZ (ow hw 61 rfl)) (by decide) (StrChars.Road.eqW (W := 0) hZ (fun d hd => hw d (own_wEq d hd)) (kI := 4) (ow hw 10 rfl) (X_PS.ext O1.2) (F_PB.ext O1.2) (I_PS_coder.ext O1.2) (V_PB.ext O1.2) hcd12 (own_up _ (show ∀ c ∈ ([112, 114, 111, 112, 114, 105, 101, 116, 97, 114, 121] : List Int32), ¬ c < 0 ∧ ¬ (255 : Int32) < c by decide)) (Nat.le_of_ble_eq_true rfl) c6 c7 c8 c9 hcd12b (own_up _ hpc0) hle0 (S_CS.ext O1.2) nz_CS (by decide) (by decide)) q12a q12c (g := (mkF m 25 #[lR p0, lR ob_2, lI (2 : Int32), lI (1 : Int32), lR w_P] [(.ref p0), (.ref w_PS)])) rfl (by rw [hml]; rfl) (Steps.refl _) (argsL := [(.ref p0)]) (rest := []) (lenOf own_pd14 rfl) rfl (by show 2 * 0 + _ ≤ _; exact Nat.le_of_eq rfl) (hb hby od23_25) (fun _ _ => ⟨rfl, e11, (by decide : 1 + 0 ≤ _), (by decide : 2 + 0 ≤ _)⟩)
 dsimp only [Pt.U, Pt.locs, Pt.cells, Pt.slots] at X12 l12 y12 z12 st12 hQ12
 subst y12 z12
 refine Go.tr st12 ?_
 obtain ⟨hor12, rfl, e12⟩ := hQ12
 have N12 : Fr n0 L12 := by rw [l12]; exact Fr.app N5 (Fr.nil n0)
 obtain ⟨rfl, heq12⟩ := hor12.elim (fun q => absurd q.2 hcc) id
 show Go _ _ _ _ (T12.setTop (mkF m 28 #[lR p0, lR ob_2, lI (2 : Int32), lI (1 : Int32), lR w_P] [(.int 0)]))
 refine Go.st (fun _ => XS.ifYes X12.here hx rfl (pc0 := 28) (pc' := 37) rfl (hb hby od23_28) rfl ((if0 _ _).trans (teq (by decide)).1) (by decide) (by decide)) ?_
 show Go _ _ _ _ (T12.setTop (mkF m 37 #[lR p0, lR ob_2, lI (2 : Int32), lI (1 : Int32), lR w_P] []))
 refine Go.st (fun _ => XS.iinc X12.here hx rfl (hb hby od23_37) rfl (l' := #[lR p0, lR ob_2, lI (2 : Int32), lI (2 : Int32), lR w_P]) rfl) ?_
 show Go _ _ _ _ (T12.setTop (mkF m 40 #[lR p0, lR ob_2, lI (2 : Int32), lI (2 : Int32), lR w_P] []))
 refine Go.st (fun _ => XS.goto X12.here hx rfl (pc0 := 40) (pc' := 9) rfl (hb hby od23_40) (by decide) (by decide)) ?_
 show Go _ _ _ _ (T12.setTop (mkF m 9 #[lR p0, lR ob_2, lI (2 : Int32), lI (2 : Int32), lR w_P] []))
 refine Go.st (fun _ => XS.iloadN X12.here hx rfl (hb hby od23_9) rfl) ?_
 refine Go.st (fun _ => XS.iloadN X12.here hx rfl (hb hby od23_10) rfl) ?_
 show Go _ _ _ _ (T12.setTop (mkF m 11 #[lR p0, lR ob_2, lI (2 : Int32), lI (2 : Int32), lR w_P] [(.int 2), (.int 2)]))
 refine Go.st (fun _ => XS.icmpYes X12.here hx rfl (pc0 := 11) (pc' := 43) rfl (hb hby od23_11) rfl (flt (by decide)).2.1 (by decide) (by decide)) ?_
 show Go _ _ _ _ (T12.setTop (mkF m 43 #[lR p0, lR ob_2, lI (2 : Int32), lI (2 : Int32), lR w_P] []))
 obtain ⟨_, _, ⟨T13, L13, k13, n13⟩, -, X13, ⟨Lc13, hQ13, l13, y13, z13⟩, st13⟩ := Jvm.LawKit.callS X12 hx (y := (⟨"java/util/Optional", "empty", "()Ljava/util/Optional;"⟩ : MethodName)) hown (mvT hZ (ow hw 101 rfl)) (mvT hZ (ow hw 102 rfl)) (mvT hZ (ow hw 71 rfl)) (mvT hZ (ow hw 103 rfl)) (by decide) (backOf (W := 0) (rm_oem l Z a0 hw [] w_OE S_OE X_OE I_OE_value T1.heap n0 O1 ) hZ (ow hw 103 rfl) (ow hw 71 rfl) (by decide) (by decide)) (g := (mkF m 43 #[lR p0, lR ob_2, lI (2 : Int32), lI (2 : Int32), lR w_P] [])) rfl (by rw [hml]; rfl) (argsL := []) (rest := []) (lenOf own_pd15 rfl) rfl (by show 2 * 0 + _ ≤ _; exact Nat.le_of_eq rfl) (hb hby od23_43) (fun _ _ => ⟨rfl, e12, (by decide : 1 + 0 ≤ _), (by decide : 2 + 0 ≤ _)⟩)
 dsimp only [Pt.U, Pt.locs, Pt.cells, Pt.slots] at X13 l13 y13 z13 st13 hQ13
 subst y13 z13
 refine Go.st st13 ?_
 obtain ⟨rfl, N13q, e13⟩ := hQ13
 have N13 : Fr n0 L13 := by rw [l13]; exact Fr.app N12 N13q
 show Go _ _ _ _ (T13.setTop (mkF m 46 #[lR p0, lR ob_2, lI (2 : Int32), lI (2 : Int32), lR w_P] [(.ref w_OE)]))
 obtain ⟨fs, hr, hrun, hended, hW, hsame⟩ := X13.leave (v := some (.ref w_OE)) (fun h => by rw [Bd.returns] at h; cases h)
 refine ⟨_, ?_, hPend _ _ hrun hended ⟨_, _, rfl, ?_, ⟨_, rfl⟩, hW, hsame.mono (by decide) (by decide)⟩⟩
 ·exact retOut X13 hx (t := (.object "java/util/Optional")) Bd.returns rfl (Or.inr (Or.inr (Or.inr (Or.inr ⟨rfl, rfl, rfl⟩)))) (hb hby od23_46) hr
 ·show Q_rm_byo Z _ _ _ _ _ _ _ _ _ _ _ _ _ _ _ _ _ h0 n0 _ T13.heap _
  rw [e13]
  exact ⟨rfl, N13, K1⟩
theorem own_all {xs : List Int32} (h : ∀ c ∈ xs, ¬ c < 0 ∧ ¬ (255 : Int32) < c) : ∀ c ∈ xs, ¬ c < 0 ∧ ¬ (255 : Int32) < c := h
theorem own_prefW {xs : List Int32} {c : Int32} (h : ∀ c ∈ xs, ¬ c < 0 ∧ ¬ (255 : Int32) < c) : ∀ t, t < xs.length → ¬ (255 : Int32) < (xs ++ [c]).getD t 0 := fun t ht => by
  rw [List.getD_eq_getElem?_getD, List.getElem?_append_left ht, List.getElem?_eq_getElem ht, Option.getD_some]; exact (h _ (List.getElem_mem _)).2
theorem own_tl {xs : List Int32} {j : Nat} (h : ∀ t, t < j → ¬ (255 : Int32) < xs.getD t 0) : ∀ t, t < j → ¬ (255 : Int32) < xs.getD t 0 := h
theorem own_c16 {xs : List Int32} (h : ∀ c ∈ xs, ¬ c < 0 ∧ ¬ (65535 : Int32) < c) : own_C xs := fun t ht => by
  rw [List.getD_eq_getElem?_getD, List.getElem?_eq_getElem ht, Option.getD_some]; exact h _ (List.getElem_mem _)
theorem own_c16s {xs : List Int32} (h : ∀ c ∈ xs, ¬ c < 0 ∧ ¬ (255 : Int32) < c) : ∀ c ∈ xs, ¬ c < 0 ∧ ¬ (65535 : Int32) < c := fun c hc => by
  have q := h c hc
  rw [Int32.lt_iff_toInt_lt, Int32.lt_iff_toInt_lt, show (0 : Int32).toInt = 0 from rfl, show (255 : Int32).toInt = 255 from rfl] at q
  rw [Int32.lt_iff_toInt_lt, Int32.lt_iff_toInt_lt, show (0 : Int32).toInt = 0 from rfl, show (65535 : Int32).toInt = 65535 from rfl]
  omega
theorem own_setC {xs : List Int32} {i : Nat} {v : Int32} (h : ∀ c ∈ xs, ¬ c < 0 ∧ ¬ (255 : Int32) < c) (hv : ¬ v < 0 ∧ ¬ (65535 : Int32) < v) : own_C (xs.set i v) := own_c16 fun c hc => by
  rcases List.mem_or_eq_of_mem_set hc with q | q
  · exact own_c16s h c q
  · rw [q]; exact hv
theorem own_setW {xs : List Int32} {i : Nat} {v : Int32} (h : ∀ c ∈ xs, ¬ c < 0 ∧ ¬ (255 : Int32) < c) (hi : i < xs.length) (hv : (255 : Int32) < v) : own_W (xs.set i v) i := by
  refine ⟨by rw [List.length_set]; exact hi, fun t ht => ?_, ?_⟩
  · rw [List.getD_eq_getElem?_getD, List.getElem?_set_ne (by omega), List.getElem?_eq_getElem (by omega), Option.getD_some]; exact (h _ (List.getElem_mem _)).2
  · rw [List.getD_eq_getElem?_getD, List.getElem?_set_self hi, Option.getD_some]; exact hv
theorem own_rem8 (x : Int32) : (¬ (x &&& 2147483647) % 8 < 0 ∧ (x &&& 2147483647) % 8 < 8) ∧ ((x &&& 2147483647) % 8).toNatClampNeg < 8 := by
  have h : (x &&& 2147483647).toInt = x.toInt % (2 ^ 31 : Nat) := c_mask x 2147483647 31 (by decide) (by decide)
  have g := (c_irem (x &&& 2147483647) 8 8 (by decide)).1 (by omega)
  have e0 : (0 : Int32).toInt = 0 := rfl
  have e1 : (8 : Int32).toInt = 8 := rfl
  refine ⟨⟨?_, ?_⟩, ?_⟩
  · rw [Int32.lt_iff_toInt_lt]; omega
  · rw [Int32.lt_iff_toInt_lt]; omega
  · show ((x &&& 2147483647) % 8).toInt.toNat < 8; omega
theorem own_rem11 (x : Int32) : (¬ (x &&& 2147483647) % 11 < 0 ∧ (x &&& 2147483647) % 11 < 11) ∧ ((x &&& 2147483647) % 11).toNatClampNeg < 11 := by
  have h : (x &&& 2147483647).toInt = x.toInt % (2 ^ 31 : Nat) := c_mask x 2147483647 31 (by decide) (by decide)
  have g := (c_irem (x &&& 2147483647) 11 11 (by decide)).1 (by omega)
  have e0 : (0 : Int32).toInt = 0 := rfl
  have e1 : (11 : Int32).toInt = 11 := rfl
  refine ⟨⟨?_, ?_⟩, ?_⟩
  · rw [Int32.lt_iff_toInt_lt]; omega
  · rw [Int32.lt_iff_toInt_lt]; omega
  · show ((x &&& 2147483647) % 11).toInt.toNat < 11; omega
theorem own_one {v : Int32} (hv : ¬ v < 0 ∧ ¬ (255 : Int32) < v) : ∀ c ∈ ([v] : List Int32), ¬ c < 0 ∧ ¬ (255 : Int32) < c := fun c hc => by rw [List.mem_singleton.mp hc]; exact hv
theorem own_ef_rm_mcu (m : MethodId)  : entryFrame m #[] 0 = mkF m 0 #[] [] := by first | (simp [entryFrame, mkF, argsToLocals, Value.category]; done) | rfl
theorem own_pn6 : plainName "com/example/tidewall/tidewall/ledger/AccountClassByIdPinLaw" = true := by first | (simp [plainName, overriddenIn]; done) | decide +kernel
theorem od24_0 : decode method_3_code 0 = .ok (.bipush 8, 2) := by decide +kernel
theorem od24_2 : decode method_3_code 2 = .ok (.newarray .char, 2) := by decide +kernel
theorem od24_4 : decode method_3_code 4 = .ok (.dup, 1) := by decide +kernel
theorem od24_5 : decode method_3_code 5 = .ok (.iconst 0, 1) := by decide +kernel
theorem od24_6 : decode method_3_code 6 = .ok (.bipush 99, 2) := by decide +kernel
theorem od24_8 : decode method_3_code 8 = .ok (.castore, 1) := by decide +kernel
theorem od24_9 : decode method_3_code 9 = .ok (.dup, 1) := by decide +kernel
theorem od24_10 : decode method_3_code 10 = .ok (.iconst 1, 1) := by decide +kernel
theorem od24_11 : decode method_3_code 11 = .ok (.bipush 117, 2) := by decide +kernel
theorem od24_13 : decode method_3_code 13 = .ok (.castore, 1) := by decide +kernel
theorem od24_14 : decode method_3_code 14 = .ok (.dup, 1) := by decide +kernel
theorem od24_15 : decode method_3_code 15 = .ok (.iconst 2, 1) := by decide +kernel
theorem od24_16 : decode method_3_code 16 = .ok (.bipush 115, 2) := by decide +kernel
theorem od24_18 : decode method_3_code 18 = .ok (.castore, 1) := by decide +kernel
theorem od24_19 : decode method_3_code 19 = .ok (.dup, 1) := by decide +kernel
theorem od24_20 : decode method_3_code 20 = .ok (.iconst 3, 1) := by decide +kernel
theorem od24_21 : decode method_3_code 21 = .ok (.bipush 116, 2) := by decide +kernel
theorem od24_23 : decode method_3_code 23 = .ok (.castore, 1) := by decide +kernel
theorem od24_24 : decode method_3_code 24 = .ok (.dup, 1) := by decide +kernel
theorem od24_25 : decode method_3_code 25 = .ok (.iconst 4, 1) := by decide +kernel
theorem od24_26 : decode method_3_code 26 = .ok (.bipush 111, 2) := by decide +kernel
theorem od24_28 : decode method_3_code 28 = .ok (.castore, 1) := by decide +kernel
theorem od24_29 : decode method_3_code 29 = .ok (.dup, 1) := by decide +kernel
theorem od24_30 : decode method_3_code 30 = .ok (.iconst 5, 1) := by decide +kernel
theorem od24_31 : decode method_3_code 31 = .ok (.bipush 109, 2) := by decide +kernel
theorem od24_33 : decode method_3_code 33 = .ok (.castore, 1) := by decide +kernel
theorem od24_34 : decode method_3_code 34 = .ok (.dup, 1) := by decide +kernel
theorem od24_35 : decode method_3_code 35 = .ok (.bipush 6, 2) := by decide +kernel
theorem od24_37 : decode method_3_code 37 = .ok (.bipush 101, 2) := by decide +kernel
theorem od24_39 : decode method_3_code 39 = .ok (.castore, 1) := by decide +kernel
theorem od24_40 : decode method_3_code 40 = .ok (.dup, 1) := by decide +kernel
theorem od24_41 : decode method_3_code 41 = .ok (.bipush 7, 2) := by decide +kernel
theorem od24_43 : decode method_3_code 43 = .ok (.bipush 114, 2) := by decide +kernel
theorem od24_45 : decode method_3_code 45 = .ok (.castore, 1) := by decide +kernel
theorem od24_46 : decode method_3_code 46 = .ok (.areturn, 1) := by decide +kernel
def Q_rm_mcu (Z : State)  (h0 : Heap) (n0 : Nat) (v : Option Value) (h : Heap) (L : List Loc) : Prop := ∃ (ob : Addr) (kb : ClassId), v = some (.ref ob) ∧ Fr n0 L ∧ Keep h0 h [] ∧ h0.size ≤ ob ∧ Arv Z h ob kb .char (8 : Int32) [(.int 99), (.int 117), (.int 115), (.int 116), (.int 111), (.int 109), (.int 101), (.int 114)] (.int 0)
set_option maxRecDepth 65536 in
set_option maxHeartbeats 40000000 in
theorem rm_mcu (l : Launch) (Z : State) (a0 : Array Value) (hw : ∀ d ∈ tables_1, d.before a0 Z = true) (ws : List Jvm.Cond)  (h0 : Heap) (n0 : Nat) (X00 : Old Z n0 h0)  :
    MetFree l (⟨"com/example/tidewall/tidewall/ledger/AccountClassByIdPinLaw", "cust", "()[C"⟩ : MethodName) (head1 (Jvm.Cond.code (⟨"com/example/tidewall/tidewall/ledger/AccountClassByIdPinLaw", "cust", "()[C"⟩ : MethodName) method_3_code 0 (some (.array .char)) :: ws) ({ frames := 0, cells := 1, slots := 8, locals := 0 } : Room)) (fun a U => a = #[] ∧ Z.Warmed39 U.vm ∧ U.heap = h0) (fun _ _ _ _ _ => True) (fun _ U o U' => ∃ v L, o = .returned v ∧ Q_rm_mcu Z  h0 n0 v U'.heap L ∧ FrameEnd U o U' L ({ frames := 0, cells := 1, slots := 8, locals := 0 } : Room).cells ({ frames := 0, cells := 1, slots := 8, locals := 0 } : Room).slots) := by
 refine MetFree.of_bodySF (plainFor_of_name own_pn6) hisR ?_
 intro p e s m args below meth c s₁ Bd hml0 hP hK
 obtain ⟨rfl, hZ, hh⟩ := hP
 have hx := Bd.exec
 have hby := Bd.bytes
 have hml : c.maxLocals = 0 := hml0
 have hown : s.vm.findClass "com/example/tidewall/tidewall/ledger/AccountClassByIdPinLaw" = some m.cls := findClass_of_methodNamed Bd.named
 have hnm := (name_of_methodNamed Bd.named Bd.method).1
 have X0 : Stand p l e ({ frames := 0, cells := 1, slots := 8, locals := 0 } : Room) s m #[] below meth c s₁ [] 0 0 := Stand.of_body Bd
 have e0 : s₁.heap = h0 := by rw [← hh, Bd.state]; rfl
 have N0 := Fr.nil n0
 refine Go.start fun P hPend => ?_
 refine Go.st (fun _ k => castTop (own_ef_rm_mcu m ) k) ?_
 show Go _ _ _ _ (s₁.setTop (mkF m 0 #[] []))
 refine Go.st (fun _ => XS.bipush X0.here hx rfl (hb hby od24_0)) ?_
 show Go _ _ _ _ (s₁.setTop (mkF m 2 #[] [(.int 8)]))
 obtain ⟨T1, h1, k1, X1, e1, E1, A1, st1⟩ := newP X0 hx hZ (ow hw 5 rfl) e0 (g := (mkF m 2 #[] [(.int 8)])) rfl (hb hby od24_2) rfl (by decide) (cap := 8) (by decide) (by decide) (by decide) (by decide)
 obtain ⟨b1, g1⟩ : ∃ z, z = h0.size := ⟨_, rfl⟩
 rw [← g1] at A1 st1
 refine Go.st st1 ?_
 have g_b1 : n0 ≤ b1 := Nat.le_trans (own_oldsz X00) (Nat.le_of_eq g1.symm)
 have sz_b1 : h0.size ≤ b1 := Nat.le_trans (Keep.refl h0 []).1 (Nat.le_of_eq g1.symm)
 have K1 : Keep h0 h1 [] := (Keep.refl h0 []).ext E1
 have O1 := X00.ext E1
 have V1 : Arv Z h1 b1 k1 .char (8 : Int32) [(.int 0), (.int 0), (.int 0), (.int 0), (.int 0), (.int 0), (.int 0), (.int 0)] (.int 0) := (Arv.new A1 (by decide)).pad (pad_rep [] (.int 0) 8)
 show Go _ _ _ _ (T1.setTop (mkF m 4 #[] [(.ref b1)]))
 refine Go.st (fun _ => XS.dup X1.here hx rfl (hb hby od24_4) rfl rfl) ?_
 refine Go.st (fun _ => XS.iconst X1.here hx rfl (hb hby od24_5)) ?_
 refine Go.st (fun _ => XS.bipush X1.here hx rfl (hb hby od24_6)) ?_
 show Go _ _ _ _ (T1.setTop (mkF m 8 #[] [(.int 99), (.int 0), (.ref b1), (.ref b1)]))
 obtain ⟨T2, h2, X2, e2, W2, V2, st2⟩ := own_stC X1 hx hZ e1 V1 (j := (0 : Int32)) (i := 0) (by decide) (by decide) (Nat.le_of_ble_eq_true rfl) (g := (mkF m 8 #[] [(.int 99), (.int 0), (.ref b1), (.ref b1)])) rfl rfl (hb hby od24_8)
 refine Go.st st2 ?_
 have K2 : Keep h0 h2 [] := K1.wr W2 (Or.inr sz_b1)
 have O2 := O1.wr W2 g_b1
 have N2 := Fr.snoc X2 N0 g_b1
 have V2' : Arv Z h2 b1 k1 .char (8 : Int32) [(.int 99), (.int 0), (.int 0), (.int 0), (.int 0), (.int 0), (.int 0), (.int 0)] (.int 0) := V2
 show Go _ _ _ _ (T2.setTop (mkF m 9 #[] [(.ref b1)]))
 refine Go.st (fun _ => XS.dup X2.here hx rfl (hb hby od24_9) rfl rfl) ?_
 refine Go.st (fun _ => XS.iconst X2.here hx rfl (hb hby od24_10)) ?_
 refine Go.st (fun _ => XS.bipush X2.here hx rfl (hb hby od24_11)) ?_
 show Go _ _ _ _ (T2.setTop (mkF m 13 #[] [(.int 117), (.int 1), (.ref b1), (.ref b1)]))
 obtain ⟨T3, h3, X3, e3, W3, V3, st3⟩ := own_stC X2 hx hZ e2 V2' (j := (1 : Int32)) (i := 1) (by decide) (by decide) (Nat.le_of_ble_eq_true rfl) (g := (mkF m 13 #[] [(.int 117), (.int 1), (.ref b1), (.ref b1)])) rfl rfl (hb hby od24_13)
 refine Go.st st3 ?_
 have K3 : Keep h0 h3 [] := K2.wr W3 (Or.inr sz_b1)
 have O3 := O2.wr W3 g_b1
 have N3 := Fr.snoc X3 N2 g_b1
 have V3' : Arv Z h3 b1 k1 .char (8 : Int32) [(.int 99), (.int 117), (.int 0), (.int 0), (.int 0), (.int 0), (.int 0), (.int 0)] (.int 0) := V3
 show Go _ _ _ _ (T3.setTop (mkF m 14 #[] [(.ref b1)]))
 refine Go.st (fun _ => XS.dup X3.here hx rfl (hb hby od24_14) rfl rfl) ?_
 refine Go.st (fun _ => XS.iconst X3.here hx rfl (hb hby od24_15)) ?_
 refine Go.st (fun _ => XS.bipush X3.here hx rfl (hb hby od24_16)) ?_
 show Go _ _ _ _ (T3.setTop (mkF m 18 #[] [(.int 115), (.int 2), (.ref b1), (.ref b1)]))
 obtain ⟨T4, h4, X4, e4, W4, V4, st4⟩ := own_stC X3 hx hZ e3 V3' (j := (2 : Int32)) (i := 2) (by decide) (by decide) (Nat.le_of_ble_eq_true rfl) (g := (mkF m 18 #[] [(.int 115), (.int 2), (.ref b1), (.ref b1)])) rfl rfl (hb hby od24_18)
 refine Go.st st4 ?_
 have K4 : Keep h0 h4 [] := K3.wr W4 (Or.inr sz_b1)
 have O4 := O3.wr W4 g_b1
 have N4 := Fr.snoc X4 N3 g_b1
 have V4' : Arv Z h4 b1 k1 .char (8 : Int32) [(.int 99), (.int 117), (.int 115), (.int 0), (.int 0), (.int 0), (.int 0), (.int 0)] (.int 0) := V4
 show Go _ _ _ _ (T4.setTop (mkF m 19 #[] [(.ref b1)]))
 refine Go.st (fun _ => XS.dup X4.here hx rfl (hb hby od24_19) rfl rfl) ?_
 refine Go.st (fun _ => XS.iconst X4.here hx rfl (hb hby od24_20)) ?_
 refine Go.st (fun _ => XS.bipush X4.here hx rfl (hb hby od24_21)) ?_
 show Go _ _ _ _ (T4.setTop (mkF m 23 #[] [(.int 116), (.int 3), (.ref b1), (.ref b1)]))
 obtain ⟨T5, h5, X5, e5, W5, V5, st5⟩ := own_stC X4 hx hZ e4 V4' (j := (3 : Int32)) (i := 3) (by decide) (by decide) (Nat.le_of_ble_eq_true rfl) (g := (mkF m 23 #[] [(.int 116), (.int 3), (.ref b1), (.ref b1)])) rfl rfl (hb hby od24_23)
 refine Go.st st5 ?_
 have K5 : Keep h0 h5 [] := K4.wr W5 (Or.inr sz_b1)
 have O5 := O4.wr W5 g_b1
 have N5 := Fr.snoc X5 N4 g_b1
 have V5' : Arv Z h5 b1 k1 .char (8 : Int32) [(.int 99), (.int 117), (.int 115), (.int 116), (.int 0), (.int 0), (.int 0), (.int 0)] (.int 0) := V5
 show Go _ _ _ _ (T5.setTop (mkF m 24 #[] [(.ref b1)]))
 refine Go.st (fun _ => XS.dup X5.here hx rfl (hb hby od24_24) rfl rfl) ?_
 refine Go.st (fun _ => XS.iconst X5.here hx rfl (hb hby od24_25)) ?_
 refine Go.st (fun _ => XS.bipush X5.here hx rfl (hb hby od24_26)) ?_
 show Go _ _ _ _ (T5.setTop (mkF m 28 #[] [(.int 111), (.int 4), (.ref b1), (.ref b1)]))
 obtain ⟨T6, h6, X6, e6, W6, V6, st6⟩ := own_stC X5 hx hZ e5 V5' (j := (4 : Int32)) (i := 4) (by decide) (by decide) (Nat.le_of_ble_eq_true rfl) (g := (mkF m 28 #[] [(.int 111), (.int 4), (.ref b1), (.ref b1)])) rfl rfl (hb hby od24_28)
 refine Go.st st6 ?_
 have K6 : Keep h0 h6 [] := K5.wr W6 (Or.inr sz_b1)
 have O6 := O5.wr W6 g_b1
 have N6 := Fr.snoc X6 N5 g_b1
 have V6' : Arv Z h6 b1 k1 .char (8 : Int32) [(.int 99), (.int 117), (.int 115), (.int 116), (.int 111), (.int 0), (.int 0), (.int 0)] (.int 0) := V6
 show Go _ _ _ _ (T6.setTop (mkF m 29 #[] [(.ref b1)]))
 refine Go.st (fun _ => XS.dup X6.here hx rfl (hb hby od24_29) rfl rfl) ?_
 refine Go.st (fun _ => XS.iconst X6.here hx rfl (hb hby od24_30)) ?_
 refine Go.st (fun _ => XS.bipush X6.here hx rfl (hb hby od24_31)) ?_
 show Go _ _ _ _ (T6.setTop (mkF m 33 #[] [(.int 109), (.int 5), (.ref b1), (.ref b1)]))
 obtain ⟨T7, h7, X7, e7, W7, V7, st7⟩ := own_stC X6 hx hZ e6 V6' (j := (5 : Int32)) (i := 5) (by decide) (by decide) (Nat.le_of_ble_eq_true rfl) (g := (mkF m 33 #[] [(.int 109), (.int 5), (.ref b1), (.ref b1)])) rfl rfl (hb hby od24_33)
 refine Go.st st7 ?_
 have K7 : Keep h0 h7 [] := K6.wr W7 (Or.inr sz_b1)
 have O7 := O6.wr W7 g_b1
 have N7 := Fr.snoc X7 N6 g_b1
 have V7' : Arv Z h7 b1 k1 .char (8 : Int32) [(.int 99), (.int 117), (.int 115), (.int 116), (.int 111), (.int 109), (.int 0), (.int 0)] (.int 0) := V7
 show Go _ _ _ _ (T7.setTop (mkF m 34 #[] [(.ref b1)]))
 refine Go.st (fun _ => XS.dup X7.here hx rfl (hb hby od24_34) rfl rfl) ?_
 refine Go.st (fun _ => XS.bipush X7.here hx rfl (hb hby od24_35)) ?_
 refine Go.st (fun _ => XS.bipush X7.here hx rfl (hb hby od24_37)) ?_
 show Go _ _ _ _ (T7.setTop (mkF m 39 #[] [(.int 101), (.int 6), (.ref b1), (.ref b1)]))
 obtain ⟨T8, h8, X8, e8, W8, V8, st8⟩ := own_stC X7 hx hZ e7 V7' (j := (6 : Int32)) (i := 6) (by decide) (by decide) (Nat.le_of_ble_eq_true rfl) (g := (mkF m 39 #[] [(.int 101), (.int 6), (.ref b1), (.ref b1)])) rfl rfl (hb hby od24_39)
 refine Go.st st8 ?_
 have K8 : Keep h0 h8 [] := K7.wr W8 (Or.inr sz_b1)
 have O8 := O7.wr W8 g_b1
 have N8 := Fr.snoc X8 N7 g_b1
 have V8' : Arv Z h8 b1 k1 .char (8 : Int32) [(.int 99), (.int 117), (.int 115), (.int 116), (.int 111), (.int 109), (.int 101), (.int 0)] (.int 0) := V8
 show Go _ _ _ _ (T8.setTop (mkF m 40 #[] [(.ref b1)]))
 refine Go.st (fun _ => XS.dup X8.here hx rfl (hb hby od24_40) rfl rfl) ?_
 refine Go.st (fun _ => XS.bipush X8.here hx rfl (hb hby od24_41)) ?_
 refine Go.st (fun _ => XS.bipush X8.here hx rfl (hb hby od24_43)) ?_
 show Go _ _ _ _ (T8.setTop (mkF m 45 #[] [(.int 114), (.int 7), (.ref b1), (.ref b1)]))
 obtain ⟨T9, h9, X9, e9, W9, V9, st9⟩ := own_stC X8 hx hZ e8 V8' (j := (7 : Int32)) (i := 7) (by decide) (by decide) (Nat.le_of_ble_eq_true rfl) (g := (mkF m 45 #[] [(.int 114), (.int 7), (.ref b1), (.ref b1)])) rfl rfl (hb hby od24_45)
 refine Go.st st9 ?_
 have K9 : Keep h0 h9 [] := K8.wr W9 (Or.inr sz_b1)
 have O9 := O8.wr W9 g_b1
 have N9 := Fr.snoc X9 N8 g_b1
 have V9' : Arv Z h9 b1 k1 .char (8 : Int32) [(.int 99), (.int 117), (.int 115), (.int 116), (.int 111), (.int 109), (.int 101), (.int 114)] (.int 0) := V9
 show Go _ _ _ _ (T9.setTop (mkF m 46 #[] [(.ref b1)]))
 obtain ⟨fs, hr, hrun, hended, hW, hsame⟩ := X9.leave (v := some (.ref b1)) (fun h => by rw [Bd.returns] at h; cases h)
 refine ⟨_, ?_, hPend _ _ hrun hended ⟨_, _, rfl, ?_, ⟨_, rfl⟩, hW, hsame.mono (by decide) (by decide)⟩⟩
 ·exact retOut X9 hx (t := (.array .char)) Bd.returns rfl (Or.inr (Or.inr (Or.inr (Or.inr ⟨rfl, rfl, rfl⟩)))) (hb hby od24_46) hr
 ·show Q_rm_mcu Z  h0 n0 _ T9.heap _
  rw [e9]
  exact ⟨b1, k1, rfl, N9, K9, sz_b1, V9'⟩
theorem own_ef_rm_mpr (m : MethodId)  : entryFrame m #[] 0 = mkF m 0 #[] [] := by first | (simp [entryFrame, mkF, argsToLocals, Value.category]; done) | rfl
theorem od25_0 : decode method_4_code 0 = .ok (.bipush 11, 2) := by decide +kernel
theorem od25_2 : decode method_4_code 2 = .ok (.newarray .char, 2) := by decide +kernel
theorem od25_4 : decode method_4_code 4 = .ok (.dup, 1) := by decide +kernel
theorem od25_5 : decode method_4_code 5 = .ok (.iconst 0, 1) := by decide +kernel
theorem od25_6 : decode method_4_code 6 = .ok (.bipush 112, 2) := by decide +kernel
theorem od25_8 : decode method_4_code 8 = .ok (.castore, 1) := by decide +kernel
theorem od25_9 : decode method_4_code 9 = .ok (.dup, 1) := by decide +kernel
theorem od25_10 : decode method_4_code 10 = .ok (.iconst 1, 1) := by decide +kernel
theorem od25_11 : decode method_4_code 11 = .ok (.bipush 114, 2) := by decide +kernel
theorem od25_13 : decode method_4_code 13 = .ok (.castore, 1) := by decide +kernel
theorem od25_14 : decode method_4_code 14 = .ok (.dup, 1) := by decide +kernel
theorem od25_15 : decode method_4_code 15 = .ok (.iconst 2, 1) := by decide +kernel
theorem od25_16 : decode method_4_code 16 = .ok (.bipush 111, 2) := by decide +kernel
theorem od25_18 : decode method_4_code 18 = .ok (.castore, 1) := by decide +kernel
theorem od25_19 : decode method_4_code 19 = .ok (.dup, 1) := by decide +kernel
theorem od25_20 : decode method_4_code 20 = .ok (.iconst 3, 1) := by decide +kernel
theorem od25_21 : decode method_4_code 21 = .ok (.bipush 112, 2) := by decide +kernel
theorem od25_23 : decode method_4_code 23 = .ok (.castore, 1) := by decide +kernel
theorem od25_24 : decode method_4_code 24 = .ok (.dup, 1) := by decide +kernel
theorem od25_25 : decode method_4_code 25 = .ok (.iconst 4, 1) := by decide +kernel
theorem od25_26 : decode method_4_code 26 = .ok (.bipush 114, 2) := by decide +kernel
theorem od25_28 : decode method_4_code 28 = .ok (.castore, 1) := by decide +kernel
theorem od25_29 : decode method_4_code 29 = .ok (.dup, 1) := by decide +kernel
theorem od25_30 : decode method_4_code 30 = .ok (.iconst 5, 1) := by decide +kernel
theorem od25_31 : decode method_4_code 31 = .ok (.bipush 105, 2) := by decide +kernel
theorem od25_33 : decode method_4_code 33 = .ok (.castore, 1) := by decide +kernel
theorem od25_34 : decode method_4_code 34 = .ok (.dup, 1) := by decide +kernel
theorem od25_35 : decode method_4_code 35 = .ok (.bipush 6, 2) := by decide +kernel
theorem od25_37 : decode method_4_code 37 = .ok (.bipush 101, 2) := by decide +kernel
theorem od25_39 : decode method_4_code 39 = .ok (.castore, 1) := by decide +kernel
theorem od25_40 : decode method_4_code 40 = .ok (.dup, 1) := by decide +kernel
theorem od25_41 : decode method_4_code 41 = .ok (.bipush 7, 2) := by decide +kernel
theorem od25_43 : decode method_4_code 43 = .ok (.bipush 116, 2) := by decide +kernel
theorem od25_45 : decode method_4_code 45 = .ok (.castore, 1) := by decide +kernel
theorem od25_46 : decode method_4_code 46 = .ok (.dup, 1) := by decide +kernel
theorem od25_47 : decode method_4_code 47 = .ok (.bipush 8, 2) := by decide +kernel
theorem od25_49 : decode method_4_code 49 = .ok (.bipush 97, 2) := by decide +kernel
theorem od25_51 : decode method_4_code 51 = .ok (.castore, 1) := by decide +kernel
theorem od25_52 : decode method_4_code 52 = .ok (.dup, 1) := by decide +kernel
theorem od25_53 : decode method_4_code 53 = .ok (.bipush 9, 2) := by decide +kernel
theorem od25_55 : decode method_4_code 55 = .ok (.bipush 114, 2) := by decide +kernel
theorem od25_57 : decode method_4_code 57 = .ok (.castore, 1) := by decide +kernel
theorem od25_58 : decode method_4_code 58 = .ok (.dup, 1) := by decide +kernel
theorem od25_59 : decode method_4_code 59 = .ok (.bipush 10, 2) := by decide +kernel
theorem od25_61 : decode method_4_code 61 = .ok (.bipush 121, 2) := by decide +kernel
theorem od25_63 : decode method_4_code 63 = .ok (.castore, 1) := by decide +kernel
theorem od25_64 : decode method_4_code 64 = .ok (.areturn, 1) := by decide +kernel
def Q_rm_mpr (Z : State)  (h0 : Heap) (n0 : Nat) (v : Option Value) (h : Heap) (L : List Loc) : Prop := ∃ (ob : Addr) (kb : ClassId), v = some (.ref ob) ∧ Fr n0 L ∧ Keep h0 h [] ∧ h0.size ≤ ob ∧ Arv Z h ob kb .char (11 : Int32) [(.int 112), (.int 114), (.int 111), (.int 112), (.int 114), (.int 105), (.int 101), (.int 116), (.int 97), (.int 114), (.int 121)] (.int 0)
set_option maxRecDepth 65536 in
set_option maxHeartbeats 40000000 in
theorem rm_mpr (l : Launch) (Z : State) (a0 : Array Value) (hw : ∀ d ∈ tables_1, d.before a0 Z = true) (ws : List Jvm.Cond)  (h0 : Heap) (n0 : Nat) (X00 : Old Z n0 h0)  :
    MetFree l (⟨"com/example/tidewall/tidewall/ledger/AccountClassByIdPinLaw", "prop", "()[C"⟩ : MethodName) (head1 (Jvm.Cond.code (⟨"com/example/tidewall/tidewall/ledger/AccountClassByIdPinLaw", "prop", "()[C"⟩ : MethodName) method_4_code 0 (some (.array .char)) :: ws) ({ frames := 0, cells := 1, slots := 11, locals := 0 } : Room)) (fun a U => a = #[] ∧ Z.Warmed39 U.vm ∧ U.heap = h0) (fun _ _ _ _ _ => True) (fun _ U o U' => ∃ v L, o = .returned v ∧ Q_rm_mpr Z  h0 n0 v U'.heap L ∧ FrameEnd U o U' L ({ frames := 0, cells := 1, slots := 11, locals := 0 } : Room).cells ({ frames := 0, cells := 1, slots := 11, locals := 0 } : Room).slots) := by
 refine MetFree.of_bodySF (plainFor_of_name own_pn6) hisR ?_
 intro p e s m args below meth c s₁ Bd hml0 hP hK
 obtain ⟨rfl, hZ, hh⟩ := hP
 have hx := Bd.exec
 have hby := Bd.bytes
 have hml : c.maxLocals = 0 := hml0
 have hown : s.vm.findClass "com/example/tidewall/tidewall/ledger/AccountClassByIdPinLaw" = some m.cls := findClass_of_methodNamed Bd.named
 have hnm := (name_of_methodNamed Bd.named Bd.method).1
 have X0 : Stand p l e ({ frames := 0, cells := 1, slots := 11, locals := 0 } : Room) s m #[] below meth c s₁ [] 0 0 := Stand.of_body Bd
 have e0 : s₁.heap = h0 := by rw [← hh, Bd.state]; rfl
 have N0 := Fr.nil n0
 refine Go.start fun P hPend => ?_
 refine Go.st (fun _ k => castTop (own_ef_rm_mpr m ) k) ?_
 show Go _ _ _ _ (s₁.setTop (mkF m 0 #[] []))
 refine Go.st (fun _ => XS.bipush X0.here hx rfl (hb hby od25_0)) ?_
 show Go _ _ _ _ (s₁.setTop (mkF m 2 #[] [(.int 11)]))
 obtain ⟨T1, h1, k1, X1, e1, E1, A1, st1⟩ := newP X0 hx hZ (ow hw 5 rfl) e0 (g := (mkF m 2 #[] [(.int 11)])) rfl (hb hby od25_2) rfl (by decide) (cap := 11) (by decide) (by decide) (by decide) (by decide)
 obtain ⟨b1, g1⟩ : ∃ z, z = h0.size := ⟨_, rfl⟩
 rw [← g1] at A1 st1
 refine Go.st st1 ?_
 have g_b1 : n0 ≤ b1 := Nat.le_trans (own_oldsz X00) (Nat.le_of_eq g1.symm)
 have sz_b1 : h0.size ≤ b1 := Nat.le_trans (Keep.refl h0 []).1 (Nat.le_of_eq g1.symm)
 have K1 : Keep h0 h1 [] := (Keep.refl h0 []).ext E1
 have O1 := X00.ext E1
 have V1 : Arv Z h1 b1 k1 .char (11 : Int32) [(.int 0), (.int 0), (.int 0), (.int 0), (.int 0), (.int 0), (.int 0), (.int 0), (.int 0), (.int 0), (.int 0)] (.int 0) := (Arv.new A1 (by decide)).pad (pad_rep [] (.int 0) 11)
 show Go _ _ _ _ (T1.setTop (mkF m 4 #[] [(.ref b1)]))
 refine Go.st (fun _ => XS.dup X1.here hx rfl (hb hby od25_4) rfl rfl) ?_
 refine Go.st (fun _ => XS.iconst X1.here hx rfl (hb hby od25_5)) ?_
 refine Go.st (fun _ => XS.bipush X1.here hx rfl (hb hby od25_6)) ?_
 show Go _ _ _ _ (T1.setTop (mkF m 8 #[] [(.int 112), (.int 0), (.ref b1), (.ref b1)]))
 obtain ⟨T2, h2, X2, e2, W2, V2, st2⟩ := own_stC X1 hx hZ e1 V1 (j := (0 : Int32)) (i := 0) (by decide) (by decide) (Nat.le_of_ble_eq_true rfl) (g := (mkF m 8 #[] [(.int 112), (.int 0), (.ref b1), (.ref b1)])) rfl rfl (hb hby od25_8)
 refine Go.st st2 ?_
 have K2 : Keep h0 h2 [] := K1.wr W2 (Or.inr sz_b1)
 have O2 := O1.wr W2 g_b1
 have N2 := Fr.snoc X2 N0 g_b1
 have V2' : Arv Z h2 b1 k1 .char (11 : Int32) [(.int 112), (.int 0), (.int 0), (.int 0), (.int 0), (.int 0), (.int 0), (.int 0), (.int 0), (.int 0), (.int 0)] (.int 0) := V2
 show Go _ _ _ _ (T2.setTop (mkF m 9 #[] [(.ref b1)]))
 refine Go.st (fun _ => XS.dup X2.here hx rfl (hb hby od25_9) rfl rfl) ?_
 refine Go.st (fun _ => XS.iconst X2.here hx rfl (hb hby od25_10)) ?_
 refine Go.st (fun _ => XS.bipush X2.here hx rfl (hb hby od25_11)) ?_
 show Go _ _ _ _ (T2.setTop (mkF m 13 #[] [(.int 114), (.int 1), (.ref b1), (.ref b1)]))
 obtain ⟨T3, h3, X3, e3, W3, V3, st3⟩ := own_stC X2 hx hZ e2 V2' (j := (1 : Int32)) (i := 1) (by decide) (by decide) (Nat.le_of_ble_eq_true rfl) (g := (mkF m 13 #[] [(.int 114), (.int 1), (.ref b1), (.ref b1)])) rfl rfl (hb hby od25_13)
 refine Go.st st3 ?_
 have K3 : Keep h0 h3 [] := K2.wr W3 (Or.inr sz_b1)
 have O3 := O2.wr W3 g_b1
 have N3 := Fr.snoc X3 N2 g_b1
 have V3' : Arv Z h3 b1 k1 .char (11 : Int32) [(.int 112), (.int 114), (.int 0), (.int 0), (.int 0), (.int 0), (.int 0), (.int 0), (.int 0), (.int 0), (.int 0)] (.int 0) := V3
 show Go _ _ _ _ (T3.setTop (mkF m 14 #[] [(.ref b1)]))
 refine Go.st (fun _ => XS.dup X3.here hx rfl (hb hby od25_14) rfl rfl) ?_
 refine Go.st (fun _ => XS.iconst X3.here hx rfl (hb hby od25_15)) ?_
 refine Go.st (fun _ => XS.bipush X3.here hx rfl (hb hby od25_16)) ?_
 show Go _ _ _ _ (T3.setTop (mkF m 18 #[] [(.int 111), (.int 2), (.ref b1), (.ref b1)]))
 obtain ⟨T4, h4, X4, e4, W4, V4, st4⟩ := own_stC X3 hx hZ e3 V3' (j := (2 : Int32)) (i := 2) (by decide) (by decide) (Nat.le_of_ble_eq_true rfl) (g := (mkF m 18 #[] [(.int 111), (.int 2), (.ref b1), (.ref b1)])) rfl rfl (hb hby od25_18)
 refine Go.st st4 ?_
 have K4 : Keep h0 h4 [] := K3.wr W4 (Or.inr sz_b1)
 have O4 := O3.wr W4 g_b1
 have N4 := Fr.snoc X4 N3 g_b1
 have V4' : Arv Z h4 b1 k1 .char (11 : Int32) [(.int 112), (.int 114), (.int 111), (.int 0), (.int 0), (.int 0), (.int 0), (.int 0), (.int 0), (.int 0), (.int 0)] (.int 0) := V4
 show Go _ _ _ _ (T4.setTop (mkF m 19 #[] [(.ref b1)]))
 refine Go.st (fun _ => XS.dup X4.here hx rfl (hb hby od25_19) rfl rfl) ?_
 refine Go.st (fun _ => XS.iconst X4.here hx rfl (hb hby od25_20)) ?_
 refine Go.st (fun _ => XS.bipush X4.here hx rfl (hb hby od25_21)) ?_
 show Go _ _ _ _ (T4.setTop (mkF m 23 #[] [(.int 112), (.int 3), (.ref b1), (.ref b1)]))
 obtain ⟨T5, h5, X5, e5, W5, V5, st5⟩ := own_stC X4 hx hZ e4 V4' (j := (3 : Int32)) (i := 3) (by decide) (by decide) (Nat.le_of_ble_eq_true rfl) (g := (mkF m 23 #[] [(.int 112), (.int 3), (.ref b1), (.ref b1)])) rfl rfl (hb hby od25_23)
 refine Go.st st5 ?_
 have K5 : Keep h0 h5 [] := K4.wr W5 (Or.inr sz_b1)
 have O5 := O4.wr W5 g_b1
 have N5 := Fr.snoc X5 N4 g_b1
 have V5' : Arv Z h5 b1 k1 .char (11 : Int32) [(.int 112), (.int 114), (.int 111), (.int 112), (.int 0), (.int 0), (.int 0), (.int 0), (.int 0), (.int 0), (.int 0)] (.int 0) := V5
 show Go _ _ _ _ (T5.setTop (mkF m 24 #[] [(.ref b1)]))
 refine Go.st (fun _ => XS.dup X5.here hx rfl (hb hby od25_24) rfl rfl) ?_
 refine Go.st (fun _ => XS.iconst X5.here hx rfl (hb hby od25_25)) ?_
 refine Go.st (fun _ => XS.bipush X5.here hx rfl (hb hby od25_26)) ?_
 show Go _ _ _ _ (T5.setTop (mkF m 28 #[] [(.int 114), (.int 4), (.ref b1), (.ref b1)]))
 obtain ⟨T6, h6, X6, e6, W6, V6, st6⟩ := own_stC X5 hx hZ e5 V5' (j := (4 : Int32)) (i := 4) (by decide) (by decide) (Nat.le_of_ble_eq_true rfl) (g := (mkF m 28 #[] [(.int 114), (.int 4), (.ref b1), (.ref b1)])) rfl rfl (hb hby od25_28)
 refine Go.st st6 ?_
 have K6 : Keep h0 h6 [] := K5.wr W6 (Or.inr sz_b1)
 have O6 := O5.wr W6 g_b1
 have N6 := Fr.snoc X6 N5 g_b1
 have V6' : Arv Z h6 b1 k1 .char (11 : Int32) [(.int 112), (.int 114), (.int 111), (.int 112), (.int 114), (.int 0), (.int 0), (.int 0), (.int 0), (.int 0), (.int 0)] (.int 0) := V6
 show Go _ _ _ _ (T6.setTop (mkF m 29 #[] [(.ref b1)]))
 refine Go.st (fun _ => XS.dup X6.here hx rfl (hb hby od25_29) rfl rfl) ?_
 refine Go.st (fun _ => XS.iconst X6.here hx rfl (hb hby od25_30)) ?_
 refine Go.st (fun _ => XS.bipush X6.here hx rfl (hb hby od25_31)) ?_
 show Go _ _ _ _ (T6.setTop (mkF m 33 #[] [(.int 105), (.int 5), (.ref b1), (.ref b1)]))
 obtain ⟨T7, h7, X7, e7, W7, V7, st7⟩ := own_stC X6 hx hZ e6 V6' (j := (5 : Int32)) (i := 5) (by decide) (by decide) (Nat.le_of_ble_eq_true rfl) (g := (mkF m 33 #[] [(.int 105), (.int 5), (.ref b1), (.ref b1)])) rfl rfl (hb hby od25_33)
 refine Go.st st7 ?_
 have K7 : Keep h0 h7 [] := K6.wr W7 (Or.inr sz_b1)
 have O7 := O6.wr W7 g_b1
 have N7 := Fr.snoc X7 N6 g_b1
 have V7' : Arv Z h7 b1 k1 .char (11 : Int32) [(.int 112), (.int 114), (.int 111), (.int 112), (.int 114), (.int 105), (.int 0), (.int 0), (.int 0), (.int 0), (.int 0)] (.int 0) := V7
 show Go _ _ _ _ (T7.setTop (mkF m 34 #[] [(.ref b1)]))
 refine Go.st (fun _ => XS.dup X7.here hx rfl (hb hby od25_34) rfl rfl) ?_
 refine Go.st (fun _ => XS.bipush X7.here hx rfl (hb hby od25_35)) ?_
 refine Go.st (fun _ => XS.bipush X7.here hx rfl (hb hby od25_37)) ?_
 show Go _ _ _ _ (T7.setTop (mkF m 39 #[] [(.int 101), (.int 6), (.ref b1), (.ref b1)]))
 obtain ⟨T8, h8, X8, e8, W8, V8, st8⟩ := own_stC X7 hx hZ e7 V7' (j := (6 : Int32)) (i := 6) (by decide) (by decide) (Nat.le_of_ble_eq_true rfl) (g := (mkF m 39 #[] [(.int 101), (.int 6), (.ref b1), (.ref b1)])) rfl rfl (hb hby od25_39)
 refine Go.st st8 ?_
 have K8 : Keep h0 h8 [] := K7.wr W8 (Or.inr sz_b1)
 have O8 := O7.wr W8 g_b1
 have N8 := Fr.snoc X8 N7 g_b1
 have V8' : Arv Z h8 b1 k1 .char (11 : Int32) [(.int 112), (.int 114), (.int 111), (.int 112), (.int 114), (.int 105), (.int 101), (.int 0), (.int 0), (.int 0), (.int 0)] (.int 0) := V8
 show Go _ _ _ _ (T8.setTop (mkF m 40 #[] [(.ref b1)]))
 refine Go.st (fun _ => XS.dup X8.here hx rfl (hb hby od25_40) rfl rfl) ?_
 refine Go.st (fun _ => XS.bipush X8.here hx rfl (hb hby od25_41)) ?_
 refine Go.st (fun _ => XS.bipush X8.here hx rfl (hb hby od25_43)) ?_
 show Go _ _ _ _ (T8.setTop (mkF m 45 #[] [(.int 116), (.int 7), (.ref b1), (.ref b1)]))
 obtain ⟨T9, h9, X9, e9, W9, V9, st9⟩ := own_stC X8 hx hZ e8 V8' (j := (7 : Int32)) (i := 7) (by decide) (by decide) (Nat.le_of_ble_eq_true rfl) (g := (mkF m 45 #[] [(.int 116), (.int 7), (.ref b1), (.ref b1)])) rfl rfl (hb hby od25_45)
 refine Go.st st9 ?_
 have K9 : Keep h0 h9 [] := K8.wr W9 (Or.inr sz_b1)
 have O9 := O8.wr W9 g_b1
 have N9 := Fr.snoc X9 N8 g_b1
 have V9' : Arv Z h9 b1 k1 .char (11 : Int32) [(.int 112), (.int 114), (.int 111), (.int 112), (.int 114), (.int 105), (.int 101), (.int 116), (.int 0), (.int 0), (.int 0)] (.int 0) := V9
 show Go _ _ _ _ (T9.setTop (mkF m 46 #[] [(.ref b1)]))
 refine Go.st (fun _ => XS.dup X9.here hx rfl (hb hby od25_46) rfl rfl) ?_
 refine Go.st (fun _ => XS.bipush X9.here hx rfl (hb hby od25_47)) ?_
 refine Go.st (fun _ => XS.bipush X9.here hx rfl (hb hby od25_49)) ?_
 show Go _ _ _ _ (T9.setTop (mkF m 51 #[] [(.int 97), (.int 8), (.ref b1), (.ref b1)]))
 obtain ⟨T10, h10, X10, e10, W10, V10, st10⟩ := own_stC X9 hx hZ e9 V9' (j := (8 : Int32)) (i := 8) (by decide) (by decide) (Nat.le_of_ble_eq_true rfl) (g := (mkF m 51 #[] [(.int 97), (.int 8), (.ref b1), (.ref b1)])) rfl rfl (hb hby od25_51)
 refine Go.st st10 ?_
 have K10 : Keep h0 h10 [] := K9.wr W10 (Or.inr sz_b1)
 have O10 := O9.wr W10 g_b1
 have N10 := Fr.snoc X10 N9 g_b1
 have V10' : Arv Z h10 b1 k1 .char (11 : Int32) [(.int 112), (.int 114), (.int 111), (.int 112), (.int 114), (.int 105), (.int 101), (.int 116), (.int 97), (.int 0), (.int 0)] (.int 0) := V10
 show Go _ _ _ _ (T10.setTop (mkF m 52 #[] [(.ref b1)]))
 refine Go.st (fun _ => XS.dup X10.here hx rfl (hb hby od25_52) rfl rfl) ?_
 refine Go.st (fun _ => XS.bipush X10.here hx rfl (hb hby od25_53)) ?_
 refine Go.st (fun _ => XS.bipush X10.here hx rfl (hb hby od25_55)) ?_
 show Go _ _ _ _ (T10.setTop (mkF m 57 #[] [(.int 114), (.int 9), (.ref b1), (.ref b1)]))
 obtain ⟨T11, h11, X11, e11, W11, V11, st11⟩ := own_stC X10 hx hZ e10 V10' (j := (9 : Int32)) (i := 9) (by decide) (by decide) (Nat.le_of_ble_eq_true rfl) (g := (mkF m 57 #[] [(.int 114), (.int 9), (.ref b1), (.ref b1)])) rfl rfl (hb hby od25_57)
 refine Go.st st11 ?_
 have K11 : Keep h0 h11 [] := K10.wr W11 (Or.inr sz_b1)
 have O11 := O10.wr W11 g_b1
 have N11 := Fr.snoc X11 N10 g_b1
 have V11' : Arv Z h11 b1 k1 .char (11 : Int32) [(.int 112), (.int 114), (.int 111), (.int 112), (.int 114), (.int 105), (.int 101), (.int 116), (.int 97), (.int 114), (.int 0)] (.int 0) := V11
 show Go _ _ _ _ (T11.setTop (mkF m 58 #[] [(.ref b1)]))
 refine Go.st (fun _ => XS.dup X11.here hx rfl (hb hby od25_58) rfl rfl) ?_
 refine Go.st (fun _ => XS.bipush X11.here hx rfl (hb hby od25_59)) ?_
 refine Go.st (fun _ => XS.bipush X11.here hx rfl (hb hby od25_61)) ?_
 show Go _ _ _ _ (T11.setTop (mkF m 63 #[] [(.int 121), (.int 10), (.ref b1), (.ref b1)]))
 obtain ⟨T12, h12, X12, e12, W12, V12, st12⟩ := own_stC X11 hx hZ e11 V11' (j := (10 : Int32)) (i := 10) (by decide) (by decide) (Nat.le_of_ble_eq_true rfl) (g := (mkF m 63 #[] [(.int 121), (.int 10), (.ref b1), (.ref b1)])) rfl rfl (hb hby od25_63)
 refine Go.st st12 ?_
 have K12 : Keep h0 h12 [] := K11.wr W12 (Or.inr sz_b1)
 have O12 := O11.wr W12 g_b1
 have N12 := Fr.snoc X12 N11 g_b1
 have V12' : Arv Z h12 b1 k1 .char (11 : Int32) [(.int 112), (.int 114), (.int 111), (.int 112), (.int 114), (.int 105), (.int 101), (.int 116), (.int 97), (.int 114), (.int 121)] (.int 0) := V12
 show Go _ _ _ _ (T12.setTop (mkF m 64 #[] [(.ref b1)]))
 obtain ⟨fs, hr, hrun, hended, hW, hsame⟩ := X12.leave (v := some (.ref b1)) (fun h => by rw [Bd.returns] at h; cases h)
 refine ⟨_, ?_, hPend _ _ hrun hended ⟨_, _, rfl, ?_, ⟨_, rfl⟩, hW, hsame.mono (by decide) (by decide)⟩⟩
 ·exact retOut X12 hx (t := (.array .char)) Bd.returns rfl (Or.inr (Or.inr (Or.inr (Or.inr ⟨rfl, rfl, rfl⟩)))) (hb hby od25_64) hr
 ·show Q_rm_mpr Z  h0 n0 _ T12.heap _
  rw [e12]
  exact ⟨b1, k1, rfl, N12, K12, sz_b1, V12'⟩
theorem own_ef_rm_mcs (m : MethodId) (x0 : Int32) : entryFrame m #[(.int x0)] 1 = mkF m 0 #[.val (.int x0)] [] := by first | (simp [entryFrame, mkF, argsToLocals, Value.category]; done) | rfl
theorem od26_0 : decode method_5_code 0 = .ok (.iload_n 0, 1) := by decide +kernel
theorem od26_1 : decode method_5_code 1 = .ok (.ifCond .eq 44, 3) := by decide +kernel
theorem od26_45 : decode method_5_code 45 = .ok (.bipush 7, 2) := by decide +kernel
theorem od26_47 : decode method_5_code 47 = .ok (.newarray .char, 2) := by decide +kernel
theorem od26_49 : decode method_5_code 49 = .ok (.dup, 1) := by decide +kernel
theorem od26_50 : decode method_5_code 50 = .ok (.iconst 0, 1) := by decide +kernel
theorem od26_51 : decode method_5_code 51 = .ok (.bipush 99, 2) := by decide +kernel
theorem od26_53 : decode method_5_code 53 = .ok (.castore, 1) := by decide +kernel
theorem od26_54 : decode method_5_code 54 = .ok (.dup, 1) := by decide +kernel
theorem od26_55 : decode method_5_code 55 = .ok (.iconst 1, 1) := by decide +kernel
theorem od26_56 : decode method_5_code 56 = .ok (.bipush 117, 2) := by decide +kernel
theorem od26_58 : decode method_5_code 58 = .ok (.castore, 1) := by decide +kernel
theorem od26_59 : decode method_5_code 59 = .ok (.dup, 1) := by decide +kernel
theorem od26_60 : decode method_5_code 60 = .ok (.iconst 2, 1) := by decide +kernel
theorem od26_61 : decode method_5_code 61 = .ok (.bipush 115, 2) := by decide +kernel
theorem od26_63 : decode method_5_code 63 = .ok (.castore, 1) := by decide +kernel
theorem od26_64 : decode method_5_code 64 = .ok (.dup, 1) := by decide +kernel
theorem od26_65 : decode method_5_code 65 = .ok (.iconst 3, 1) := by decide +kernel
theorem od26_66 : decode method_5_code 66 = .ok (.bipush 116, 2) := by decide +kernel
theorem od26_68 : decode method_5_code 68 = .ok (.castore, 1) := by decide +kernel
theorem od26_69 : decode method_5_code 69 = .ok (.dup, 1) := by decide +kernel
theorem od26_70 : decode method_5_code 70 = .ok (.iconst 4, 1) := by decide +kernel
theorem od26_71 : decode method_5_code 71 = .ok (.bipush 111, 2) := by decide +kernel
theorem od26_73 : decode method_5_code 73 = .ok (.castore, 1) := by decide +kernel
theorem od26_74 : decode method_5_code 74 = .ok (.dup, 1) := by decide +kernel
theorem od26_75 : decode method_5_code 75 = .ok (.iconst 5, 1) := by decide +kernel
theorem od26_76 : decode method_5_code 76 = .ok (.bipush 109, 2) := by decide +kernel
theorem od26_78 : decode method_5_code 78 = .ok (.castore, 1) := by decide +kernel
theorem od26_79 : decode method_5_code 79 = .ok (.dup, 1) := by decide +kernel
theorem od26_80 : decode method_5_code 80 = .ok (.bipush 6, 2) := by decide +kernel
theorem od26_82 : decode method_5_code 82 = .ok (.bipush 101, 2) := by decide +kernel
theorem od26_84 : decode method_5_code 84 = .ok (.castore, 1) := by decide +kernel
theorem od26_85 : decode method_5_code 85 = .ok (.areturn, 1) := by decide +kernel
theorem od26_4 : decode method_5_code 4 = .ok (.bipush 7, 2) := by decide +kernel
theorem od26_6 : decode method_5_code 6 = .ok (.newarray .char, 2) := by decide +kernel
theorem od26_8 : decode method_5_code 8 = .ok (.dup, 1) := by decide +kernel
theorem od26_9 : decode method_5_code 9 = .ok (.iconst 0, 1) := by decide +kernel
theorem od26_10 : decode method_5_code 10 = .ok (.bipush 117, 2) := by decide +kernel
theorem od26_12 : decode method_5_code 12 = .ok (.castore, 1) := by decide +kernel
theorem od26_13 : decode method_5_code 13 = .ok (.dup, 1) := by decide +kernel
theorem od26_14 : decode method_5_code 14 = .ok (.iconst 1, 1) := by decide +kernel
theorem od26_15 : decode method_5_code 15 = .ok (.bipush 115, 2) := by decide +kernel
theorem od26_17 : decode method_5_code 17 = .ok (.castore, 1) := by decide +kernel
theorem od26_18 : decode method_5_code 18 = .ok (.dup, 1) := by decide +kernel
theorem od26_19 : decode method_5_code 19 = .ok (.iconst 2, 1) := by decide +kernel
theorem od26_20 : decode method_5_code 20 = .ok (.bipush 116, 2) := by decide +kernel
theorem od26_22 : decode method_5_code 22 = .ok (.castore, 1) := by decide +kernel
theorem od26_23 : decode method_5_code 23 = .ok (.dup, 1) := by decide +kernel
theorem od26_24 : decode method_5_code 24 = .ok (.iconst 3, 1) := by decide +kernel
theorem od26_25 : decode method_5_code 25 = .ok (.bipush 111, 2) := by decide +kernel
theorem od26_27 : decode method_5_code 27 = .ok (.castore, 1) := by decide +kernel
theorem od26_28 : decode method_5_code 28 = .ok (.dup, 1) := by decide +kernel
theorem od26_29 : decode method_5_code 29 = .ok (.iconst 4, 1) := by decide +kernel
theorem od26_30 : decode method_5_code 30 = .ok (.bipush 109, 2) := by decide +kernel
theorem od26_32 : decode method_5_code 32 = .ok (.castore, 1) := by decide +kernel
theorem od26_33 : decode method_5_code 33 = .ok (.dup, 1) := by decide +kernel
theorem od26_34 : decode method_5_code 34 = .ok (.iconst 5, 1) := by decide +kernel
theorem od26_35 : decode method_5_code 35 = .ok (.bipush 101, 2) := by decide +kernel
theorem od26_37 : decode method_5_code 37 = .ok (.castore, 1) := by decide +kernel
theorem od26_38 : decode method_5_code 38 = .ok (.dup, 1) := by decide +kernel
theorem od26_39 : decode method_5_code 39 = .ok (.bipush 6, 2) := by decide +kernel
theorem od26_41 : decode method_5_code 41 = .ok (.bipush 114, 2) := by decide +kernel
theorem od26_43 : decode method_5_code 43 = .ok (.castore, 1) := by decide +kernel
theorem od26_44 : decode method_5_code 44 = .ok (.areturn, 1) := by decide +kernel
def Q_rm_mcs (Z : State) (p0 : Int32) (h0 : Heap) (n0 : Nat) (v : Option Value) (h : Heap) (L : List Loc) : Prop := ∃ (ob : Addr) (kb : ClassId) (xs : List Int32), v = some (.ref ob) ∧ Fr n0 L ∧ Keep h0 h [] ∧ h0.size ≤ ob ∧ Arv Z h ob kb .char (7 : Int32) (xs.map Value.int) (.int 0) ∧ (xs.length = 7 ∧ ∀ c ∈ xs, ¬ c < 0 ∧ ¬ (255 : Int32) < c)
set_option maxRecDepth 65536 in
set_option maxHeartbeats 40000000 in
theorem rm_mcs (l : Launch) (Z : State) (a0 : Array Value) (hw : ∀ d ∈ tables_1, d.before a0 Z = true) (ws : List Jvm.Cond) (p0 : Int32) (h0 : Heap) (n0 : Nat) (X00 : Old Z n0 h0)  :
    MetFree l (⟨"com/example/tidewall/tidewall/ledger/AccountClassByIdPinLaw", "custShort", "(Z)[C"⟩ : MethodName) (head1 (Jvm.Cond.code (⟨"com/example/tidewall/tidewall/ledger/AccountClassByIdPinLaw", "custShort", "(Z)[C"⟩ : MethodName) method_5_code 1 (some (.array .char)) :: ws) ({ frames := 0, cells := 1, slots := 7, locals := 0 } : Room)) (fun a U => a = #[(.int p0)] ∧ Z.Warmed39 U.vm ∧ U.heap = h0) (fun _ _ _ _ _ => True) (fun _ U o U' => ∃ v L, o = .returned v ∧ Q_rm_mcs Z p0 h0 n0 v U'.heap L ∧ FrameEnd U o U' L ({ frames := 0, cells := 1, slots := 7, locals := 0 } : Room).cells ({ frames := 0, cells := 1, slots := 7, locals := 0 } : Room).slots) := by
 refine MetFree.of_bodySF (plainFor_of_name own_pn6) hisR ?_
 intro p e s m args below meth c s₁ Bd hml0 hP hK
 obtain ⟨rfl, hZ, hh⟩ := hP
 have hx := Bd.exec
 have hby := Bd.bytes
 have hml : c.maxLocals = 1 := hml0
 have hown : s.vm.findClass "com/example/tidewall/tidewall/ledger/AccountClassByIdPinLaw" = some m.cls := findClass_of_methodNamed Bd.named
 have hnm := (name_of_methodNamed Bd.named Bd.method).1
 have X0 : Stand p l e ({ frames := 0, cells := 1, slots := 7, locals := 0 } : Room) s m #[(.int p0)] below meth c s₁ [] 0 0 := Stand.of_body Bd
 have e0 : s₁.heap = h0 := by rw [← hh, Bd.state]; rfl
 have N0 := Fr.nil n0
 refine Go.start fun P hPend => ?_
 refine Go.st (fun _ k => castTop (own_ef_rm_mcs m p0) k) ?_
 show Go _ _ _ _ (s₁.setTop (mkF m 0 #[lI p0] []))
 refine Go.st (fun _ => XS.iloadN X0.here hx rfl (hb hby od26_0) rfl) ?_
 show Go _ _ _ _ (s₁.setTop (mkF m 1 #[lI p0] [(.int p0)]))
 by_cases hc1 : p0 = (0 : Int32)
 ·skip
  refine Go.st (fun _ => XS.ifYes X0.here hx rfl (pc0 := 1) (pc' := 45) rfl (hb hby od26_1) rfl ((if0 _ _).trans (teq hc1).1) (by decide) (by decide)) ?_
  show Go _ _ _ _ (s₁.setTop (mkF m 45 #[lI p0] []))
  refine Go.st (fun _ => XS.bipush X0.here hx rfl (hb hby od26_45)) ?_
  show Go _ _ _ _ (s₁.setTop (mkF m 47 #[lI p0] [(.int 7)]))
  obtain ⟨T2, h2, k2, X2, e2, E2, A2, st2⟩ := newP X0 hx hZ (ow hw 5 rfl) e0 (g := (mkF m 47 #[lI p0] [(.int 7)])) rfl (hb hby od26_47) rfl (by decide) (cap := 7) (by decide) (by decide) (by decide) (by decide)
  obtain ⟨b2, g2⟩ : ∃ z, z = h0.size := ⟨_, rfl⟩
  rw [← g2] at A2 st2
  refine Go.st st2 ?_
  have g_b2 : n0 ≤ b2 := Nat.le_trans (own_oldsz X00) (Nat.le_of_eq g2.symm)
  have sz_b2 : h0.size ≤ b2 := Nat.le_trans (Keep.refl h0 []).1 (Nat.le_of_eq g2.symm)
  have K2 : Keep h0 h2 [] := (Keep.refl h0 []).ext E2
  have O2 := X00.ext E2
  have V2 : Arv Z h2 b2 k2 .char (7 : Int32) [(.int 0), (.int 0), (.int 0), (.int 0), (.int 0), (.int 0), (.int 0)] (.int 0) := (Arv.new A2 (by decide)).pad (pad_rep [] (.int 0) 7)
  show Go _ _ _ _ (T2.setTop (mkF m 49 #[lI p0] [(.ref b2)]))
  refine Go.st (fun _ => XS.dup X2.here hx rfl (hb hby od26_49) rfl rfl) ?_
  refine Go.st (fun _ => XS.iconst X2.here hx rfl (hb hby od26_50)) ?_
  refine Go.st (fun _ => XS.bipush X2.here hx rfl (hb hby od26_51)) ?_
  show Go _ _ _ _ (T2.setTop (mkF m 53 #[lI p0] [(.int 99), (.int 0), (.ref b2), (.ref b2)]))
  obtain ⟨T3, h3, X3, e3, W3, V3, st3⟩ := own_stC X2 hx hZ e2 V2 (j := (0 : Int32)) (i := 0) (by decide) (by decide) (Nat.le_of_ble_eq_true rfl) (g := (mkF m 53 #[lI p0] [(.int 99), (.int 0), (.ref b2), (.ref b2)])) rfl rfl (hb hby od26_53)
  refine Go.st st3 ?_
  have K3 : Keep h0 h3 [] := K2.wr W3 (Or.inr sz_b2)
  have O3 := O2.wr W3 g_b2
  have N3 := Fr.snoc X3 N0 g_b2
  have V3' : Arv Z h3 b2 k2 .char (7 : Int32) [(.int 99), (.int 0), (.int 0), (.int 0), (.int 0), (.int 0), (.int 0)] (.int 0) := V3
  show Go _ _ _ _ (T3.setTop (mkF m 54 #[lI p0] [(.ref b2)]))
  refine Go.st (fun _ => XS.dup X3.here hx rfl (hb hby od26_54) rfl rfl) ?_
  refine Go.st (fun _ => XS.iconst X3.here hx rfl (hb hby od26_55)) ?_
  refine Go.st (fun _ => XS.bipush X3.here hx rfl (hb hby od26_56)) ?_
  show Go _ _ _ _ (T3.setTop (mkF m 58 #[lI p0] [(.int 117), (.int 1), (.ref b2), (.ref b2)]))
  obtain ⟨T4, h4, X4, e4, W4, V4, st4⟩ := own_stC X3 hx hZ e3 V3' (j := (1 : Int32)) (i := 1) (by decide) (by decide) (Nat.le_of_ble_eq_true rfl) (g := (mkF m 58 #[lI p0] [(.int 117), (.int 1), (.ref b2), (.ref b2)])) rfl rfl (hb hby od26_58)
  refine Go.st st4 ?_
  have K4 : Keep h0 h4 [] := K3.wr W4 (Or.inr sz_b2)
  have O4 := O3.wr W4 g_b2
  have N4 := Fr.snoc X4 N3 g_b2
  have V4' : Arv Z h4 b2 k2 .char (7 : Int32) [(.int 99), (.int 117), (.int 0), (.int 0), (.int 0), (.int 0), (.int 0)] (.int 0) := V4
  show Go _ _ _ _ (T4.setTop (mkF m 59 #[lI p0] [(.ref b2)]))
  refine Go.st (fun _ => XS.dup X4.here hx rfl (hb hby od26_59) rfl rfl) ?_
  refine Go.st (fun _ => XS.iconst X4.here hx rfl (hb hby od26_60)) ?_
  refine Go.st (fun _ => XS.bipush X4.here hx rfl (hb hby od26_61)) ?_
  show Go _ _ _ _ (T4.setTop (mkF m 63 #[lI p0] [(.int 115), (.int 2), (.ref b2), (.ref b2)]))
  obtain ⟨T5, h5, X5, e5, W5, V5, st5⟩ := own_stC X4 hx hZ e4 V4' (j := (2 : Int32)) (i := 2) (by decide) (by decide) (Nat.le_of_ble_eq_true rfl) (g := (mkF m 63 #[lI p0] [(.int 115), (.int 2), (.ref b2), (.ref b2)])) rfl rfl (hb hby od26_63)
  refine Go.st st5 ?_
  have K5 : Keep h0 h5 [] := K4.wr W5 (Or.inr sz_b2)
  have O5 := O4.wr W5 g_b2
  have N5 := Fr.snoc X5 N4 g_b2
  have V5' : Arv Z h5 b2 k2 .char (7 : Int32) [(.int 99), (.int 117), (.int 115), (.int 0), (.int 0), (.int 0), (.int 0)] (.int 0) := V5
  show Go _ _ _ _ (T5.setTop (mkF m 64 #[lI p0] [(.ref b2)]))
  refine Go.st (fun _ => XS.dup X5.here hx rfl (hb hby od26_64) rfl rfl) ?_
  refine Go.st (fun _ => XS.iconst X5.here hx rfl (hb hby od26_65)) ?_
  refine Go.st (fun _ => XS.bipush X5.here hx rfl (hb hby od26_66)) ?_
  show Go _ _ _ _ (T5.setTop (mkF m 68 #[lI p0] [(.int 116), (.int 3), (.ref b2), (.ref b2)]))
  obtain ⟨T6, h6, X6, e6, W6, V6, st6⟩ := own_stC X5 hx hZ e5 V5' (j := (3 : Int32)) (i := 3) (by decide) (by decide) (Nat.le_of_ble_eq_true rfl) (g := (mkF m 68 #[lI p0] [(.int 116), (.int 3), (.ref b2), (.ref b2)])) rfl rfl (hb hby od26_68)
  refine Go.st st6 ?_
  have K6 : Keep h0 h6 [] := K5.wr W6 (Or.inr sz_b2)
  have O6 := O5.wr W6 g_b2
  have N6 := Fr.snoc X6 N5 g_b2
  have V6' : Arv Z h6 b2 k2 .char (7 : Int32) [(.int 99), (.int 117), (.int 115), (.int 116), (.int 0), (.int 0), (.int 0)] (.int 0) := V6
  show Go _ _ _ _ (T6.setTop (mkF m 69 #[lI p0] [(.ref b2)]))
  refine Go.st (fun _ => XS.dup X6.here hx rfl (hb hby od26_69) rfl rfl) ?_
  refine Go.st (fun _ => XS.iconst X6.here hx rfl (hb hby od26_70)) ?_
  refine Go.st (fun _ => XS.bipush X6.here hx rfl (hb hby od26_71)) ?_
  show Go _ _ _ _ (T6.setTop (mkF m 73 #[lI p0] [(.int 111), (.int 4), (.ref b2), (.ref b2)]))
  obtain ⟨T7, h7, X7, e7, W7, V7, st7⟩ := own_stC X6 hx hZ e6 V6' (j := (4 : Int32)) (i := 4) (by decide) (by decide) (Nat.le_of_ble_eq_true rfl) (g := (mkF m 73 #[lI p0] [(.int 111), (.int 4), (.ref b2), (.ref b2)])) rfl rfl (hb hby od26_73)
  refine Go.st st7 ?_
  have K7 : Keep h0 h7 [] := K6.wr W7 (Or.inr sz_b2)
  have O7 := O6.wr W7 g_b2
  have N7 := Fr.snoc X7 N6 g_b2
  have V7' : Arv Z h7 b2 k2 .char (7 : Int32) [(.int 99), (.int 117), (.int 115), (.int 116), (.int 111), (.int 0), (.int 0)] (.int 0) := V7
  show Go _ _ _ _ (T7.setTop (mkF m 74 #[lI p0] [(.ref b2)]))
  refine Go.st (fun _ => XS.dup X7.here hx rfl (hb hby od26_74) rfl rfl) ?_
  refine Go.st (fun _ => XS.iconst X7.here hx rfl (hb hby od26_75)) ?_
  refine Go.st (fun _ => XS.bipush X7.here hx rfl (hb hby od26_76)) ?_
  show Go _ _ _ _ (T7.setTop (mkF m 78 #[lI p0] [(.int 109), (.int 5), (.ref b2), (.ref b2)]))
  obtain ⟨T8, h8, X8, e8, W8, V8, st8⟩ := own_stC X7 hx hZ e7 V7' (j := (5 : Int32)) (i := 5) (by decide) (by decide) (Nat.le_of_ble_eq_true rfl) (g := (mkF m 78 #[lI p0] [(.int 109), (.int 5), (.ref b2), (.ref b2)])) rfl rfl (hb hby od26_78)
  refine Go.st st8 ?_
  have K8 : Keep h0 h8 [] := K7.wr W8 (Or.inr sz_b2)
  have O8 := O7.wr W8 g_b2
  have N8 := Fr.snoc X8 N7 g_b2
  have V8' : Arv Z h8 b2 k2 .char (7 : Int32) [(.int 99), (.int 117), (.int 115), (.int 116), (.int 111), (.int 109), (.int 0)] (.int 0) := V8
  show Go _ _ _ _ (T8.setTop (mkF m 79 #[lI p0] [(.ref b2)]))
  refine Go.st (fun _ => XS.dup X8.here hx rfl (hb hby od26_79) rfl rfl) ?_
  refine Go.st (fun _ => XS.bipush X8.here hx rfl (hb hby od26_80)) ?_
  refine Go.st (fun _ => XS.bipush X8.here hx rfl (hb hby od26_82)) ?_
  show Go _ _ _ _ (T8.setTop (mkF m 84 #[lI p0] [(.int 101), (.int 6), (.ref b2), (.ref b2)]))
  obtain ⟨T9, h9, X9, e9, W9, V9, st9⟩ := own_stC X8 hx hZ e8 V8' (j := (6 : Int32)) (i := 6) (by decide) (by decide) (Nat.le_of_ble_eq_true rfl) (g := (mkF m 84 #[lI p0] [(.int 101), (.int 6), (.ref b2), (.ref b2)])) rfl rfl (hb hby od26_84)
  refine Go.st st9 ?_
  have K9 : Keep h0 h9 [] := K8.wr W9 (Or.inr sz_b2)
  have O9 := O8.wr W9 g_b2
  have N9 := Fr.snoc X9 N8 g_b2
  have V9' : Arv Z h9 b2 k2 .char (7 : Int32) [(.int 99), (.int 117), (.int 115), (.int 116), (.int 111), (.int 109), (.int 101)] (.int 0) := V9
  show Go _ _ _ _ (T9.setTop (mkF m 85 #[lI p0] [(.ref b2)]))
  obtain ⟨fs, hr, hrun, hended, hW, hsame⟩ := X9.leave (v := some (.ref b2)) (fun h => by rw [Bd.returns] at h; cases h)
  refine ⟨_, ?_, hPend _ _ hrun hended ⟨_, _, rfl, ?_, ⟨_, rfl⟩, hW, hsame.mono (by decide) (by decide)⟩⟩
  ·exact retOut X9 hx (t := (.array .char)) Bd.returns rfl (Or.inr (Or.inr (Or.inr (Or.inr ⟨rfl, rfl, rfl⟩)))) (hb hby od26_85) hr
  ·show Q_rm_mcs Z _ h0 n0 _ T9.heap _
   rw [e9]
   exact ⟨b2, k2, ([99, 117, 115, 116, 111, 109, 101] : List Int32), rfl, N9, K9, sz_b2, V9', (by decide)⟩
 ·skip
  refine Go.st (fun _ => XS.ifNo X0.here hx rfl (hb hby od26_1) rfl ((if0 _ _).trans (feq hc1).1)) ?_
  show Go _ _ _ _ (s₁.setTop (mkF m 4 #[lI p0] []))
  refine Go.st (fun _ => XS.bipush X0.here hx rfl (hb hby od26_4)) ?_
  show Go _ _ _ _ (s₁.setTop (mkF m 6 #[lI p0] [(.int 7)]))
  obtain ⟨T10, h10, k10, X10, e10, E10, A10, st10⟩ := newP X0 hx hZ (ow hw 5 rfl) e0 (g := (mkF m 6 #[lI p0] [(.int 7)])) rfl (hb hby od26_6) rfl (by decide) (cap := 7) (by decide) (by decide) (by decide) (by decide)
  obtain ⟨b10, g10⟩ : ∃ z, z = h0.size := ⟨_, rfl⟩
  rw [← g10] at A10 st10
  refine Go.st st10 ?_
  have g_b10 : n0 ≤ b10 := Nat.le_trans (own_oldsz X00) (Nat.le_of_eq g10.symm)
  have sz_b10 : h0.size ≤ b10 := Nat.le_trans (Keep.refl h0 []).1 (Nat.le_of_eq g10.symm)
  have K10 : Keep h0 h10 [] := (Keep.refl h0 []).ext E10
  have O10 := X00.ext E10
  have V10 : Arv Z h10 b10 k10 .char (7 : Int32) [(.int 0), (.int 0), (.int 0), (.int 0), (.int 0), (.int 0), (.int 0)] (.int 0) := (Arv.new A10 (by decide)).pad (pad_rep [] (.int 0) 7)
  show Go _ _ _ _ (T10.setTop (mkF m 8 #[lI p0] [(.ref b10)]))
  refine Go.st (fun _ => XS.dup X10.here hx rfl (hb hby od26_8) rfl rfl) ?_
  refine Go.st (fun _ => XS.iconst X10.here hx rfl (hb hby od26_9)) ?_
  refine Go.st (fun _ => XS.bipush X10.here hx rfl (hb hby od26_10)) ?_
  show Go _ _ _ _ (T10.setTop (mkF m 12 #[lI p0] [(.int 117), (.int 0), (.ref b10), (.ref b10)]))
  obtain ⟨T11, h11, X11, e11, W11, V11, st11⟩ := own_stC X10 hx hZ e10 V10 (j := (0 : Int32)) (i := 0) (by decide) (by decide) (Nat.le_of_ble_eq_true rfl) (g := (mkF m 12 #[lI p0] [(.int 117), (.int 0), (.ref b10), (.ref b10)])) rfl rfl (hb hby od26_12)
  refine Go.st st11 ?_
  have K11 : Keep h0 h11 [] := K10.wr W11 (Or.inr sz_b10)
  have O11 := O10.wr W11 g_b10
  have N11 := Fr.snoc X11 N0 g_b10
  have V11' : Arv Z h11 b10 k10 .char (7 : Int32) [(.int 117), (.int 0), (.int 0), (.int 0), (.int 0), (.int 0), (.int 0)] (.int 0) := V11
  show Go _ _ _ _ (T11.setTop (mkF m 13 #[lI p0] [(.ref b10)]))
  refine Go.st (fun _ => XS.dup X11.here hx rfl (hb hby od26_13) rfl rfl) ?_
  refine Go.st (fun _ => XS.iconst X11.here hx rfl (hb hby od26_14)) ?_
  refine Go.st (fun _ => XS.bipush X11.here hx rfl (hb hby od26_15)) ?_
  show Go _ _ _ _ (T11.setTop (mkF m 17 #[lI p0] [(.int 115), (.int 1), (.ref b10), (.ref b10)]))
  obtain ⟨T12, h12, X12, e12, W12, V12, st12⟩ := own_stC X11 hx hZ e11 V11' (j := (1 : Int32)) (i := 1) (by decide) (by decide) (Nat.le_of_ble_eq_true rfl) (g := (mkF m 17 #[lI p0] [(.int 115), (.int 1), (.ref b10), (.ref b10)])) rfl rfl (hb hby od26_17)
  refine Go.st st12 ?_
  have K12 : Keep h0 h12 [] := K11.wr W12 (Or.inr sz_b10)
  have O12 := O11.wr W12 g_b10
  have N12 := Fr.snoc X12 N11 g_b10
  have V12' : Arv Z h12 b10 k10 .char (7 : Int32) [(.int 117), (.int 115), (.int 0), (.int 0), (.int 0), (.int 0), (.int 0)] (.int 0) := V12
  show Go _ _ _ _ (T12.setTop (mkF m 18 #[lI p0] [(.ref b10)]))
  refine Go.st (fun _ => XS.dup X12.here hx rfl (hb hby od26_18) rfl rfl) ?_
  refine Go.st (fun _ => XS.iconst X12.here hx rfl (hb hby od26_19)) ?_
  refine Go.st (fun _ => XS.bipush X12.here hx rfl (hb hby od26_20)) ?_
  show Go _ _ _ _ (T12.setTop (mkF m 22 #[lI p0] [(.int 116), (.int 2), (.ref b10), (.ref b10)]))
  obtain ⟨T13, h13, X13, e13, W13, V13, st13⟩ := own_stC X12 hx hZ e12 V12' (j := (2 : Int32)) (i := 2) (by decide) (by decide) (Nat.le_of_ble_eq_true rfl) (g := (mkF m 22 #[lI p0] [(.int 116), (.int 2), (.ref b10), (.ref b10)])) rfl rfl (hb hby od26_22)
  refine Go.st st13 ?_
  have K13 : Keep h0 h13 [] := K12.wr W13 (Or.inr sz_b10)
  have O13 := O12.wr W13 g_b10
  have N13 := Fr.snoc X13 N12 g_b10
  have V13' : Arv Z h13 b10 k10 .char (7 : Int32) [(.int 117), (.int 115), (.int 116), (.int 0), (.int 0), (.int 0), (.int 0)] (.int 0) := V13
  show Go _ _ _ _ (T13.setTop (mkF m 23 #[lI p0] [(.ref b10)]))
  refine Go.st (fun _ => XS.dup X13.here hx rfl (hb hby od26_23) rfl rfl) ?_
  refine Go.st (fun _ => XS.iconst X13.here hx rfl (hb hby od26_24)) ?_
  refine Go.st (fun _ => XS.bipush X13.here hx rfl (hb hby od26_25)) ?_
  show Go _ _ _ _ (T13.setTop (mkF m 27 #[lI p0] [(.int 111), (.int 3), (.ref b10), (.ref b10)]))
  obtain ⟨T14, h14, X14, e14, W14, V14, st14⟩ := own_stC X13 hx hZ e13 V13' (j := (3 : Int32)) (i := 3) (by decide) (by decide) (Nat.le_of_ble_eq_true rfl) (g := (mkF m 27 #[lI p0] [(.int 111), (.int 3), (.ref b10), (.ref b10)])) rfl rfl (hb hby od26_27)
  refine Go.st st14 ?_
  have K14 : Keep h0 h14 [] := K13.wr W14 (Or.inr sz_b10)
  have O14 := O13.wr W14 g_b10
  have N14 := Fr.snoc X14 N13 g_b10
  have V14' : Arv Z h14 b10 k10 .char (7 : Int32) [(.int 117), (.int 115), (.int 116), (.int 111), (.int 0), (.int 0), (.int 0)] (.int 0) := V14
  show Go _ _ _ _ (T14.setTop (mkF m 28 #[lI p0] [(.ref b10)]))
  refine Go.st (fun _ => XS.dup X14.here hx rfl (hb hby od26_28) rfl rfl) ?_
  refine Go.st (fun _ => XS.iconst X14.here hx rfl (hb hby od26_29)) ?_
  refine Go.st (fun _ => XS.bipush X14.here hx rfl (hb hby od26_30)) ?_
  show Go _ _ _ _ (T14.setTop (mkF m 32 #[lI p0] [(.int 109), (.int 4), (.ref b10), (.ref b10)]))
  obtain ⟨T15, h15, X15, e15, W15, V15, st15⟩ := own_stC X14 hx hZ e14 V14' (j := (4 : Int32)) (i := 4) (by decide) (by decide) (Nat.le_of_ble_eq_true rfl) (g := (mkF m 32 #[lI p0] [(.int 109), (.int 4), (.ref b10), (.ref b10)])) rfl rfl (hb hby od26_32)
  refine Go.st st15 ?_
  have K15 : Keep h0 h15 [] := K14.wr W15 (Or.inr sz_b10)
  have O15 := O14.wr W15 g_b10
  have N15 := Fr.snoc X15 N14 g_b10
  have V15' : Arv Z h15 b10 k10 .char (7 : Int32) [(.int 117), (.int 115), (.int 116), (.int 111), (.int 109), (.int 0), (.int 0)] (.int 0) := V15
  show Go _ _ _ _ (T15.setTop (mkF m 33 #[lI p0] [(.ref b10)]))
  refine Go.st (fun _ => XS.dup X15.here hx rfl (hb hby od26_33) rfl rfl) ?_
  refine Go.st (fun _ => XS.iconst X15.here hx rfl (hb hby od26_34)) ?_
  refine Go.st (fun _ => XS.bipush X15.here hx rfl (hb hby od26_35)) ?_
  show Go _ _ _ _ (T15.setTop (mkF m 37 #[lI p0] [(.int 101), (.int 5), (.ref b10), (.ref b10)]))
  obtain ⟨T16, h16, X16, e16, W16, V16, st16⟩ := own_stC X15 hx hZ e15 V15' (j := (5 : Int32)) (i := 5) (by decide) (by decide) (Nat.le_of_ble_eq_true rfl) (g := (mkF m 37 #[lI p0] [(.int 101), (.int 5), (.ref b10), (.ref b10)])) rfl rfl (hb hby od26_37)
  refine Go.st st16 ?_
  have K16 : Keep h0 h16 [] := K15.wr W16 (Or.inr sz_b10)
  have O16 := O15.wr W16 g_b10
  have N16 := Fr.snoc X16 N15 g_b10
  have V16' : Arv Z h16 b10 k10 .char (7 : Int32) [(.int 117), (.int 115), (.int 116), (.int 111), (.int 109), (.int 101), (.int 0)] (.int 0) := V16
  show Go _ _ _ _ (T16.setTop (mkF m 38 #[lI p0] [(.ref b10)]))
  refine Go.st (fun _ => XS.dup X16.here hx rfl (hb hby od26_38) rfl rfl) ?_
  refine Go.st (fun _ => XS.bipush X16.here hx rfl (hb hby od26_39)) ?_
  refine Go.st (fun _ => XS.bipush X16.here hx rfl (hb hby od26_41)) ?_
  show Go _ _ _ _ (T16.setTop (mkF m 43 #[lI p0] [(.int 114), (.int 6), (.ref b10), (.ref b10)]))
  obtain ⟨T17, h17, X17, e17, W17, V17, st17⟩ := own_stC X16 hx hZ e16 V16' (j := (6 : Int32)) (i := 6) (by decide) (by decide) (Nat.le_of_ble_eq_true rfl) (g := (mkF m 43 #[lI p0] [(.int 114), (.int 6), (.ref b10), (.ref b10)])) rfl rfl (hb hby od26_43)
  refine Go.st st17 ?_
  have K17 : Keep h0 h17 [] := K16.wr W17 (Or.inr sz_b10)
  have O17 := O16.wr W17 g_b10
  have N17 := Fr.snoc X17 N16 g_b10
  have V17' : Arv Z h17 b10 k10 .char (7 : Int32) [(.int 117), (.int 115), (.int 116), (.int 111), (.int 109), (.int 101), (.int 114)] (.int 0) := V17
  show Go _ _ _ _ (T17.setTop (mkF m 44 #[lI p0] [(.ref b10)]))
  obtain ⟨fs, hr, hrun, hended, hW, hsame⟩ := X17.leave (v := some (.ref b10)) (fun h => by rw [Bd.returns] at h; cases h)
  refine ⟨_, ?_, hPend _ _ hrun hended ⟨_, _, rfl, ?_, ⟨_, rfl⟩, hW, hsame.mono (by decide) (by decide)⟩⟩
  ·exact retOut X17 hx (t := (.array .char)) Bd.returns rfl (Or.inr (Or.inr (Or.inr (Or.inr ⟨rfl, rfl, rfl⟩)))) (hb hby od26_44) hr
  ·show Q_rm_mcs Z _ h0 n0 _ T17.heap _
   rw [e17]
   exact ⟨b10, k10, ([117, 115, 116, 111, 109, 101, 114] : List Int32), rfl, N17, K17, sz_b10, V17', (by decide)⟩
theorem own_ef_rm_mps (m : MethodId) (x0 : Int32) : entryFrame m #[(.int x0)] 1 = mkF m 0 #[.val (.int x0)] [] := by first | (simp [entryFrame, mkF, argsToLocals, Value.category]; done) | rfl
theorem od27_0 : decode method_6_code 0 = .ok (.iload_n 0, 1) := by decide +kernel
theorem od27_1 : decode method_6_code 1 = .ok (.ifCond .eq 62, 3) := by decide +kernel
theorem od27_63 : decode method_6_code 63 = .ok (.bipush 10, 2) := by decide +kernel
theorem od27_65 : decode method_6_code 65 = .ok (.newarray .char, 2) := by decide +kernel
theorem od27_67 : decode method_6_code 67 = .ok (.dup, 1) := by decide +kernel
theorem od27_68 : decode method_6_code 68 = .ok (.iconst 0, 1) := by decide +kernel
theorem od27_69 : decode method_6_code 69 = .ok (.bipush 112, 2) := by decide +kernel
theorem od27_71 : decode method_6_code 71 = .ok (.castore, 1) := by decide +kernel
theorem od27_72 : decode method_6_code 72 = .ok (.dup, 1) := by decide +kernel
theorem od27_73 : decode method_6_code 73 = .ok (.iconst 1, 1) := by decide +kernel
theorem od27_74 : decode method_6_code 74 = .ok (.bipush 114, 2) := by decide +kernel
theorem od27_76 : decode method_6_code 76 = .ok (.castore, 1) := by decide +kernel
theorem od27_77 : decode method_6_code 77 = .ok (.dup, 1) := by decide +kernel
theorem od27_78 : decode method_6_code 78 = .ok (.iconst 2, 1) := by decide +kernel
theorem od27_79 : decode method_6_code 79 = .ok (.bipush 111, 2) := by decide +kernel
theorem od27_81 : decode method_6_code 81 = .ok (.castore, 1) := by decide +kernel
theorem od27_82 : decode method_6_code 82 = .ok (.dup, 1) := by decide +kernel
theorem od27_83 : decode method_6_code 83 = .ok (.iconst 3, 1) := by decide +kernel
theorem od27_84 : decode method_6_code 84 = .ok (.bipush 112, 2) := by decide +kernel
theorem od27_86 : decode method_6_code 86 = .ok (.castore, 1) := by decide +kernel
theorem od27_87 : decode method_6_code 87 = .ok (.dup, 1) := by decide +kernel
theorem od27_88 : decode method_6_code 88 = .ok (.iconst 4, 1) := by decide +kernel
theorem od27_89 : decode method_6_code 89 = .ok (.bipush 114, 2) := by decide +kernel
theorem od27_91 : decode method_6_code 91 = .ok (.castore, 1) := by decide +kernel
theorem od27_92 : decode method_6_code 92 = .ok (.dup, 1) := by decide +kernel
theorem od27_93 : decode method_6_code 93 = .ok (.iconst 5, 1) := by decide +kernel
theorem od27_94 : decode method_6_code 94 = .ok (.bipush 105, 2) := by decide +kernel
theorem od27_96 : decode method_6_code 96 = .ok (.castore, 1) := by decide +kernel
theorem od27_97 : decode method_6_code 97 = .ok (.dup, 1) := by decide +kernel
theorem od27_98 : decode method_6_code 98 = .ok (.bipush 6, 2) := by decide +kernel
theorem od27_100 : decode method_6_code 100 = .ok (.bipush 101, 2) := by decide +kernel
theorem od27_102 : decode method_6_code 102 = .ok (.castore, 1) := by decide +kernel
theorem od27_103 : decode method_6_code 103 = .ok (.dup, 1) := by decide +kernel
theorem od27_104 : decode method_6_code 104 = .ok (.bipush 7, 2) := by decide +kernel
theorem od27_106 : decode method_6_code 106 = .ok (.bipush 116, 2) := by decide +kernel
theorem od27_108 : decode method_6_code 108 = .ok (.castore, 1) := by decide +kernel
theorem od27_109 : decode method_6_code 109 = .ok (.dup, 1) := by decide +kernel
theorem od27_110 : decode method_6_code 110 = .ok (.bipush 8, 2) := by decide +kernel
theorem od27_112 : decode method_6_code 112 = .ok (.bipush 97, 2) := by decide +kernel
theorem od27_114 : decode method_6_code 114 = .ok (.castore, 1) := by decide +kernel
theorem od27_115 : decode method_6_code 115 = .ok (.dup, 1) := by decide +kernel
theorem od27_116 : decode method_6_code 116 = .ok (.bipush 9, 2) := by decide +kernel
theorem od27_118 : decode method_6_code 118 = .ok (.bipush 114, 2) := by decide +kernel
theorem od27_120 : decode method_6_code 120 = .ok (.castore, 1) := by decide +kernel
theorem od27_121 : decode method_6_code 121 = .ok (.areturn, 1) := by decide +kernel
theorem od27_4 : decode method_6_code 4 = .ok (.bipush 10, 2) := by decide +kernel
theorem od27_6 : decode method_6_code 6 = .ok (.newarray .char, 2) := by decide +kernel
theorem od27_8 : decode method_6_code 8 = .ok (.dup, 1) := by decide +kernel
theorem od27_9 : decode method_6_code 9 = .ok (.iconst 0, 1) := by decide +kernel
theorem od27_10 : decode method_6_code 10 = .ok (.bipush 114, 2) := by decide +kernel
theorem od27_12 : decode method_6_code 12 = .ok (.castore, 1) := by decide +kernel
theorem od27_13 : decode method_6_code 13 = .ok (.dup, 1) := by decide +kernel
theorem od27_14 : decode method_6_code 14 = .ok (.iconst 1, 1) := by decide +kernel
theorem od27_15 : decode method_6_code 15 = .ok (.bipush 111, 2) := by decide +kernel
theorem od27_17 : decode method_6_code 17 = .ok (.castore, 1) := by decide +kernel
theorem od27_18 : decode method_6_code 18 = .ok (.dup, 1) := by decide +kernel
theorem od27_19 : decode method_6_code 19 = .ok (.iconst 2, 1) := by decide +kernel
theorem od27_20 : decode method_6_code 20 = .ok (.bipush 112, 2) := by decide +kernel
theorem od27_22 : decode method_6_code 22 = .ok (.castore, 1) := by decide +kernel
theorem od27_23 : decode method_6_code 23 = .ok (.dup, 1) := by decide +kernel
theorem od27_24 : decode method_6_code 24 = .ok (.iconst 3, 1) := by decide +kernel
theorem od27_25 : decode method_6_code 25 = .ok (.bipush 114, 2) := by decide +kernel
theorem od27_27 : decode method_6_code 27 = .ok (.castore, 1) := by decide +kernel
theorem od27_28 : decode method_6_code 28 = .ok (.dup, 1) := by decide +kernel
theorem od27_29 : decode method_6_code 29 = .ok (.iconst 4, 1) := by decide +kernel
theorem od27_30 : decode method_6_code 30 = .ok (.bipush 105, 2) := by decide +kernel
theorem od27_32 : decode method_6_code 32 = .ok (.castore, 1) := by decide +kernel
theorem od27_33 : decode method_6_code 33 = .ok (.dup, 1) := by decide +kernel
theorem od27_34 : decode method_6_code 34 = .ok (.iconst 5, 1) := by decide +kernel
theorem od27_35 : decode method_6_code 35 = .ok (.bipush 101, 2) := by decide +kernel
theorem od27_37 : decode method_6_code 37 = .ok (.castore, 1) := by decide +kernel
theorem od27_38 : decode method_6_code 38 = .ok (.dup, 1) := by decide +kernel
theorem od27_39 : decode method_6_code 39 = .ok (.bipush 6, 2) := by decide +kernel
theorem od27_41 : decode method_6_code 41 = .ok (.bipush 116, 2) := by decide +kernel
theorem od27_43 : decode method_6_code 43 = .ok (.castore, 1) := by decide +kernel
theorem od27_44 : decode method_6_code 44 = .ok (.dup, 1) := by decide +kernel
theorem od27_45 : decode method_6_code 45 = .ok (.bipush 7, 2) := by decide +kernel
theorem od27_47 : decode method_6_code 47 = .ok (.bipush 97, 2) := by decide +kernel
theorem od27_49 : decode method_6_code 49 = .ok (.castore, 1) := by decide +kernel
theorem od27_50 : decode method_6_code 50 = .ok (.dup, 1) := by decide +kernel
theorem od27_51 : decode method_6_code 51 = .ok (.bipush 8, 2) := by decide +kernel
theorem od27_53 : decode method_6_code 53 = .ok (.bipush 114, 2) := by decide +kernel
theorem od27_55 : decode method_6_code 55 = .ok (.castore, 1) := by decide +kernel
theorem od27_56 : decode method_6_code 56 = .ok (.dup, 1) := by decide +kernel
theorem od27_57 : decode method_6_code 57 = .ok (.bipush 9, 2) := by decide +kernel
theorem od27_59 : decode method_6_code 59 = .ok (.bipush 121, 2) := by decide +kernel
theorem od27_61 : decode method_6_code 61 = .ok (.castore, 1) := by decide +kernel
theorem od27_62 : decode method_6_code 62 = .ok (.areturn, 1) := by decide +kernel
def Q_rm_mps (Z : State) (p0 : Int32) (h0 : Heap) (n0 : Nat) (v : Option Value) (h : Heap) (L : List Loc) : Prop := ∃ (ob : Addr) (kb : ClassId) (xs : List Int32), v = some (.ref ob) ∧ Fr n0 L ∧ Keep h0 h [] ∧ h0.size ≤ ob ∧ Arv Z h ob kb .char (10 : Int32) (xs.map Value.int) (.int 0) ∧ (xs.length = 10 ∧ ∀ c ∈ xs, ¬ c < 0 ∧ ¬ (255 : Int32) < c)
set_option maxRecDepth 65536 in
set_option maxHeartbeats 40000000 in
theorem rm_mps (l : Launch) (Z : State) (a0 : Array Value) (hw : ∀ d ∈ tables_1, d.before a0 Z = true) (ws : List Jvm.Cond) (p0 : Int32) (h0 : Heap) (n0 : Nat) (X00 : Old Z n0 h0)  :
    MetFree l (⟨"com/example/tidewall/tidewall/ledger/AccountClassByIdPinLaw", "propShort", "(Z)[C"⟩ : MethodName) (head1 (Jvm.Cond.code (⟨"com/example/tidewall/tidewall/ledger/AccountClassByIdPinLaw", "propShort", "(Z)[C"⟩ : MethodName) method_6_code 1 (some (.array .char)) :: ws) ({ frames := 0, cells := 1, slots := 10, locals := 0 } : Room)) (fun a U => a = #[(.int p0)] ∧ Z.Warmed39 U.vm ∧ U.heap = h0) (fun _ _ _ _ _ => True) (fun _ U o U' => ∃ v L, o = .returned v ∧ Q_rm_mps Z p0 h0 n0 v U'.heap L ∧ FrameEnd U o U' L ({ frames := 0, cells := 1, slots := 10, locals := 0 } : Room).cells ({ frames := 0, cells := 1, slots := 10, locals := 0 } : Room).slots) := by
 refine MetFree.of_bodySF (plainFor_of_name own_pn6) hisR ?_
 intro p e s m args below meth c s₁ Bd hml0 hP hK
 obtain ⟨rfl, hZ, hh⟩ := hP
 have hx := Bd.exec
 have hby := Bd.bytes
 have hml : c.maxLocals = 1 := hml0
 have hown : s.vm.findClass "com/example/tidewall/tidewall/ledger/AccountClassByIdPinLaw" = some m.cls := findClass_of_methodNamed Bd.named
 have hnm := (name_of_methodNamed Bd.named Bd.method).1
 have X0 : Stand p l e ({ frames := 0, cells := 1, slots := 10, locals := 0 } : Room) s m #[(.int p0)] below meth c s₁ [] 0 0 := Stand.of_body Bd
 have e0 : s₁.heap = h0 := by rw [← hh, Bd.state]; rfl
 have N0 := Fr.nil n0
 refine Go.start fun P hPend => ?_
 refine Go.st (fun _ k => castTop (own_ef_rm_mps m p0) k) ?_
 show Go _ _ _ _ (s₁.setTop (mkF m 0 #[lI p0] []))
 refine Go.st (fun _ => XS.iloadN X0.here hx rfl (hb hby od27_0) rfl) ?_
 show Go _ _ _ _ (s₁.setTop (mkF m 1 #[lI p0] [(.int p0)]))
 by_cases hc1 : p0 = (0 : Int32)
 ·skip
  refine Go.st (fun _ => XS.ifYes X0.here hx rfl (pc0 := 1) (pc' := 63) rfl (hb hby od27_1) rfl ((if0 _ _).trans (teq hc1).1) (by decide) (by decide)) ?_
  show Go _ _ _ _ (s₁.setTop (mkF m 63 #[lI p0] []))
  refine Go.st (fun _ => XS.bipush X0.here hx rfl (hb hby od27_63)) ?_
  show Go _ _ _ _ (s₁.setTop (mkF m 65 #[lI p0] [(.int 10)]))
  obtain ⟨T2, h2, k2, X2, e2, E2, A2, st2⟩ := newP X0 hx hZ (ow hw 5 rfl) e0 (g := (mkF m 65 #[lI p0] [(.int 10)])) rfl (hb hby od27_65) rfl (by decide) (cap := 10) (by decide) (by decide) (by decide) (by decide)
  obtain ⟨b2, g2⟩ : ∃ z, z = h0.size := ⟨_, rfl⟩
  rw [← g2] at A2 st2
  refine Go.st st2 ?_
  have g_b2 : n0 ≤ b2 := Nat.le_trans (own_oldsz X00) (Nat.le_of_eq g2.symm)
  have sz_b2 : h0.size ≤ b2 := Nat.le_trans (Keep.refl h0 []).1 (Nat.le_of_eq g2.symm)
  have K2 : Keep h0 h2 [] := (Keep.refl h0 []).ext E2
  have O2 := X00.ext E2
  have V2 : Arv Z h2 b2 k2 .char (10 : Int32) [(.int 0), (.int 0), (.int 0), (.int 0), (.int 0), (.int 0), (.int 0), (.int 0), (.int 0), (.int 0)] (.int 0) := (Arv.new A2 (by decide)).pad (pad_rep [] (.int 0) 10)
  show Go _ _ _ _ (T2.setTop (mkF m 67 #[lI p0] [(.ref b2)]))
  refine Go.st (fun _ => XS.dup X2.here hx rfl (hb hby od27_67) rfl rfl) ?_
  refine Go.st (fun _ => XS.iconst X2.here hx rfl (hb hby od27_68)) ?_
  refine Go.st (fun _ => XS.bipush X2.here hx rfl (hb hby od27_69)) ?_
  show Go _ _ _ _ (T2.setTop (mkF m 71 #[lI p0] [(.int 112), (.int 0), (.ref b2), (.ref b2)]))
  obtain ⟨T3, h3, X3, e3, W3, V3, st3⟩ := own_stC X2 hx hZ e2 V2 (j := (0 : Int32)) (i := 0) (by decide) (by decide) (Nat.le_of_ble_eq_true rfl) (g := (mkF m 71 #[lI p0] [(.int 112), (.int 0), (.ref b2), (.ref b2)])) rfl rfl (hb hby od27_71)
  refine Go.st st3 ?_
  have K3 : Keep h0 h3 [] := K2.wr W3 (Or.inr sz_b2)
  have O3 := O2.wr W3 g_b2
  have N3 := Fr.snoc X3 N0 g_b2
  have V3' : Arv Z h3 b2 k2 .char (10 : Int32) [(.int 112), (.int 0), (.int 0), (.int 0), (.int 0), (.int 0), (.int 0), (.int 0), (.int 0), (.int 0)] (.int 0) := V3
  show Go _ _ _ _ (T3.setTop (mkF m 72 #[lI p0] [(.ref b2)]))
  refine Go.st (fun _ => XS.dup X3.here hx rfl (hb hby od27_72) rfl rfl) ?_
  refine Go.st (fun _ => XS.iconst X3.here hx rfl (hb hby od27_73)) ?_
  refine Go.st (fun _ => XS.bipush X3.here hx rfl (hb hby od27_74)) ?_
  show Go _ _ _ _ (T3.setTop (mkF m 76 #[lI p0] [(.int 114), (.int 1), (.ref b2), (.ref b2)]))
  obtain ⟨T4, h4, X4, e4, W4, V4, st4⟩ := own_stC X3 hx hZ e3 V3' (j := (1 : Int32)) (i := 1) (by decide) (by decide) (Nat.le_of_ble_eq_true rfl) (g := (mkF m 76 #[lI p0] [(.int 114), (.int 1), (.ref b2), (.ref b2)])) rfl rfl (hb hby od27_76)
  refine Go.st st4 ?_
  have K4 : Keep h0 h4 [] := K3.wr W4 (Or.inr sz_b2)
  have O4 := O3.wr W4 g_b2
  have N4 := Fr.snoc X4 N3 g_b2
  have V4' : Arv Z h4 b2 k2 .char (10 : Int32) [(.int 112), (.int 114), (.int 0), (.int 0), (.int 0), (.int 0), (.int 0), (.int 0), (.int 0), (.int 0)] (.int 0) := V4
  show Go _ _ _ _ (T4.setTop (mkF m 77 #[lI p0] [(.ref b2)]))
  refine Go.st (fun _ => XS.dup X4.here hx rfl (hb hby od27_77) rfl rfl) ?_
  refine Go.st (fun _ => XS.iconst X4.here hx rfl (hb hby od27_78)) ?_
  refine Go.st (fun _ => XS.bipush X4.here hx rfl (hb hby od27_79)) ?_
  show Go _ _ _ _ (T4.setTop (mkF m 81 #[lI p0] [(.int 111), (.int 2), (.ref b2), (.ref b2)]))
  obtain ⟨T5, h5, X5, e5, W5, V5, st5⟩ := own_stC X4 hx hZ e4 V4' (j := (2 : Int32)) (i := 2) (by decide) (by decide) (Nat.le_of_ble_eq_true rfl) (g := (mkF m 81 #[lI p0] [(.int 111), (.int 2), (.ref b2), (.ref b2)])) rfl rfl (hb hby od27_81)
  refine Go.st st5 ?_
  have K5 : Keep h0 h5 [] := K4.wr W5 (Or.inr sz_b2)
  have O5 := O4.wr W5 g_b2
  have N5 := Fr.snoc X5 N4 g_b2
  have V5' : Arv Z h5 b2 k2 .char (10 : Int32) [(.int 112), (.int 114), (.int 111), (.int 0), (.int 0), (.int 0), (.int 0), (.int 0), (.int 0), (.int 0)] (.int 0) := V5
  show Go _ _ _ _ (T5.setTop (mkF m 82 #[lI p0] [(.ref b2)]))
  refine Go.st (fun _ => XS.dup X5.here hx rfl (hb hby od27_82) rfl rfl) ?_
  refine Go.st (fun _ => XS.iconst X5.here hx rfl (hb hby od27_83)) ?_
  refine Go.st (fun _ => XS.bipush X5.here hx rfl (hb hby od27_84)) ?_
  show Go _ _ _ _ (T5.setTop (mkF m 86 #[lI p0] [(.int 112), (.int 3), (.ref b2), (.ref b2)]))
  obtain ⟨T6, h6, X6, e6, W6, V6, st6⟩ := own_stC X5 hx hZ e5 V5' (j := (3 : Int32)) (i := 3) (by decide) (by decide) (Nat.le_of_ble_eq_true rfl) (g := (mkF m 86 #[lI p0] [(.int 112), (.int 3), (.ref b2), (.ref b2)])) rfl rfl (hb hby od27_86)
  refine Go.st st6 ?_
  have K6 : Keep h0 h6 [] := K5.wr W6 (Or.inr sz_b2)
  have O6 := O5.wr W6 g_b2
  have N6 := Fr.snoc X6 N5 g_b2
  have V6' : Arv Z h6 b2 k2 .char (10 : Int32) [(.int 112), (.int 114), (.int 111), (.int 112), (.int 0), (.int 0), (.int 0), (.int 0), (.int 0), (.int 0)] (.int 0) := V6
  show Go _ _ _ _ (T6.setTop (mkF m 87 #[lI p0] [(.ref b2)]))
  refine Go.st (fun _ => XS.dup X6.here hx rfl (hb hby od27_87) rfl rfl) ?_
  refine Go.st (fun _ => XS.iconst X6.here hx rfl (hb hby od27_88)) ?_
  refine Go.st (fun _ => XS.bipush X6.here hx rfl (hb hby od27_89)) ?_
  show Go _ _ _ _ (T6.setTop (mkF m 91 #[lI p0] [(.int 114), (.int 4), (.ref b2), (.ref b2)]))
  obtain ⟨T7, h7, X7, e7, W7, V7, st7⟩ := own_stC X6 hx hZ e6 V6' (j := (4 : Int32)) (i := 4) (by decide) (by decide) (Nat.le_of_ble_eq_true rfl) (g := (mkF m 91 #[lI p0] [(.int 114), (.int 4), (.ref b2), (.ref b2)])) rfl rfl (hb hby od27_91)
  refine Go.st st7 ?_
  have K7 : Keep h0 h7 [] := K6.wr W7 (Or.inr sz_b2)
  have O7 := O6.wr W7 g_b2
  have N7 := Fr.snoc X7 N6 g_b2
  have V7' : Arv Z h7 b2 k2 .char (10 : Int32) [(.int 112), (.int 114), (.int 111), (.int 112), (.int 114), (.int 0), (.int 0), (.int 0), (.int 0), (.int 0)] (.int 0) := V7
  show Go _ _ _ _ (T7.setTop (mkF m 92 #[lI p0] [(.ref b2)]))
  refine Go.st (fun _ => XS.dup X7.here hx rfl (hb hby od27_92) rfl rfl) ?_
  refine Go.st (fun _ => XS.iconst X7.here hx rfl (hb hby od27_93)) ?_
  refine Go.st (fun _ => XS.bipush X7.here hx rfl (hb hby od27_94)) ?_
  show Go _ _ _ _ (T7.setTop (mkF m 96 #[lI p0] [(.int 105), (.int 5), (.ref b2), (.ref b2)]))
  obtain ⟨T8, h8, X8, e8, W8, V8, st8⟩ := own_stC X7 hx hZ e7 V7' (j := (5 : Int32)) (i := 5) (by decide) (by decide) (Nat.le_of_ble_eq_true rfl) (g := (mkF m 96 #[lI p0] [(.int 105), (.int 5), (.ref b2), (.ref b2)])) rfl rfl (hb hby od27_96)
  refine Go.st st8 ?_
  have K8 : Keep h0 h8 [] := K7.wr W8 (Or.inr sz_b2)
  have O8 := O7.wr W8 g_b2
  have N8 := Fr.snoc X8 N7 g_b2
  have V8' : Arv Z h8 b2 k2 .char (10 : Int32) [(.int 112), (.int 114), (.int 111), (.int 112), (.int 114), (.int 105), (.int 0), (.int 0), (.int 0), (.int 0)] (.int 0) := V8
  show Go _ _ _ _ (T8.setTop (mkF m 97 #[lI p0] [(.ref b2)]))
  refine Go.st (fun _ => XS.dup X8.here hx rfl (hb hby od27_97) rfl rfl) ?_
  refine Go.st (fun _ => XS.bipush X8.here hx rfl (hb hby od27_98)) ?_
  refine Go.st (fun _ => XS.bipush X8.here hx rfl (hb hby od27_100)) ?_
  show Go _ _ _ _ (T8.setTop (mkF m 102 #[lI p0] [(.int 101), (.int 6), (.ref b2), (.ref b2)]))
  obtain ⟨T9, h9, X9, e9, W9, V9, st9⟩ := own_stC X8 hx hZ e8 V8' (j := (6 : Int32)) (i := 6) (by decide) (by decide) (Nat.le_of_ble_eq_true rfl) (g := (mkF m 102 #[lI p0] [(.int 101), (.int 6), (.ref b2), (.ref b2)])) rfl rfl (hb hby od27_102)
  refine Go.st st9 ?_
  have K9 : Keep h0 h9 [] := K8.wr W9 (Or.inr sz_b2)
  have O9 := O8.wr W9 g_b2
  have N9 := Fr.snoc X9 N8 g_b2
  have V9' : Arv Z h9 b2 k2 .char (10 : Int32) [(.int 112), (.int 114), (.int 111), (.int 112), (.int 114), (.int 105), (.int 101), (.int 0), (.int 0), (.int 0)] (.int 0) := V9
  show Go _ _ _ _ (T9.setTop (mkF m 103 #[lI p0] [(.ref b2)]))
  refine Go.st (fun _ => XS.dup X9.here hx rfl (hb hby od27_103) rfl rfl) ?_
  refine Go.st (fun _ => XS.bipush X9.here hx rfl (hb hby od27_104)) ?_
  refine Go.st (fun _ => XS.bipush X9.here hx rfl (hb hby od27_106)) ?_
  show Go _ _ _ _ (T9.setTop (mkF m 108 #[lI p0] [(.int 116), (.int 7), (.ref b2), (.ref b2)]))
  obtain ⟨T10, h10, X10, e10, W10, V10, st10⟩ := own_stC X9 hx hZ e9 V9' (j := (7 : Int32)) (i := 7) (by decide) (by decide) (Nat.le_of_ble_eq_true rfl) (g := (mkF m 108 #[lI p0] [(.int 116), (.int 7), (.ref b2), (.ref b2)])) rfl rfl (hb hby od27_108)
  refine Go.st st10 ?_
  have K10 : Keep h0 h10 [] := K9.wr W10 (Or.inr sz_b2)
  have O10 := O9.wr W10 g_b2
  have N10 := Fr.snoc X10 N9 g_b2
  have V10' : Arv Z h10 b2 k2 .char (10 : Int32) [(.int 112), (.int 114), (.int 111), (.int 112), (.int 114), (.int 105), (.int 101), (.int 116), (.int 0), (.int 0)] (.int 0) := V10
  show Go _ _ _ _ (T10.setTop (mkF m 109 #[lI p0] [(.ref b2)]))
  refine Go.st (fun _ => XS.dup X10.here hx rfl (hb hby od27_109) rfl rfl) ?_
  refine Go.st (fun _ => XS.bipush X10.here hx rfl (hb hby od27_110)) ?_
  refine Go.st (fun _ => XS.bipush X10.here hx rfl (hb hby od27_112)) ?_
  show Go _ _ _ _ (T10.setTop (mkF m 114 #[lI p0] [(.int 97), (.int 8), (.ref b2), (.ref b2)]))
  obtain ⟨T11, h11, X11, e11, W11, V11, st11⟩ := own_stC X10 hx hZ e10 V10' (j := (8 : Int32)) (i := 8) (by decide) (by decide) (Nat.le_of_ble_eq_true rfl) (g := (mkF m 114 #[lI p0] [(.int 97), (.int 8), (.ref b2), (.ref b2)])) rfl rfl (hb hby od27_114)
  refine Go.st st11 ?_
  have K11 : Keep h0 h11 [] := K10.wr W11 (Or.inr sz_b2)
  have O11 := O10.wr W11 g_b2
  have N11 := Fr.snoc X11 N10 g_b2
  have V11' : Arv Z h11 b2 k2 .char (10 : Int32) [(.int 112), (.int 114), (.int 111), (.int 112), (.int 114), (.int 105), (.int 101), (.int 116), (.int 97), (.int 0)] (.int 0) := V11
  show Go _ _ _ _ (T11.setTop (mkF m 115 #[lI p0] [(.ref b2)]))
  refine Go.st (fun _ => XS.dup X11.here hx rfl (hb hby od27_115) rfl rfl) ?_
  refine Go.st (fun _ => XS.bipush X11.here hx rfl (hb hby od27_116)) ?_
  refine Go.st (fun _ => XS.bipush X11.here hx rfl (hb hby od27_118)) ?_
  show Go _ _ _ _ (T11.setTop (mkF m 120 #[lI p0] [(.int 114), (.int 9), (.ref b2), (.ref b2)]))
  obtain ⟨T12, h12, X12, e12, W12, V12, st12⟩ := own_stC X11 hx hZ e11 V11' (j := (9 : Int32)) (i := 9) (by decide) (by decide) (Nat.le_of_ble_eq_true rfl) (g := (mkF m 120 #[lI p0] [(.int 114), (.int 9), (.ref b2), (.ref b2)])) rfl rfl (hb hby od27_120)
  refine Go.st st12 ?_
  have K12 : Keep h0 h12 [] := K11.wr W12 (Or.inr sz_b2)
  have O12 := O11.wr W12 g_b2
  have N12 := Fr.snoc X12 N11 g_b2
  have V12' : Arv Z h12 b2 k2 .char (10 : Int32) [(.int 112), (.int 114), (.int 111), (.int 112), (.int 114), (.int 105), (.int 101), (.int 116), (.int 97), (.int 114)] (.int 0) := V12
  show Go _ _ _ _ (T12.setTop (mkF m 121 #[lI p0] [(.ref b2)]))
  obtain ⟨fs, hr, hrun, hended, hW, hsame⟩ := X12.leave (v := some (.ref b2)) (fun h => by rw [Bd.returns] at h; cases h)
  refine ⟨_, ?_, hPend _ _ hrun hended ⟨_, _, rfl, ?_, ⟨_, rfl⟩, hW, hsame.mono (by decide) (by decide)⟩⟩
  ·exact retOut X12 hx (t := (.array .char)) Bd.returns rfl (Or.inr (Or.inr (Or.inr (Or.inr ⟨rfl, rfl, rfl⟩)))) (hb hby od27_121) hr
  ·show Q_rm_mps Z _ h0 n0 _ T12.heap _
   rw [e12]
   exact ⟨b2, k2, ([112, 114, 111, 112, 114, 105, 101, 116, 97, 114] : List Int32), rfl, N12, K12, sz_b2, V12', (by decide)⟩
 ·skip
  refine Go.st (fun _ => XS.ifNo X0.here hx rfl (hb hby od27_1) rfl ((if0 _ _).trans (feq hc1).1)) ?_
  show Go _ _ _ _ (s₁.setTop (mkF m 4 #[lI p0] []))
  refine Go.st (fun _ => XS.bipush X0.here hx rfl (hb hby od27_4)) ?_
  show Go _ _ _ _ (s₁.setTop (mkF m 6 #[lI p0] [(.int 10)]))
  obtain ⟨T13, h13, k13, X13, e13, E13, A13, st13⟩ := newP X0 hx hZ (ow hw 5 rfl) e0 (g := (mkF m 6 #[lI p0] [(.int 10)])) rfl (hb hby od27_6) rfl (by decide) (cap := 10) (by decide) (by decide) (by decide) (by decide)
  obtain ⟨b13, g13⟩ : ∃ z, z = h0.size := ⟨_, rfl⟩
  rw [← g13] at A13 st13
  refine Go.st st13 ?_
  have g_b13 : n0 ≤ b13 := Nat.le_trans (own_oldsz X00) (Nat.le_of_eq g13.symm)
  have sz_b13 : h0.size ≤ b13 := Nat.le_trans (Keep.refl h0 []).1 (Nat.le_of_eq g13.symm)
  have K13 : Keep h0 h13 [] := (Keep.refl h0 []).ext E13
  have O13 := X00.ext E13
  have V13 : Arv Z h13 b13 k13 .char (10 : Int32) [(.int 0), (.int 0), (.int 0), (.int 0), (.int 0), (.int 0), (.int 0), (.int 0), (.int 0), (.int 0)] (.int 0) := (Arv.new A13 (by decide)).pad (pad_rep [] (.int 0) 10)
  show Go _ _ _ _ (T13.setTop (mkF m 8 #[lI p0] [(.ref b13)]))
  refine Go.st (fun _ => XS.dup X13.here hx rfl (hb hby od27_8) rfl rfl) ?_
  refine Go.st (fun _ => XS.iconst X13.here hx rfl (hb hby od27_9)) ?_
  refine Go.st (fun _ => XS.bipush X13.here hx rfl (hb hby od27_10)) ?_
  show Go _ _ _ _ (T13.setTop (mkF m 12 #[lI p0] [(.int 114), (.int 0), (.ref b13), (.ref b13)]))
  obtain ⟨T14, h14, X14, e14, W14, V14, st14⟩ := own_stC X13 hx hZ e13 V13 (j := (0 : Int32)) (i := 0) (by decide) (by decide) (Nat.le_of_ble_eq_true rfl) (g := (mkF m 12 #[lI p0] [(.int 114), (.int 0), (.ref b13), (.ref b13)])) rfl rfl (hb hby od27_12)
  refine Go.st st14 ?_
  have K14 : Keep h0 h14 [] := K13.wr W14 (Or.inr sz_b13)
  have O14 := O13.wr W14 g_b13
  have N14 := Fr.snoc X14 N0 g_b13
  have V14' : Arv Z h14 b13 k13 .char (10 : Int32) [(.int 114), (.int 0), (.int 0), (.int 0), (.int 0), (.int 0), (.int 0), (.int 0), (.int 0), (.int 0)] (.int 0) := V14
  show Go _ _ _ _ (T14.setTop (mkF m 13 #[lI p0] [(.ref b13)]))
  refine Go.st (fun _ => XS.dup X14.here hx rfl (hb hby od27_13) rfl rfl) ?_
  refine Go.st (fun _ => XS.iconst X14.here hx rfl (hb hby od27_14)) ?_
  refine Go.st (fun _ => XS.bipush X14.here hx rfl (hb hby od27_15)) ?_
  show Go _ _ _ _ (T14.setTop (mkF m 17 #[lI p0] [(.int 111), (.int 1), (.ref b13), (.ref b13)]))
  obtain ⟨T15, h15, X15, e15, W15, V15, st15⟩ := own_stC X14 hx hZ e14 V14' (j := (1 : Int32)) (i := 1) (by decide) (by decide) (Nat.le_of_ble_eq_true rfl) (g := (mkF m 17 #[lI p0] [(.int 111), (.int 1), (.ref b13), (.ref b13)])) rfl rfl (hb hby od27_17)
  refine Go.st st15 ?_
  have K15 : Keep h0 h15 [] := K14.wr W15 (Or.inr sz_b13)
  have O15 := O14.wr W15 g_b13
  have N15 := Fr.snoc X15 N14 g_b13
  have V15' : Arv Z h15 b13 k13 .char (10 : Int32) [(.int 114), (.int 111), (.int 0), (.int 0), (.int 0), (.int 0), (.int 0), (.int 0), (.int 0), (.int 0)] (.int 0) := V15
  show Go _ _ _ _ (T15.setTop (mkF m 18 #[lI p0] [(.ref b13)]))
  refine Go.st (fun _ => XS.dup X15.here hx rfl (hb hby od27_18) rfl rfl) ?_
  refine Go.st (fun _ => XS.iconst X15.here hx rfl (hb hby od27_19)) ?_
  refine Go.st (fun _ => XS.bipush X15.here hx rfl (hb hby od27_20)) ?_
  show Go _ _ _ _ (T15.setTop (mkF m 22 #[lI p0] [(.int 112), (.int 2), (.ref b13), (.ref b13)]))
  obtain ⟨T16, h16, X16, e16, W16, V16, st16⟩ := own_stC X15 hx hZ e15 V15' (j := (2 : Int32)) (i := 2) (by decide) (by decide) (Nat.le_of_ble_eq_true rfl) (g := (mkF m 22 #[lI p0] [(.int 112), (.int 2), (.ref b13), (.ref b13)])) rfl rfl (hb hby od27_22)
  refine Go.st st16 ?_
  have K16 : Keep h0 h16 [] := K15.wr W16 (Or.inr sz_b13)
  have O16 := O15.wr W16 g_b13
  have N16 := Fr.snoc X16 N15 g_b13
  have V16' : Arv Z h16 b13 k13 .char (10 : Int32) [(.int 114), (.int 111), (.int 112), (.int 0), (.int 0), (.int 0), (.int 0), (.int 0), (.int 0), (.int 0)] (.int 0) := V16
  show Go _ _ _ _ (T16.setTop (mkF m 23 #[lI p0] [(.ref b13)]))
  refine Go.st (fun _ => XS.dup X16.here hx rfl (hb hby od27_23) rfl rfl) ?_
  refine Go.st (fun _ => XS.iconst X16.here hx rfl (hb hby od27_24)) ?_
  refine Go.st (fun _ => XS.bipush X16.here hx rfl (hb hby od27_25)) ?_
  show Go _ _ _ _ (T16.setTop (mkF m 27 #[lI p0] [(.int 114), (.int 3), (.ref b13), (.ref b13)]))
  obtain ⟨T17, h17, X17, e17, W17, V17, st17⟩ := own_stC X16 hx hZ e16 V16' (j := (3 : Int32)) (i := 3) (by decide) (by decide) (Nat.le_of_ble_eq_true rfl) (g := (mkF m 27 #[lI p0] [(.int 114), (.int 3), (.ref b13), (.ref b13)])) rfl rfl (hb hby od27_27)
  refine Go.st st17 ?_
  have K17 : Keep h0 h17 [] := K16.wr W17 (Or.inr sz_b13)
  have O17 := O16.wr W17 g_b13
  have N17 := Fr.snoc X17 N16 g_b13
  have V17' : Arv Z h17 b13 k13 .char (10 : Int32) [(.int 114), (.int 111), (.int 112), (.int 114), (.int 0), (.int 0), (.int 0), (.int 0), (.int 0), (.int 0)] (.int 0) := V17
  show Go _ _ _ _ (T17.setTop (mkF m 28 #[lI p0] [(.ref b13)]))
  refine Go.st (fun _ => XS.dup X17.here hx rfl (hb hby od27_28) rfl rfl) ?_
  refine Go.st (fun _ => XS.iconst X17.here hx rfl (hb hby od27_29)) ?_
  refine Go.st (fun _ => XS.bipush X17.here hx rfl (hb hby od27_30)) ?_
  show Go _ _ _ _ (T17.setTop (mkF m 32 #[lI p0] [(.int 105), (.int 4), (.ref b13), (.ref b13)]))
  obtain ⟨T18, h18, X18, e18, W18, V18, st18⟩ := own_stC X17 hx hZ e17 V17' (j := (4 : Int32)) (i := 4) (by decide) (by decide) (Nat.le_of_ble_eq_true rfl) (g := (mkF m 32 #[lI p0] [(.int 105), (.int 4), (.ref b13), (.ref b13)])) rfl rfl (hb hby od27_32)
  refine Go.st st18 ?_
  have K18 : Keep h0 h18 [] := K17.wr W18 (Or.inr sz_b13)
  have O18 := O17.wr W18 g_b13
  have N18 := Fr.snoc X18 N17 g_b13
  have V18' : Arv Z h18 b13 k13 .char (10 : Int32) [(.int 114), (.int 111), (.int 112), (.int 114), (.int 105), (.int 0), (.int 0), (.int 0), (.int 0), (.int 0)] (.int 0) := V18
  show Go _ _ _ _ (T18.setTop (mkF m 33 #[lI p0] [(.ref b13)]))
  refine Go.st (fun _ => XS.dup X18.here hx rfl (hb hby od27_33) rfl rfl) ?_
  refine Go.st (fun _ => XS.iconst X18.here hx rfl (hb hby od27_34)) ?_
  refine Go.st (fun _ => XS.bipush X18.here hx rfl (hb hby od27_35)) ?_
  show Go _ _ _ _ (T18.setTop (mkF m 37 #[lI p0] [(.int 101), (.int 5), (.ref b13), (.ref b13)]))
  obtain ⟨T19, h19, X19, e19, W19, V19, st19⟩ := own_stC X18 hx hZ e18 V18' (j := (5 : Int32)) (i := 5) (by decide) (by decide) (Nat.le_of_ble_eq_true rfl) (g := (mkF m 37 #[lI p0] [(.int 101), (.int 5), (.ref b13), (.ref b13)])) rfl rfl (hb hby od27_37)
  refine Go.st st19 ?_
  have K19 : Keep h0 h19 [] := K18.wr W19 (Or.inr sz_b13)
  have O19 := O18.wr W19 g_b13
  have N19 := Fr.snoc X19 N18 g_b13
  have V19' : Arv Z h19 b13 k13 .char (10 : Int32) [(.int 114), (.int 111), (.int 112), (.int 114), (.int 105), (.int 101), (.int 0), (.int 0), (.int 0), (.int 0)] (.int 0) := V19
  show Go _ _ _ _ (T19.setTop (mkF m 38 #[lI p0] [(.ref b13)]))
  refine Go.st (fun _ => XS.dup X19.here hx rfl (hb hby od27_38) rfl rfl) ?_
  refine Go.st (fun _ => XS.bipush X19.here hx rfl (hb hby od27_39)) ?_
  refine Go.st (fun _ => XS.bipush X19.here hx rfl (hb hby od27_41)) ?_
  show Go _ _ _ _ (T19.setTop (mkF m 43 #[lI p0] [(.int 116), (.int 6), (.ref b13), (.ref b13)]))
  obtain ⟨T20, h20, X20, e20, W20, V20, st20⟩ := own_stC X19 hx hZ e19 V19' (j := (6 : Int32)) (i := 6) (by decide) (by decide) (Nat.le_of_ble_eq_true rfl) (g := (mkF m 43 #[lI p0] [(.int 116), (.int 6), (.ref b13), (.ref b13)])) rfl rfl (hb hby od27_43)
  refine Go.st st20 ?_
  have K20 : Keep h0 h20 [] := K19.wr W20 (Or.inr sz_b13)
  have O20 := O19.wr W20 g_b13
  have N20 := Fr.snoc X20 N19 g_b13
  have V20' : Arv Z h20 b13 k13 .char (10 : Int32) [(.int 114), (.int 111), (.int 112), (.int 114), (.int 105), (.int 101), (.int 116), (.int 0), (.int 0), (.int 0)] (.int 0) := V20
  show Go _ _ _ _ (T20.setTop (mkF m 44 #[lI p0] [(.ref b13)]))
  refine Go.st (fun _ => XS.dup X20.here hx rfl (hb hby od27_44) rfl rfl) ?_
  refine Go.st (fun _ => XS.bipush X20.here hx rfl (hb hby od27_45)) ?_
  refine Go.st (fun _ => XS.bipush X20.here hx rfl (hb hby od27_47)) ?_
  show Go _ _ _ _ (T20.setTop (mkF m 49 #[lI p0] [(.int 97), (.int 7), (.ref b13), (.ref b13)]))
  obtain ⟨T21, h21, X21, e21, W21, V21, st21⟩ := own_stC X20 hx hZ e20 V20' (j := (7 : Int32)) (i := 7) (by decide) (by decide) (Nat.le_of_ble_eq_true rfl) (g := (mkF m 49 #[lI p0] [(.int 97), (.int 7), (.ref b13), (.ref b13)])) rfl rfl (hb hby od27_49)
  refine Go.st st21 ?_
  have K21 : Keep h0 h21 [] := K20.wr W21 (Or.inr sz_b13)
  have O21 := O20.wr W21 g_b13
  have N21 := Fr.snoc X21 N20 g_b13
  have V21' : Arv Z h21 b13 k13 .char (10 : Int32) [(.int 114), (.int 111), (.int 112), (.int 114), (.int 105), (.int 101), (.int 116), (.int 97), (.int 0), (.int 0)] (.int 0) := V21
  show Go _ _ _ _ (T21.setTop (mkF m 50 #[lI p0] [(.ref b13)]))
  refine Go.st (fun _ => XS.dup X21.here hx rfl (hb hby od27_50) rfl rfl) ?_
  refine Go.st (fun _ => XS.bipush X21.here hx rfl (hb hby od27_51)) ?_
  refine Go.st (fun _ => XS.bipush X21.here hx rfl (hb hby od27_53)) ?_
  show Go _ _ _ _ (T21.setTop (mkF m 55 #[lI p0] [(.int 114), (.int 8), (.ref b13), (.ref b13)]))
  obtain ⟨T22, h22, X22, e22, W22, V22, st22⟩ := own_stC X21 hx hZ e21 V21' (j := (8 : Int32)) (i := 8) (by decide) (by decide) (Nat.le_of_ble_eq_true rfl) (g := (mkF m 55 #[lI p0] [(.int 114), (.int 8), (.ref b13), (.ref b13)])) rfl rfl (hb hby od27_55)
  refine Go.st st22 ?_
  have K22 : Keep h0 h22 [] := K21.wr W22 (Or.inr sz_b13)
  have O22 := O21.wr W22 g_b13
  have N22 := Fr.snoc X22 N21 g_b13
  have V22' : Arv Z h22 b13 k13 .char (10 : Int32) [(.int 114), (.int 111), (.int 112), (.int 114), (.int 105), (.int 101), (.int 116), (.int 97), (.int 114), (.int 0)] (.int 0) := V22
  show Go _ _ _ _ (T22.setTop (mkF m 56 #[lI p0] [(.ref b13)]))
  refine Go.st (fun _ => XS.dup X22.here hx rfl (hb hby od27_56) rfl rfl) ?_
  refine Go.st (fun _ => XS.bipush X22.here hx rfl (hb hby od27_57)) ?_
  refine Go.st (fun _ => XS.bipush X22.here hx rfl (hb hby od27_59)) ?_
  show Go _ _ _ _ (T22.setTop (mkF m 61 #[lI p0] [(.int 121), (.int 9), (.ref b13), (.ref b13)]))
  obtain ⟨T23, h23, X23, e23, W23, V23, st23⟩ := own_stC X22 hx hZ e22 V22' (j := (9 : Int32)) (i := 9) (by decide) (by decide) (Nat.le_of_ble_eq_true rfl) (g := (mkF m 61 #[lI p0] [(.int 121), (.int 9), (.ref b13), (.ref b13)])) rfl rfl (hb hby od27_61)
  refine Go.st st23 ?_
  have K23 : Keep h0 h23 [] := K22.wr W23 (Or.inr sz_b13)
  have O23 := O22.wr W23 g_b13
  have N23 := Fr.snoc X23 N22 g_b13
  have V23' : Arv Z h23 b13 k13 .char (10 : Int32) [(.int 114), (.int 111), (.int 112), (.int 114), (.int 105), (.int 101), (.int 116), (.int 97), (.int 114), (.int 121)] (.int 0) := V23
  show Go _ _ _ _ (T23.setTop (mkF m 62 #[lI p0] [(.ref b13)]))
  obtain ⟨fs, hr, hrun, hended, hW, hsame⟩ := X23.leave (v := some (.ref b13)) (fun h => by rw [Bd.returns] at h; cases h)
  refine ⟨_, ?_, hPend _ _ hrun hended ⟨_, _, rfl, ?_, ⟨_, rfl⟩, hW, hsame.mono (by decide) (by decide)⟩⟩
  ·exact retOut X23 hx (t := (.array .char)) Bd.returns rfl (Or.inr (Or.inr (Or.inr (Or.inr ⟨rfl, rfl, rfl⟩)))) (hb hby od27_62) hr
  ·show Q_rm_mps Z _ h0 n0 _ T23.heap _
   rw [e23]
   exact ⟨b13, k13, ([114, 111, 112, 114, 105, 101, 116, 97, 114, 121] : List Int32), rfl, N23, K23, sz_b13, V23', (by decide)⟩
theorem own_ef_rm_mcl (m : MethodId) (x0 : Int32) (x1 : Int32) : entryFrame m #[(.int x0), (.int x1)] 2 = mkF m 0 #[.val (.int x0), .val (.int x1)] [] := by first | (simp [entryFrame, mkF, argsToLocals, Value.category]; done) | rfl
theorem od28_0 : decode method_7_code 0 = .ok (.iload_n 1, 1) := by decide +kernel
theorem od28_1 : decode method_7_code 1 = .ok (.ifCond .eq 55, 3) := by decide +kernel
theorem od28_56 : decode method_7_code 56 = .ok (.bipush 9, 2) := by decide +kernel
theorem od28_58 : decode method_7_code 58 = .ok (.newarray .char, 2) := by decide +kernel
theorem od28_60 : decode method_7_code 60 = .ok (.dup, 1) := by decide +kernel
theorem od28_61 : decode method_7_code 61 = .ok (.iconst 0, 1) := by decide +kernel
theorem od28_62 : decode method_7_code 62 = .ok (.bipush 99, 2) := by decide +kernel
theorem od28_64 : decode method_7_code 64 = .ok (.castore, 1) := by decide +kernel
theorem od28_65 : decode method_7_code 65 = .ok (.dup, 1) := by decide +kernel
theorem od28_66 : decode method_7_code 66 = .ok (.iconst 1, 1) := by decide +kernel
theorem od28_67 : decode method_7_code 67 = .ok (.bipush 117, 2) := by decide +kernel
theorem od28_69 : decode method_7_code 69 = .ok (.castore, 1) := by decide +kernel
theorem od28_70 : decode method_7_code 70 = .ok (.dup, 1) := by decide +kernel
theorem od28_71 : decode method_7_code 71 = .ok (.iconst 2, 1) := by decide +kernel
theorem od28_72 : decode method_7_code 72 = .ok (.bipush 115, 2) := by decide +kernel
theorem od28_74 : decode method_7_code 74 = .ok (.castore, 1) := by decide +kernel
theorem od28_75 : decode method_7_code 75 = .ok (.dup, 1) := by decide +kernel
theorem od28_76 : decode method_7_code 76 = .ok (.iconst 3, 1) := by decide +kernel
theorem od28_77 : decode method_7_code 77 = .ok (.bipush 116, 2) := by decide +kernel
theorem od28_79 : decode method_7_code 79 = .ok (.castore, 1) := by decide +kernel
theorem od28_80 : decode method_7_code 80 = .ok (.dup, 1) := by decide +kernel
theorem od28_81 : decode method_7_code 81 = .ok (.iconst 4, 1) := by decide +kernel
theorem od28_82 : decode method_7_code 82 = .ok (.bipush 111, 2) := by decide +kernel
theorem od28_84 : decode method_7_code 84 = .ok (.castore, 1) := by decide +kernel
theorem od28_85 : decode method_7_code 85 = .ok (.dup, 1) := by decide +kernel
theorem od28_86 : decode method_7_code 86 = .ok (.iconst 5, 1) := by decide +kernel
theorem od28_87 : decode method_7_code 87 = .ok (.bipush 109, 2) := by decide +kernel
theorem od28_89 : decode method_7_code 89 = .ok (.castore, 1) := by decide +kernel
theorem od28_90 : decode method_7_code 90 = .ok (.dup, 1) := by decide +kernel
theorem od28_91 : decode method_7_code 91 = .ok (.bipush 6, 2) := by decide +kernel
theorem od28_93 : decode method_7_code 93 = .ok (.bipush 101, 2) := by decide +kernel
theorem od28_95 : decode method_7_code 95 = .ok (.castore, 1) := by decide +kernel
theorem od28_96 : decode method_7_code 96 = .ok (.dup, 1) := by decide +kernel
theorem od28_97 : decode method_7_code 97 = .ok (.bipush 7, 2) := by decide +kernel
theorem od28_99 : decode method_7_code 99 = .ok (.bipush 114, 2) := by decide +kernel
theorem od28_101 : decode method_7_code 101 = .ok (.castore, 1) := by decide +kernel
theorem od28_102 : decode method_7_code 102 = .ok (.dup, 1) := by decide +kernel
theorem od28_103 : decode method_7_code 103 = .ok (.bipush 8, 2) := by decide +kernel
theorem od28_105 : decode method_7_code 105 = .ok (.iload_n 0, 1) := by decide +kernel
theorem od28_106 : decode method_7_code 106 = .ok (.castore, 1) := by decide +kernel
theorem od28_107 : decode method_7_code 107 = .ok (.areturn, 1) := by decide +kernel
theorem od28_4 : decode method_7_code 4 = .ok (.bipush 9, 2) := by decide +kernel
theorem od28_6 : decode method_7_code 6 = .ok (.newarray .char, 2) := by decide +kernel
theorem od28_8 : decode method_7_code 8 = .ok (.dup, 1) := by decide +kernel
theorem od28_9 : decode method_7_code 9 = .ok (.iconst 0, 1) := by decide +kernel
theorem od28_10 : decode method_7_code 10 = .ok (.iload_n 0, 1) := by decide +kernel
theorem od28_11 : decode method_7_code 11 = .ok (.castore, 1) := by decide +kernel
theorem od28_12 : decode method_7_code 12 = .ok (.dup, 1) := by decide +kernel
theorem od28_13 : decode method_7_code 13 = .ok (.iconst 1, 1) := by decide +kernel
theorem od28_14 : decode method_7_code 14 = .ok (.bipush 99, 2) := by decide +kernel
theorem od28_16 : decode method_7_code 16 = .ok (.castore, 1) := by decide +kernel
theorem od28_17 : decode method_7_code 17 = .ok (.dup, 1) := by decide +kernel
theorem od28_18 : decode method_7_code 18 = .ok (.iconst 2, 1) := by decide +kernel
theorem od28_19 : decode method_7_code 19 = .ok (.bipush 117, 2) := by decide +kernel
theorem od28_21 : decode method_7_code 21 = .ok (.castore, 1) := by decide +kernel
theorem od28_22 : decode method_7_code 22 = .ok (.dup, 1) := by decide +kernel
theorem od28_23 : decode method_7_code 23 = .ok (.iconst 3, 1) := by decide +kernel
theorem od28_24 : decode method_7_code 24 = .ok (.bipush 115, 2) := by decide +kernel
theorem od28_26 : decode method_7_code 26 = .ok (.castore, 1) := by decide +kernel
theorem od28_27 : decode method_7_code 27 = .ok (.dup, 1) := by decide +kernel
theorem od28_28 : decode method_7_code 28 = .ok (.iconst 4, 1) := by decide +kernel
theorem od28_29 : decode method_7_code 29 = .ok (.bipush 116, 2) := by decide +kernel
theorem od28_31 : decode method_7_code 31 = .ok (.castore, 1) := by decide +kernel
theorem od28_32 : decode method_7_code 32 = .ok (.dup, 1) := by decide +kernel
theorem od28_33 : decode method_7_code 33 = .ok (.iconst 5, 1) := by decide +kernel
theorem od28_34 : decode method_7_code 34 = .ok (.bipush 111, 2) := by decide +kernel
theorem od28_36 : decode method_7_code 36 = .ok (.castore, 1) := by decide +kernel
theorem od28_37 : decode method_7_code 37 = .ok (.dup, 1) := by decide +kernel
theorem od28_38 : decode method_7_code 38 = .ok (.bipush 6, 2) := by decide +kernel
theorem od28_40 : decode method_7_code 40 = .ok (.bipush 109, 2) := by decide +kernel
theorem od28_42 : decode method_7_code 42 = .ok (.castore, 1) := by decide +kernel
theorem od28_43 : decode method_7_code 43 = .ok (.dup, 1) := by decide +kernel
theorem od28_44 : decode method_7_code 44 = .ok (.bipush 7, 2) := by decide +kernel
theorem od28_46 : decode method_7_code 46 = .ok (.bipush 101, 2) := by decide +kernel
theorem od28_48 : decode method_7_code 48 = .ok (.castore, 1) := by decide +kernel
theorem od28_49 : decode method_7_code 49 = .ok (.dup, 1) := by decide +kernel
theorem od28_50 : decode method_7_code 50 = .ok (.bipush 8, 2) := by decide +kernel
theorem od28_52 : decode method_7_code 52 = .ok (.bipush 114, 2) := by decide +kernel
theorem od28_54 : decode method_7_code 54 = .ok (.castore, 1) := by decide +kernel
theorem od28_55 : decode method_7_code 55 = .ok (.areturn, 1) := by decide +kernel
def Q_rm_mcl (Z : State) (p0 : Int32) (p1 : Int32) (h0 : Heap) (n0 : Nat) (v : Option Value) (h : Heap) (L : List Loc) : Prop := ∃ (ob : Addr) (kb : ClassId) (xs : List Int32), v = some (.ref ob) ∧ Fr n0 L ∧ Keep h0 h [] ∧ h0.size ≤ ob ∧ Arv Z h ob kb .char (9 : Int32) (xs.map Value.int) (.int 0) ∧ (xs.length = 9) ∧ (¬ (255 : Int32) < p0 → ∀ c ∈ xs, ¬ c < 0 ∧ ¬ (255 : Int32) < c) ∧ ((255 : Int32) < p0 → ∃ j, own_W xs j) ∧ (own_C xs)
set_option maxRecDepth 65536 in
set_option maxHeartbeats 40000000 in
theorem rm_mcl (l : Launch) (Z : State) (a0 : Array Value) (hw : ∀ d ∈ tables_1, d.before a0 Z = true) (ws : List Jvm.Cond) (p0 : Int32) (p1 : Int32) (h0 : Heap) (n0 : Nat) (X00 : Old Z n0 h0) (hcc : ¬ p0 < 0 ∧ ¬ (65535 : Int32) < p0) :
    MetFree l (⟨"com/example/tidewall/tidewall/ledger/AccountClassByIdPinLaw", "custLong", "(CZ)[C"⟩ : MethodName) (head1 (Jvm.Cond.code (⟨"com/example/tidewall/tidewall/ledger/AccountClassByIdPinLaw", "custLong", "(CZ)[C"⟩ : MethodName) method_7_code 2 (some (.array .char)) :: ws) ({ frames := 0, cells := 1, slots := 9, locals := 0 } : Room)) (fun a U => a = #[(.int p0), (.int p1)] ∧ Z.Warmed39 U.vm ∧ U.heap = h0) (fun _ _ _ _ _ => True) (fun _ U o U' => ∃ v L, o = .returned v ∧ Q_rm_mcl Z p0 p1 h0 n0 v U'.heap L ∧ FrameEnd U o U' L ({ frames := 0, cells := 1, slots := 9, locals := 0 } : Room).cells ({ frames := 0, cells := 1, slots := 9, locals := 0 } : Room).slots) := by
 refine MetFree.of_bodySF (plainFor_of_name own_pn6) hisR ?_
 intro p e s m args below meth c s₁ Bd hml0 hP hK
 obtain ⟨rfl, hZ, hh⟩ := hP
 have hx := Bd.exec
 have hby := Bd.bytes
 have hml : c.maxLocals = 2 := hml0
 have hown : s.vm.findClass "com/example/tidewall/tidewall/ledger/AccountClassByIdPinLaw" = some m.cls := findClass_of_methodNamed Bd.named
 have hnm := (name_of_methodNamed Bd.named Bd.method).1
 have X0 : Stand p l e ({ frames := 0, cells := 1, slots := 9, locals := 0 } : Room) s m #[(.int p0), (.int p1)] below meth c s₁ [] 0 0 := Stand.of_body Bd
 have e0 : s₁.heap = h0 := by rw [← hh, Bd.state]; rfl
 have N0 := Fr.nil n0
 refine Go.start fun P hPend => ?_
 refine Go.st (fun _ k => castTop (own_ef_rm_mcl m p0 p1) k) ?_
 show Go _ _ _ _ (s₁.setTop (mkF m 0 #[lI p0, lI p1] []))
 refine Go.st (fun _ => XS.iloadN X0.here hx rfl (hb hby od28_0) rfl) ?_
 show Go _ _ _ _ (s₁.setTop (mkF m 1 #[lI p0, lI p1] [(.int p1)]))
 by_cases hc1 : p1 = (0 : Int32)
 ·skip
  refine Go.st (fun _ => XS.ifYes X0.here hx rfl (pc0 := 1) (pc' := 56) rfl (hb hby od28_1) rfl ((if0 _ _).trans (teq hc1).1) (by decide) (by decide)) ?_
  show Go _ _ _ _ (s₁.setTop (mkF m 56 #[lI p0, lI p1] []))
  refine Go.st (fun _ => XS.bipush X0.here hx rfl (hb hby od28_56)) ?_
  show Go _ _ _ _ (s₁.setTop (mkF m 58 #[lI p0, lI p1] [(.int 9)]))
  obtain ⟨T2, h2, k2, X2, e2, E2, A2, st2⟩ := newP X0 hx hZ (ow hw 5 rfl) e0 (g := (mkF m 58 #[lI p0, lI p1] [(.int 9)])) rfl (hb hby od28_58) rfl (by decide) (cap := 9) (by decide) (by decide) (by decide) (by decide)
  obtain ⟨b2, g2⟩ : ∃ z, z = h0.size := ⟨_, rfl⟩
  rw [← g2] at A2 st2
  refine Go.st st2 ?_
  have g_b2 : n0 ≤ b2 := Nat.le_trans (own_oldsz X00) (Nat.le_of_eq g2.symm)
  have sz_b2 : h0.size ≤ b2 := Nat.le_trans (Keep.refl h0 []).1 (Nat.le_of_eq g2.symm)
  have K2 : Keep h0 h2 [] := (Keep.refl h0 []).ext E2
  have O2 := X00.ext E2
  have V2 : Arv Z h2 b2 k2 .char (9 : Int32) [(.int 0), (.int 0), (.int 0), (.int 0), (.int 0), (.int 0), (.int 0), (.int 0), (.int 0)] (.int 0) := (Arv.new A2 (by decide)).pad (pad_rep [] (.int 0) 9)
  show Go _ _ _ _ (T2.setTop (mkF m 60 #[lI p0, lI p1] [(.ref b2)]))
  refine Go.st (fun _ => XS.dup X2.here hx rfl (hb hby od28_60) rfl rfl) ?_
  refine Go.st (fun _ => XS.iconst X2.here hx rfl (hb hby od28_61)) ?_
  refine Go.st (fun _ => XS.bipush X2.here hx rfl (hb hby od28_62)) ?_
  show Go _ _ _ _ (T2.setTop (mkF m 64 #[lI p0, lI p1] [(.int 99), (.int 0), (.ref b2), (.ref b2)]))
  obtain ⟨T3, h3, X3, e3, W3, V3, st3⟩ := own_stC X2 hx hZ e2 V2 (j := (0 : Int32)) (i := 0) (by decide) (by decide) (Nat.le_of_ble_eq_true rfl) (g := (mkF m 64 #[lI p0, lI p1] [(.int 99), (.int 0), (.ref b2), (.ref b2)])) rfl rfl (hb hby od28_64)
  refine Go.st st3 ?_
  have K3 : Keep h0 h3 [] := K2.wr W3 (Or.inr sz_b2)
  have O3 := O2.wr W3 g_b2
  have N3 := Fr.snoc X3 N0 g_b2
  have V3' : Arv Z h3 b2 k2 .char (9 : Int32) [(.int 99), (.int 0), (.int 0), (.int 0), (.int 0), (.int 0), (.int 0), (.int 0), (.int 0)] (.int 0) := V3
  show Go _ _ _ _ (T3.setTop (mkF m 65 #[lI p0, lI p1] [(.ref b2)]))
  refine Go.st (fun _ => XS.dup X3.here hx rfl (hb hby od28_65) rfl rfl) ?_
  refine Go.st (fun _ => XS.iconst X3.here hx rfl (hb hby od28_66)) ?_
  refine Go.st (fun _ => XS.bipush X3.here hx rfl (hb hby od28_67)) ?_
  show Go _ _ _ _ (T3.setTop (mkF m 69 #[lI p0, lI p1] [(.int 117), (.int 1), (.ref b2), (.ref b2)]))
  obtain ⟨T4, h4, X4, e4, W4, V4, st4⟩ := own_stC X3 hx hZ e3 V3' (j := (1 : Int32)) (i := 1) (by decide) (by decide) (Nat.le_of_ble_eq_true rfl) (g := (mkF m 69 #[lI p0, lI p1] [(.int 117), (.int 1), (.ref b2), (.ref b2)])) rfl rfl (hb hby od28_69)
  refine Go.st st4 ?_
  have K4 : Keep h0 h4 [] := K3.wr W4 (Or.inr sz_b2)
  have O4 := O3.wr W4 g_b2
  have N4 := Fr.snoc X4 N3 g_b2
  have V4' : Arv Z h4 b2 k2 .char (9 : Int32) [(.int 99), (.int 117), (.int 0), (.int 0), (.int 0), (.int 0), (.int 0), (.int 0), (.int 0)] (.int 0) := V4
  show Go _ _ _ _ (T4.setTop (mkF m 70 #[lI p0, lI p1] [(.ref b2)]))
  refine Go.st (fun _ => XS.dup X4.here hx rfl (hb hby od28_70) rfl rfl) ?_
  refine Go.st (fun _ => XS.iconst X4.here hx rfl (hb hby od28_71)) ?_
  refine Go.st (fun _ => XS.bipush X4.here hx rfl (hb hby od28_72)) ?_
  show Go _ _ _ _ (T4.setTop (mkF m 74 #[lI p0, lI p1] [(.int 115), (.int 2), (.ref b2), (.ref b2)]))
  obtain ⟨T5, h5, X5, e5, W5, V5, st5⟩ := own_stC X4 hx hZ e4 V4' (j := (2 : Int32)) (i := 2) (by decide) (by decide) (Nat.le_of_ble_eq_true rfl) (g := (mkF m 74 #[lI p0, lI p1] [(.int 115), (.int 2), (.ref b2), (.ref b2)])) rfl rfl (hb hby od28_74)
  refine Go.st st5 ?_
  have K5 : Keep h0 h5 [] := K4.wr W5 (Or.inr sz_b2)
  have O5 := O4.wr W5 g_b2
  have N5 := Fr.snoc X5 N4 g_b2
  have V5' : Arv Z h5 b2 k2 .char (9 : Int32) [(.int 99), (.int 117), (.int 115), (.int 0), (.int 0), (.int 0), (.int 0), (.int 0), (.int 0)] (.int 0) := V5
  show Go _ _ _ _ (T5.setTop (mkF m 75 #[lI p0, lI p1] [(.ref b2)]))
  refine Go.st (fun _ => XS.dup X5.here hx rfl (hb hby od28_75) rfl rfl) ?_
  refine Go.st (fun _ => XS.iconst X5.here hx rfl (hb hby od28_76)) ?_
  refine Go.st (fun _ => XS.bipush X5.here hx rfl (hb hby od28_77)) ?_
  show Go _ _ _ _ (T5.setTop (mkF m 79 #[lI p0, lI p1] [(.int 116), (.int 3), (.ref b2), (.ref b2)]))
  obtain ⟨T6, h6, X6, e6, W6, V6, st6⟩ := own_stC X5 hx hZ e5 V5' (j := (3 : Int32)) (i := 3) (by decide) (by decide) (Nat.le_of_ble_eq_true rfl) (g := (mkF m 79 #[lI p0, lI p1] [(.int 116), (.int 3), (.ref b2), (.ref b2)])) rfl rfl (hb hby od28_79)
  refine Go.st st6 ?_
  have K6 : Keep h0 h6 [] := K5.wr W6 (Or.inr sz_b2)
  have O6 := O5.wr W6 g_b2
  have N6 := Fr.snoc X6 N5 g_b2
  have V6' : Arv Z h6 b2 k2 .char (9 : Int32) [(.int 99), (.int 117), (.int 115), (.int 116), (.int 0), (.int 0), (.int 0), (.int 0), (.int 0)] (.int 0) := V6
  show Go _ _ _ _ (T6.setTop (mkF m 80 #[lI p0, lI p1] [(.ref b2)]))
  refine Go.st (fun _ => XS.dup X6.here hx rfl (hb hby od28_80) rfl rfl) ?_
  refine Go.st (fun _ => XS.iconst X6.here hx rfl (hb hby od28_81)) ?_
  refine Go.st (fun _ => XS.bipush X6.here hx rfl (hb hby od28_82)) ?_
  show Go _ _ _ _ (T6.setTop (mkF m 84 #[lI p0, lI p1] [(.int 111), (.int 4), (.ref b2), (.ref b2)]))
  obtain ⟨T7, h7, X7, e7, W7, V7, st7⟩ := own_stC X6 hx hZ e6 V6' (j := (4 : Int32)) (i := 4) (by decide) (by decide) (Nat.le_of_ble_eq_true rfl) (g := (mkF m 84 #[lI p0, lI p1] [(.int 111), (.int 4), (.ref b2), (.ref b2)])) rfl rfl (hb hby od28_84)
  refine Go.st st7 ?_
  have K7 : Keep h0 h7 [] := K6.wr W7 (Or.inr sz_b2)
  have O7 := O6.wr W7 g_b2
  have N7 := Fr.snoc X7 N6 g_b2
  have V7' : Arv Z h7 b2 k2 .char (9 : Int32) [(.int 99), (.int 117), (.int 115), (.int 116), (.int 111), (.int 0), (.int 0), (.int 0), (.int 0)] (.int 0) := V7
  show Go _ _ _ _ (T7.setTop (mkF m 85 #[lI p0, lI p1] [(.ref b2)]))
  refine Go.st (fun _ => XS.dup X7.here hx rfl (hb hby od28_85) rfl rfl) ?_
  refine Go.st (fun _ => XS.iconst X7.here hx rfl (hb hby od28_86)) ?_
  refine Go.st (fun _ => XS.bipush X7.here hx rfl (hb hby od28_87)) ?_
  show Go _ _ _ _ (T7.setTop (mkF m 89 #[lI p0, lI p1] [(.int 109), (.int 5), (.ref b2), (.ref b2)]))
  obtain ⟨T8, h8, X8, e8, W8, V8, st8⟩ := own_stC X7 hx hZ e7 V7' (j := (5 : Int32)) (i := 5) (by decide) (by decide) (Nat.le_of_ble_eq_true rfl) (g := (mkF m 89 #[lI p0, lI p1] [(.int 109), (.int 5), (.ref b2), (.ref b2)])) rfl rfl (hb hby od28_89)
  refine Go.st st8 ?_
  have K8 : Keep h0 h8 [] := K7.wr W8 (Or.inr sz_b2)
  have O8 := O7.wr W8 g_b2
  have N8 := Fr.snoc X8 N7 g_b2
  have V8' : Arv Z h8 b2 k2 .char (9 : Int32) [(.int 99), (.int 117), (.int 115), (.int 116), (.int 111), (.int 109), (.int 0), (.int 0), (.int 0)] (.int 0) := V8
  show Go _ _ _ _ (T8.setTop (mkF m 90 #[lI p0, lI p1] [(.ref b2)]))
  refine Go.st (fun _ => XS.dup X8.here hx rfl (hb hby od28_90) rfl rfl) ?_
  refine Go.st (fun _ => XS.bipush X8.here hx rfl (hb hby od28_91)) ?_
  refine Go.st (fun _ => XS.bipush X8.here hx rfl (hb hby od28_93)) ?_
  show Go _ _ _ _ (T8.setTop (mkF m 95 #[lI p0, lI p1] [(.int 101), (.int 6), (.ref b2), (.ref b2)]))
  obtain ⟨T9, h9, X9, e9, W9, V9, st9⟩ := own_stC X8 hx hZ e8 V8' (j := (6 : Int32)) (i := 6) (by decide) (by decide) (Nat.le_of_ble_eq_true rfl) (g := (mkF m 95 #[lI p0, lI p1] [(.int 101), (.int 6), (.ref b2), (.ref b2)])) rfl rfl (hb hby od28_95)
  refine Go.st st9 ?_
  have K9 : Keep h0 h9 [] := K8.wr W9 (Or.inr sz_b2)
  have O9 := O8.wr W9 g_b2
  have N9 := Fr.snoc X9 N8 g_b2
  have V9' : Arv Z h9 b2 k2 .char (9 : Int32) [(.int 99), (.int 117), (.int 115), (.int 116), (.int 111), (.int 109), (.int 101), (.int 0), (.int 0)] (.int 0) := V9
  show Go _ _ _ _ (T9.setTop (mkF m 96 #[lI p0, lI p1] [(.ref b2)]))
  refine Go.st (fun _ => XS.dup X9.here hx rfl (hb hby od28_96) rfl rfl) ?_
  refine Go.st (fun _ => XS.bipush X9.here hx rfl (hb hby od28_97)) ?_
  refine Go.st (fun _ => XS.bipush X9.here hx rfl (hb hby od28_99)) ?_
  show Go _ _ _ _ (T9.setTop (mkF m 101 #[lI p0, lI p1] [(.int 114), (.int 7), (.ref b2), (.ref b2)]))
  obtain ⟨T10, h10, X10, e10, W10, V10, st10⟩ := own_stC X9 hx hZ e9 V9' (j := (7 : Int32)) (i := 7) (by decide) (by decide) (Nat.le_of_ble_eq_true rfl) (g := (mkF m 101 #[lI p0, lI p1] [(.int 114), (.int 7), (.ref b2), (.ref b2)])) rfl rfl (hb hby od28_101)
  refine Go.st st10 ?_
  have K10 : Keep h0 h10 [] := K9.wr W10 (Or.inr sz_b2)
  have O10 := O9.wr W10 g_b2
  have N10 := Fr.snoc X10 N9 g_b2
  have V10' : Arv Z h10 b2 k2 .char (9 : Int32) [(.int 99), (.int 117), (.int 115), (.int 116), (.int 111), (.int 109), (.int 101), (.int 114), (.int 0)] (.int 0) := V10
  show Go _ _ _ _ (T10.setTop (mkF m 102 #[lI p0, lI p1] [(.ref b2)]))
  refine Go.st (fun _ => XS.dup X10.here hx rfl (hb hby od28_102) rfl rfl) ?_
  refine Go.st (fun _ => XS.bipush X10.here hx rfl (hb hby od28_103)) ?_
  refine Go.st (fun _ => XS.iloadN X10.here hx rfl (hb hby od28_105) rfl) ?_
  show Go _ _ _ _ (T10.setTop (mkF m 106 #[lI p0, lI p1] [(.int p0), (.int 8), (.ref b2), (.ref b2)]))
  obtain ⟨T11, h11, X11, e11, W11, V11, st11⟩ := own_stC X10 hx hZ e10 V10' (j := (8 : Int32)) (i := 8) (by decide) (by decide) (Nat.le_of_ble_eq_true rfl) (g := (mkF m 106 #[lI p0, lI p1] [(.int p0), (.int 8), (.ref b2), (.ref b2)])) rfl rfl (hb hby od28_106)
  refine Go.st st11 ?_
  rw [own_nar16 hcc] at V11
  have K11 : Keep h0 h11 [] := K10.wr W11 (Or.inr sz_b2)
  have O11 := O10.wr W11 g_b2
  have N11 := Fr.snoc X11 N10 g_b2
  have V11' : Arv Z h11 b2 k2 .char (9 : Int32) [(.int 99), (.int 117), (.int 115), (.int 116), (.int 111), (.int 109), (.int 101), (.int 114), (.int p0)] (.int 0) := V11
  show Go _ _ _ _ (T11.setTop (mkF m 107 #[lI p0, lI p1] [(.ref b2)]))
  obtain ⟨fs, hr, hrun, hended, hW, hsame⟩ := X11.leave (v := some (.ref b2)) (fun h => by rw [Bd.returns] at h; cases h)
  refine ⟨_, ?_, hPend _ _ hrun hended ⟨_, _, rfl, ?_, ⟨_, rfl⟩, hW, hsame.mono (by decide) (by decide)⟩⟩
  ·exact retOut X11 hx (t := (.array .char)) Bd.returns rfl (Or.inr (Or.inr (Or.inr (Or.inr ⟨rfl, rfl, rfl⟩)))) (hb hby od28_107) hr
  ·show Q_rm_mcl Z _ _ h0 n0 _ T11.heap _
   rw [e11]
   exact ⟨b2, k2, ([(99 : Int32), (117 : Int32), (115 : Int32), (116 : Int32), (111 : Int32), (109 : Int32), (101 : Int32), (114 : Int32), p0] : List Int32), rfl, N11, K11, sz_b2, V11', rfl, (fun h => own_all (by intro c hc; simp only [List.mem_cons, List.not_mem_nil, or_false] at hc; rcases hc with rfl | rfl | rfl | rfl | rfl | rfl | rfl | rfl | rfl <;> first | exact ⟨hcc.1, h⟩ | decide)), (fun h => ⟨8, Nat.le_of_ble_eq_true rfl, own_prefW (xs := ([99, 117, 115, 116, 111, 109, 101, 114] : List Int32)) (by decide), h⟩), (own_c16 (by intro c hc; simp only [List.mem_cons, List.not_mem_nil, or_false] at hc; rcases hc with rfl | rfl | rfl | rfl | rfl | rfl | rfl | rfl | rfl <;> first | exact hcc | decide))⟩
 ·skip
  refine Go.st (fun _ => XS.ifNo X0.here hx rfl (hb hby od28_1) rfl ((if0 _ _).trans (feq hc1).1)) ?_
  show Go _ _ _ _ (s₁.setTop (mkF m 4 #[lI p0, lI p1] []))
  refine Go.st (fun _ => XS.bipush X0.here hx rfl (hb hby od28_4)) ?_
  show Go _ _ _ _ (s₁.setTop (mkF m 6 #[lI p0, lI p1] [(.int 9)]))
  obtain ⟨T12, h12, k12, X12, e12, E12, A12, st12⟩ := newP X0 hx hZ (ow hw 5 rfl) e0 (g := (mkF m 6 #[lI p0, lI p1] [(.int 9)])) rfl (hb hby od28_6) rfl (by decide) (cap := 9) (by decide) (by decide) (by decide) (by decide)
  obtain ⟨b12, g12⟩ : ∃ z, z = h0.size := ⟨_, rfl⟩
  rw [← g12] at A12 st12
  refine Go.st st12 ?_
  have g_b12 : n0 ≤ b12 := Nat.le_trans (own_oldsz X00) (Nat.le_of_eq g12.symm)
  have sz_b12 : h0.size ≤ b12 := Nat.le_trans (Keep.refl h0 []).1 (Nat.le_of_eq g12.symm)
  have K12 : Keep h0 h12 [] := (Keep.refl h0 []).ext E12
  have O12 := X00.ext E12
  have V12 : Arv Z h12 b12 k12 .char (9 : Int32) [(.int 0), (.int 0), (.int 0), (.int 0), (.int 0), (.int 0), (.int 0), (.int 0), (.int 0)] (.int 0) := (Arv.new A12 (by decide)).pad (pad_rep [] (.int 0) 9)
  show Go _ _ _ _ (T12.setTop (mkF m 8 #[lI p0, lI p1] [(.ref b12)]))
  refine Go.st (fun _ => XS.dup X12.here hx rfl (hb hby od28_8) rfl rfl) ?_
  refine Go.st (fun _ => XS.iconst X12.here hx rfl (hb hby od28_9)) ?_
  refine Go.st (fun _ => XS.iloadN X12.here hx rfl (hb hby od28_10) rfl) ?_
  show Go _ _ _ _ (T12.setTop (mkF m 11 #[lI p0, lI p1] [(.int p0), (.int 0), (.ref b12), (.ref b12)]))
  obtain ⟨T13, h13, X13, e13, W13, V13, st13⟩ := own_stC X12 hx hZ e12 V12 (j := (0 : Int32)) (i := 0) (by decide) (by decide) (Nat.le_of_ble_eq_true rfl) (g := (mkF m 11 #[lI p0, lI p1] [(.int p0), (.int 0), (.ref b12), (.ref b12)])) rfl rfl (hb hby od28_11)
  refine Go.st st13 ?_
  rw [own_nar16 hcc] at V13
  have K13 : Keep h0 h13 [] := K12.wr W13 (Or.inr sz_b12)
  have O13 := O12.wr W13 g_b12
  have N13 := Fr.snoc X13 N0 g_b12
  have V13' : Arv Z h13 b12 k12 .char (9 : Int32) [(.int p0), (.int 0), (.int 0), (.int 0), (.int 0), (.int 0), (.int 0), (.int 0), (.int 0)] (.int 0) := V13
  show Go _ _ _ _ (T13.setTop (mkF m 12 #[lI p0, lI p1] [(.ref b12)]))
  refine Go.st (fun _ => XS.dup X13.here hx rfl (hb hby od28_12) rfl rfl) ?_
  refine Go.st (fun _ => XS.iconst X13.here hx rfl (hb hby od28_13)) ?_
  refine Go.st (fun _ => XS.bipush X13.here hx rfl (hb hby od28_14)) ?_
  show Go _ _ _ _ (T13.setTop (mkF m 16 #[lI p0, lI p1] [(.int 99), (.int 1), (.ref b12), (.ref b12)]))
  obtain ⟨T14, h14, X14, e14, W14, V14, st14⟩ := own_stC X13 hx hZ e13 V13' (j := (1 : Int32)) (i := 1) (by decide) (by decide) (Nat.le_of_ble_eq_true rfl) (g := (mkF m 16 #[lI p0, lI p1] [(.int 99), (.int 1), (.ref b12), (.ref b12)])) rfl rfl (hb hby od28_16)
  refine Go.st st14 ?_
  have K14 : Keep h0 h14 [] := K13.wr W14 (Or.inr sz_b12)
  have O14 := O13.wr W14 g_b12
  have N14 := Fr.snoc X14 N13 g_b12
  have V14' : Arv Z h14 b12 k12 .char (9 : Int32) [(.int p0), (.int 99), (.int 0), (.int 0), (.int 0), (.int 0), (.int 0), (.int 0), (.int 0)] (.int 0) := V14
  show Go _ _ _ _ (T14.setTop (mkF m 17 #[lI p0, lI p1] [(.ref b12)]))
  refine Go.st (fun _ => XS.dup X14.here hx rfl (hb hby od28_17) rfl rfl) ?_
  refine Go.st (fun _ => XS.iconst X14.here hx rfl (hb hby od28_18)) ?_
  refine Go.st (fun _ => XS.bipush X14.here hx rfl (hb hby od28_19)) ?_
  show Go _ _ _ _ (T14.setTop (mkF m 21 #[lI p0, lI p1] [(.int 117), (.int 2), (.ref b12), (.ref b12)]))
  obtain ⟨T15, h15, X15, e15, W15, V15, st15⟩ := own_stC X14 hx hZ e14 V14' (j := (2 : Int32)) (i := 2) (by decide) (by decide) (Nat.le_of_ble_eq_true rfl) (g := (mkF m 21 #[lI p0, lI p1] [(.int 117), (.int 2), (.ref b12), (.ref b12)])) rfl rfl (hb hby od28_21)
  refine Go.st st15 ?_
  have K15 : Keep h0 h15 [] := K14.wr W15 (Or.inr sz_b12)
  have O15 := O14.wr W15 g_b12
  have N15 := Fr.snoc X15 N14 g_b12
  have V15' : Arv Z h15 b12 k12 .char (9 : Int32) [(.int p0), (.int 99), (.int 117), (.int 0), (.int 0), (.int 0), (.int 0), (.int 0), (.int 0)] (.int 0) := V15
  show Go _ _ _ _ (T15.setTop (mkF m 22 #[lI p0, lI p1] [(.ref b12)]))
  refine Go.st (fun _ => XS.dup X15.here hx rfl (hb hby od28_22) rfl rfl) ?_
  refine Go.st (fun _ => XS.iconst X15.here hx rfl (hb hby od28_23)) ?_
  refine Go.st (fun _ => XS.bipush X15.here hx rfl (hb hby od28_24)) ?_
  show Go _ _ _ _ (T15.setTop (mkF m 26 #[lI p0, lI p1] [(.int 115), (.int 3), (.ref b12), (.ref b12)]))
  obtain ⟨T16, h16, X16, e16, W16, V16, st16⟩ := own_stC X15 hx hZ e15 V15' (j := (3 : Int32)) (i := 3) (by decide) (by decide) (Nat.le_of_ble_eq_true rfl) (g := (mkF m 26 #[lI p0, lI p1] [(.int 115), (.int 3), (.ref b12), (.ref b12)])) rfl rfl (hb hby od28_26)
  refine Go.st st16 ?_
  have K16 : Keep h0 h16 [] := K15.wr W16 (Or.inr sz_b12)
  have O16 := O15.wr W16 g_b12
  have N16 := Fr.snoc X16 N15 g_b12
  have V16' : Arv Z h16 b12 k12 .char (9 : Int32) [(.int p0), (.int 99), (.int 117), (.int 115), (.int 0), (.int 0), (.int 0), (.int 0), (.int 0)] (.int 0) := V16
  show Go _ _ _ _ (T16.setTop (mkF m 27 #[lI p0, lI p1] [(.ref b12)]))
  refine Go.st (fun _ => XS.dup X16.here hx rfl (hb hby od28_27) rfl rfl) ?_
  refine Go.st (fun _ => XS.iconst X16.here hx rfl (hb hby od28_28)) ?_
  refine Go.st (fun _ => XS.bipush X16.here hx rfl (hb hby od28_29)) ?_
  show Go _ _ _ _ (T16.setTop (mkF m 31 #[lI p0, lI p1] [(.int 116), (.int 4), (.ref b12), (.ref b12)]))
  obtain ⟨T17, h17, X17, e17, W17, V17, st17⟩ := own_stC X16 hx hZ e16 V16' (j := (4 : Int32)) (i := 4) (by decide) (by decide) (Nat.le_of_ble_eq_true rfl) (g := (mkF m 31 #[lI p0, lI p1] [(.int 116), (.int 4), (.ref b12), (.ref b12)])) rfl rfl (hb hby od28_31)
  refine Go.st st17 ?_
  have K17 : Keep h0 h17 [] := K16.wr W17 (Or.inr sz_b12)
  have O17 := O16.wr W17 g_b12
  have N17 := Fr.snoc X17 N16 g_b12
  have V17' : Arv Z h17 b12 k12 .char (9 : Int32) [(.int p0), (.int 99), (.int 117), (.int 115), (.int 116), (.int 0), (.int 0), (.int 0), (.int 0)] (.int 0) := V17
  show Go _ _ _ _ (T17.setTop (mkF m 32 #[lI p0, lI p1] [(.ref b12)]))
  refine Go.st (fun _ => XS.dup X17.here hx rfl (hb hby od28_32) rfl rfl) ?_
  refine Go.st (fun _ => XS.iconst X17.here hx rfl (hb hby od28_33)) ?_
  refine Go.st (fun _ => XS.bipush X17.here hx rfl (hb hby od28_34)) ?_
  show Go _ _ _ _ (T17.setTop (mkF m 36 #[lI p0, lI p1] [(.int 111), (.int 5), (.ref b12), (.ref b12)]))
  obtain ⟨T18, h18, X18, e18, W18, V18, st18⟩ := own_stC X17 hx hZ e17 V17' (j := (5 : Int32)) (i := 5) (by decide) (by decide) (Nat.le_of_ble_eq_true rfl) (g := (mkF m 36 #[lI p0, lI p1] [(.int 111), (.int 5), (.ref b12), (.ref b12)])) rfl rfl (hb hby od28_36)
  refine Go.st st18 ?_
  have K18 : Keep h0 h18 [] := K17.wr W18 (Or.inr sz_b12)
  have O18 := O17.wr W18 g_b12
  have N18 := Fr.snoc X18 N17 g_b12
  have V18' : Arv Z h18 b12 k12 .char (9 : Int32) [(.int p0), (.int 99), (.int 117), (.int 115), (.int 116), (.int 111), (.int 0), (.int 0), (.int 0)] (.int 0) := V18
  show Go _ _ _ _ (T18.setTop (mkF m 37 #[lI p0, lI p1] [(.ref b12)]))
  refine Go.st (fun _ => XS.dup X18.here hx rfl (hb hby od28_37) rfl rfl) ?_
  refine Go.st (fun _ => XS.bipush X18.here hx rfl (hb hby od28_38)) ?_
  refine Go.st (fun _ => XS.bipush X18.here hx rfl (hb hby od28_40)) ?_
  show Go _ _ _ _ (T18.setTop (mkF m 42 #[lI p0, lI p1] [(.int 109), (.int 6), (.ref b12), (.ref b12)]))
  obtain ⟨T19, h19, X19, e19, W19, V19, st19⟩ := own_stC X18 hx hZ e18 V18' (j := (6 : Int32)) (i := 6) (by decide) (by decide) (Nat.le_of_ble_eq_true rfl) (g := (mkF m 42 #[lI p0, lI p1] [(.int 109), (.int 6), (.ref b12), (.ref b12)])) rfl rfl (hb hby od28_42)
  refine Go.st st19 ?_
  have K19 : Keep h0 h19 [] := K18.wr W19 (Or.inr sz_b12)
  have O19 := O18.wr W19 g_b12
  have N19 := Fr.snoc X19 N18 g_b12
  have V19' : Arv Z h19 b12 k12 .char (9 : Int32) [(.int p0), (.int 99), (.int 117), (.int 115), (.int 116), (.int 111), (.int 109), (.int 0), (.int 0)] (.int 0) := V19
  show Go _ _ _ _ (T19.setTop (mkF m 43 #[lI p0, lI p1] [(.ref b12)]))
  refine Go.st (fun _ => XS.dup X19.here hx rfl (hb hby od28_43) rfl rfl) ?_
  refine Go.st (fun _ => XS.bipush X19.here hx rfl (hb hby od28_44)) ?_
  refine Go.st (fun _ => XS.bipush X19.here hx rfl (hb hby od28_46)) ?_
  show Go _ _ _ _ (T19.setTop (mkF m 48 #[lI p0, lI p1] [(.int 101), (.int 7), (.ref b12), (.ref b12)]))
  obtain ⟨T20, h20, X20, e20, W20, V20, st20⟩ := own_stC X19 hx hZ e19 V19' (j := (7 : Int32)) (i := 7) (by decide) (by decide) (Nat.le_of_ble_eq_true rfl) (g := (mkF m 48 #[lI p0, lI p1] [(.int 101), (.int 7), (.ref b12), (.ref b12)])) rfl rfl (hb hby od28_48)
  refine Go.st st20 ?_
  have K20 : Keep h0 h20 [] := K19.wr W20 (Or.inr sz_b12)
  have O20 := O19.wr W20 g_b12
  have N20 := Fr.snoc X20 N19 g_b12
  have V20' : Arv Z h20 b12 k12 .char (9 : Int32) [(.int p0), (.int 99), (.int 117), (.int 115), (.int 116), (.int 111), (.int 109), (.int 101), (.int 0)] (.int 0) := V20
  show Go _ _ _ _ (T20.setTop (mkF m 49 #[lI p0, lI p1] [(.ref b12)]))
  refine Go.st (fun _ => XS.dup X20.here hx rfl (hb hby od28_49) rfl rfl) ?_
  refine Go.st (fun _ => XS.bipush X20.here hx rfl (hb hby od28_50)) ?_
  refine Go.st (fun _ => XS.bipush X20.here hx rfl (hb hby od28_52)) ?_
  show Go _ _ _ _ (T20.setTop (mkF m 54 #[lI p0, lI p1] [(.int 114), (.int 8), (.ref b12), (.ref b12)]))
  obtain ⟨T21, h21, X21, e21, W21, V21, st21⟩ := own_stC X20 hx hZ e20 V20' (j := (8 : Int32)) (i := 8) (by decide) (by decide) (Nat.le_of_ble_eq_true rfl) (g := (mkF m 54 #[lI p0, lI p1] [(.int 114), (.int 8), (.ref b12), (.ref b12)])) rfl rfl (hb hby od28_54)
  refine Go.st st21 ?_
  have K21 : Keep h0 h21 [] := K20.wr W21 (Or.inr sz_b12)
  have O21 := O20.wr W21 g_b12
  have N21 := Fr.snoc X21 N20 g_b12
  have V21' : Arv Z h21 b12 k12 .char (9 : Int32) [(.int p0), (.int 99), (.int 117), (.int 115), (.int 116), (.int 111), (.int 109), (.int 101), (.int 114)] (.int 0) := V21
  show Go _ _ _ _ (T21.setTop (mkF m 55 #[lI p0, lI p1] [(.ref b12)]))
  obtain ⟨fs, hr, hrun, hended, hW, hsame⟩ := X21.leave (v := some (.ref b12)) (fun h => by rw [Bd.returns] at h; cases h)
  refine ⟨_, ?_, hPend _ _ hrun hended ⟨_, _, rfl, ?_, ⟨_, rfl⟩, hW, hsame.mono (by decide) (by decide)⟩⟩
  ·exact retOut X21 hx (t := (.array .char)) Bd.returns rfl (Or.inr (Or.inr (Or.inr (Or.inr ⟨rfl, rfl, rfl⟩)))) (hb hby od28_55) hr
  ·show Q_rm_mcl Z _ _ h0 n0 _ T21.heap _
   rw [e21]
   exact ⟨b12, k12, ([p0, (99 : Int32), (117 : Int32), (115 : Int32), (116 : Int32), (111 : Int32), (109 : Int32), (101 : Int32), (114 : Int32)] : List Int32), rfl, N21, K21, sz_b12, V21', rfl, (fun h => own_all (by intro c hc; simp only [List.mem_cons, List.not_mem_nil, or_false] at hc; rcases hc with rfl | rfl | rfl | rfl | rfl | rfl | rfl | rfl | rfl <;> first | exact ⟨hcc.1, h⟩ | decide)), (fun h => ⟨0, Nat.le_of_ble_eq_true rfl, fun t ht => absurd ht (Nat.not_lt_zero _), h⟩), (own_c16 (by intro c hc; simp only [List.mem_cons, List.not_mem_nil, or_false] at hc; rcases hc with rfl | rfl | rfl | rfl | rfl | rfl | rfl | rfl | rfl <;> first | exact hcc | decide))⟩
theorem own_ef_rm_mpl (m : MethodId) (x0 : Int32) (x1 : Int32) : entryFrame m #[(.int x0), (.int x1)] 2 = mkF m 0 #[.val (.int x0), .val (.int x1)] [] := by first | (simp [entryFrame, mkF, argsToLocals, Value.category]; done) | rfl
theorem od29_0 : decode method_8_code 0 = .ok (.iload_n 1, 1) := by decide +kernel
theorem od29_1 : decode method_8_code 1 = .ok (.ifCond .eq 73, 3) := by decide +kernel
theorem od29_74 : decode method_8_code 74 = .ok (.bipush 12, 2) := by decide +kernel
theorem od29_76 : decode method_8_code 76 = .ok (.newarray .char, 2) := by decide +kernel
theorem od29_78 : decode method_8_code 78 = .ok (.dup, 1) := by decide +kernel
theorem od29_79 : decode method_8_code 79 = .ok (.iconst 0, 1) := by decide +kernel
theorem od29_80 : decode method_8_code 80 = .ok (.bipush 112, 2) := by decide +kernel
theorem od29_82 : decode method_8_code 82 = .ok (.castore, 1) := by decide +kernel
theorem od29_83 : decode method_8_code 83 = .ok (.dup, 1) := by decide +kernel
theorem od29_84 : decode method_8_code 84 = .ok (.iconst 1, 1) := by decide +kernel
theorem od29_85 : decode method_8_code 85 = .ok (.bipush 114, 2) := by decide +kernel
theorem od29_87 : decode method_8_code 87 = .ok (.castore, 1) := by decide +kernel
theorem od29_88 : decode method_8_code 88 = .ok (.dup, 1) := by decide +kernel
theorem od29_89 : decode method_8_code 89 = .ok (.iconst 2, 1) := by decide +kernel
theorem od29_90 : decode method_8_code 90 = .ok (.bipush 111, 2) := by decide +kernel
theorem od29_92 : decode method_8_code 92 = .ok (.castore, 1) := by decide +kernel
theorem od29_93 : decode method_8_code 93 = .ok (.dup, 1) := by decide +kernel
theorem od29_94 : decode method_8_code 94 = .ok (.iconst 3, 1) := by decide +kernel
theorem od29_95 : decode method_8_code 95 = .ok (.bipush 112, 2) := by decide +kernel
theorem od29_97 : decode method_8_code 97 = .ok (.castore, 1) := by decide +kernel
theorem od29_98 : decode method_8_code 98 = .ok (.dup, 1) := by decide +kernel
theorem od29_99 : decode method_8_code 99 = .ok (.iconst 4, 1) := by decide +kernel
theorem od29_100 : decode method_8_code 100 = .ok (.bipush 114, 2) := by decide +kernel
theorem od29_102 : decode method_8_code 102 = .ok (.castore, 1) := by decide +kernel
theorem od29_103 : decode method_8_code 103 = .ok (.dup, 1) := by decide +kernel
theorem od29_104 : decode method_8_code 104 = .ok (.iconst 5, 1) := by decide +kernel
theorem od29_105 : decode method_8_code 105 = .ok (.bipush 105, 2) := by decide +kernel
theorem od29_107 : decode method_8_code 107 = .ok (.castore, 1) := by decide +kernel
theorem od29_108 : decode method_8_code 108 = .ok (.dup, 1) := by decide +kernel
theorem od29_109 : decode method_8_code 109 = .ok (.bipush 6, 2) := by decide +kernel
theorem od29_111 : decode method_8_code 111 = .ok (.bipush 101, 2) := by decide +kernel
theorem od29_113 : decode method_8_code 113 = .ok (.castore, 1) := by decide +kernel
theorem od29_114 : decode method_8_code 114 = .ok (.dup, 1) := by decide +kernel
theorem od29_115 : decode method_8_code 115 = .ok (.bipush 7, 2) := by decide +kernel
theorem od29_117 : decode method_8_code 117 = .ok (.bipush 116, 2) := by decide +kernel
theorem od29_119 : decode method_8_code 119 = .ok (.castore, 1) := by decide +kernel
theorem od29_120 : decode method_8_code 120 = .ok (.dup, 1) := by decide +kernel
theorem od29_121 : decode method_8_code 121 = .ok (.bipush 8, 2) := by decide +kernel
theorem od29_123 : decode method_8_code 123 = .ok (.bipush 97, 2) := by decide +kernel
theorem od29_125 : decode method_8_code 125 = .ok (.castore, 1) := by decide +kernel
theorem od29_126 : decode method_8_code 126 = .ok (.dup, 1) := by decide +kernel
theorem od29_127 : decode method_8_code 127 = .ok (.bipush 9, 2) := by decide +kernel
theorem od29_129 : decode method_8_code 129 = .ok (.bipush 114, 2) := by decide +kernel
theorem od29_131 : decode method_8_code 131 = .ok (.castore, 1) := by decide +kernel
theorem od29_132 : decode method_8_code 132 = .ok (.dup, 1) := by decide +kernel
theorem od29_133 : decode method_8_code 133 = .ok (.bipush 10, 2) := by decide +kernel
theorem od29_135 : decode method_8_code 135 = .ok (.bipush 121, 2) := by decide +kernel
theorem od29_137 : decode method_8_code 137 = .ok (.castore, 1) := by decide +kernel
theorem od29_138 : decode method_8_code 138 = .ok (.dup, 1) := by decide +kernel
theorem od29_139 : decode method_8_code 139 = .ok (.bipush 11, 2) := by decide +kernel
theorem od29_141 : decode method_8_code 141 = .ok (.iload_n 0, 1) := by decide +kernel
theorem od29_142 : decode method_8_code 142 = .ok (.castore, 1) := by decide +kernel
theorem od29_143 : decode method_8_code 143 = .ok (.areturn, 1) := by decide +kernel
theorem od29_4 : decode method_8_code 4 = .ok (.bipush 12, 2) := by decide +kernel
theorem od29_6 : decode method_8_code 6 = .ok (.newarray .char, 2) := by decide +kernel
theorem od29_8 : decode method_8_code 8 = .ok (.dup, 1) := by decide +kernel
theorem od29_9 : decode method_8_code 9 = .ok (.iconst 0, 1) := by decide +kernel
theorem od29_10 : decode method_8_code 10 = .ok (.iload_n 0, 1) := by decide +kernel
theorem od29_11 : decode method_8_code 11 = .ok (.castore, 1) := by decide +kernel
theorem od29_12 : decode method_8_code 12 = .ok (.dup, 1) := by decide +kernel
theorem od29_13 : decode method_8_code 13 = .ok (.iconst 1, 1) := by decide +kernel
theorem od29_14 : decode method_8_code 14 = .ok (.bipush 112, 2) := by decide +kernel
theorem od29_16 : decode method_8_code 16 = .ok (.castore, 1) := by decide +kernel
theorem od29_17 : decode method_8_code 17 = .ok (.dup, 1) := by decide +kernel
theorem od29_18 : decode method_8_code 18 = .ok (.iconst 2, 1) := by decide +kernel
theorem od29_19 : decode method_8_code 19 = .ok (.bipush 114, 2) := by decide +kernel
theorem od29_21 : decode method_8_code 21 = .ok (.castore, 1) := by decide +kernel
theorem od29_22 : decode method_8_code 22 = .ok (.dup, 1) := by decide +kernel
theorem od29_23 : decode method_8_code 23 = .ok (.iconst 3, 1) := by decide +kernel
theorem od29_24 : decode method_8_code 24 = .ok (.bipush 111, 2) := by decide +kernel
theorem od29_26 : decode method_8_code 26 = .ok (.castore, 1) := by decide +kernel
theorem od29_27 : decode method_8_code 27 = .ok (.dup, 1) := by decide +kernel
theorem od29_28 : decode method_8_code 28 = .ok (.iconst 4, 1) := by decide +kernel
theorem od29_29 : decode method_8_code 29 = .ok (.bipush 112, 2) := by decide +kernel
theorem od29_31 : decode method_8_code 31 = .ok (.castore, 1) := by decide +kernel
theorem od29_32 : decode method_8_code 32 = .ok (.dup, 1) := by decide +kernel
theorem od29_33 : decode method_8_code 33 = .ok (.iconst 5, 1) := by decide +kernel
theorem od29_34 : decode method_8_code 34 = .ok (.bipush 114, 2) := by decide +kernel
theorem od29_36 : decode method_8_code 36 = .ok (.castore, 1) := by decide +kernel
theorem od29_37 : decode method_8_code 37 = .ok (.dup, 1) := by decide +kernel
theorem od29_38 : decode method_8_code 38 = .ok (.bipush 6, 2) := by decide +kernel
theorem od29_40 : decode method_8_code 40 = .ok (.bipush 105, 2) := by decide +kernel
theorem od29_42 : decode method_8_code 42 = .ok (.castore, 1) := by decide +kernel
theorem od29_43 : decode method_8_code 43 = .ok (.dup, 1) := by decide +kernel
theorem od29_44 : decode method_8_code 44 = .ok (.bipush 7, 2) := by decide +kernel
theorem od29_46 : decode method_8_code 46 = .ok (.bipush 101, 2) := by decide +kernel
theorem od29_48 : decode method_8_code 48 = .ok (.castore, 1) := by decide +kernel
theorem od29_49 : decode method_8_code 49 = .ok (.dup, 1) := by decide +kernel
theorem od29_50 : decode method_8_code 50 = .ok (.bipush 8, 2) := by decide +kernel
theorem od29_52 : decode method_8_code 52 = .ok (.bipush 116, 2) := by decide +kernel
theorem od29_54 : decode method_8_code 54 = .ok (.castore, 1) := by decide +kernel
theorem od29_55 : decode method_8_code 55 = .ok (.dup, 1) := by decide +kernel
theorem od29_56 : decode method_8_code 56 = .ok (.bipush 9, 2) := by decide +kernel
theorem od29_58 : decode method_8_code 58 = .ok (.bipush 97, 2) := by decide +kernel
theorem od29_60 : decode method_8_code 60 = .ok (.castore, 1) := by decide +kernel
theorem od29_61 : decode method_8_code 61 = .ok (.dup, 1) := by decide +kernel
theorem od29_62 : decode method_8_code 62 = .ok (.bipush 10, 2) := by decide +kernel
theorem od29_64 : decode method_8_code 64 = .ok (.bipush 114, 2) := by decide +kernel
theorem od29_66 : decode method_8_code 66 = .ok (.castore, 1) := by decide +kernel
theorem od29_67 : decode method_8_code 67 = .ok (.dup, 1) := by decide +kernel
theorem od29_68 : decode method_8_code 68 = .ok (.bipush 11, 2) := by decide +kernel
theorem od29_70 : decode method_8_code 70 = .ok (.bipush 121, 2) := by decide +kernel
theorem od29_72 : decode method_8_code 72 = .ok (.castore, 1) := by decide +kernel
theorem od29_73 : decode method_8_code 73 = .ok (.areturn, 1) := by decide +kernel
def Q_rm_mpl (Z : State) (p0 : Int32) (p1 : Int32) (h0 : Heap) (n0 : Nat) (v : Option Value) (h : Heap) (L : List Loc) : Prop := ∃ (ob : Addr) (kb : ClassId) (xs : List Int32), v = some (.ref ob) ∧ Fr n0 L ∧ Keep h0 h [] ∧ h0.size ≤ ob ∧ Arv Z h ob kb .char (12 : Int32) (xs.map Value.int) (.int 0) ∧ (xs.length = 12) ∧ (¬ (255 : Int32) < p0 → ∀ c ∈ xs, ¬ c < 0 ∧ ¬ (255 : Int32) < c) ∧ ((255 : Int32) < p0 → ∃ j, own_W xs j) ∧ (own_C xs)
set_option maxRecDepth 65536 in
set_option maxHeartbeats 40000000 in
theorem rm_mpl (l : Launch) (Z : State) (a0 : Array Value) (hw : ∀ d ∈ tables_1, d.before a0 Z = true) (ws : List Jvm.Cond) (p0 : Int32) (p1 : Int32) (h0 : Heap) (n0 : Nat) (X00 : Old Z n0 h0) (hcc : ¬ p0 < 0 ∧ ¬ (65535 : Int32) < p0) :
    MetFree l (⟨"com/example/tidewall/tidewall/ledger/AccountClassByIdPinLaw", "propLong", "(CZ)[C"⟩ : MethodName) (head1 (Jvm.Cond.code (⟨"com/example/tidewall/tidewall/ledger/AccountClassByIdPinLaw", "propLong", "(CZ)[C"⟩ : MethodName) method_8_code 2 (some (.array .char)) :: ws) ({ frames := 0, cells := 1, slots := 12, locals := 0 } : Room)) (fun a U => a = #[(.int p0), (.int p1)] ∧ Z.Warmed39 U.vm ∧ U.heap = h0) (fun _ _ _ _ _ => True) (fun _ U o U' => ∃ v L, o = .returned v ∧ Q_rm_mpl Z p0 p1 h0 n0 v U'.heap L ∧ FrameEnd U o U' L ({ frames := 0, cells := 1, slots := 12, locals := 0 } : Room).cells ({ frames := 0, cells := 1, slots := 12, locals := 0 } : Room).slots) := by
 refine MetFree.of_bodySF (plainFor_of_name own_pn6) hisR ?_
 intro p e s m args below meth c s₁ Bd hml0 hP hK
 obtain ⟨rfl, hZ, hh⟩ := hP
 have hx := Bd.exec
 have hby := Bd.bytes
 have hml : c.maxLocals = 2 := hml0
 have hown : s.vm.findClass "com/example/tidewall/tidewall/ledger/AccountClassByIdPinLaw" = some m.cls := findClass_of_methodNamed Bd.named
 have hnm := (name_of_methodNamed Bd.named Bd.method).1
 have X0 : Stand p l e ({ frames := 0, cells := 1, slots := 12, locals := 0 } : Room) s m #[(.int p0), (.int p1)] below meth c s₁ [] 0 0 := Stand.of_body Bd
 have e0 : s₁.heap = h0 := by rw [← hh, Bd.state]; rfl
 have N0 := Fr.nil n0
 refine Go.start fun P hPend => ?_
 refine Go.st (fun _ k => castTop (own_ef_rm_mpl m p0 p1) k) ?_
 show Go _ _ _ _ (s₁.setTop (mkF m 0 #[lI p0, lI p1] []))
 refine Go.st (fun _ => XS.iloadN X0.here hx rfl (hb hby od29_0) rfl) ?_
 show Go _ _ _ _ (s₁.setTop (mkF m 1 #[lI p0, lI p1] [(.int p1)]))
 by_cases hc1 : p1 = (0 : Int32)
 ·skip
  refine Go.st (fun _ => XS.ifYes X0.here hx rfl (pc0 := 1) (pc' := 74) rfl (hb hby od29_1) rfl ((if0 _ _).trans (teq hc1).1) (by decide) (by decide)) ?_
  show Go _ _ _ _ (s₁.setTop (mkF m 74 #[lI p0, lI p1] []))
  refine Go.st (fun _ => XS.bipush X0.here hx rfl (hb hby od29_74)) ?_
  show Go _ _ _ _ (s₁.setTop (mkF m 76 #[lI p0, lI p1] [(.int 12)]))
  obtain ⟨T2, h2, k2, X2, e2, E2, A2, st2⟩ := newP X0 hx hZ (ow hw 5 rfl) e0 (g := (mkF m 76 #[lI p0, lI p1] [(.int 12)])) rfl (hb hby od29_76) rfl (by decide) (cap := 12) (by decide) (by decide) (by decide) (by decide)
  obtain ⟨b2, g2⟩ : ∃ z, z = h0.size := ⟨_, rfl⟩
  rw [← g2] at A2 st2
  refine Go.st st2 ?_
  have g_b2 : n0 ≤ b2 := Nat.le_trans (own_oldsz X00) (Nat.le_of_eq g2.symm)
  have sz_b2 : h0.size ≤ b2 := Nat.le_trans (Keep.refl h0 []).1 (Nat.le_of_eq g2.symm)
  have K2 : Keep h0 h2 [] := (Keep.refl h0 []).ext E2
  have O2 := X00.ext E2
  have V2 : Arv Z h2 b2 k2 .char (12 : Int32) [(.int 0), (.int 0), (.int 0), (.int 0), (.int 0), (.int 0), (.int 0), (.int 0), (.int 0), (.int 0), (.int 0), (.int 0)] (.int 0) := (Arv.new A2 (by decide)).pad (pad_rep [] (.int 0) 12)
  show Go _ _ _ _ (T2.setTop (mkF m 78 #[lI p0, lI p1] [(.ref b2)]))
  refine Go.st (fun _ => XS.dup X2.here hx rfl (hb hby od29_78) rfl rfl) ?_
  refine Go.st (fun _ => XS.iconst X2.here hx rfl (hb hby od29_79)) ?_
  refine Go.st (fun _ => XS.bipush X2.here hx rfl (hb hby od29_80)) ?_
  show Go _ _ _ _ (T2.setTop (mkF m 82 #[lI p0, lI p1] [(.int 112), (.int 0), (.ref b2), (.ref b2)]))
  obtain ⟨T3, h3, X3, e3, W3, V3, st3⟩ := own_stC X2 hx hZ e2 V2 (j := (0 : Int32)) (i := 0) (by decide) (by decide) (Nat.le_of_ble_eq_true rfl) (g := (mkF m 82 #[lI p0, lI p1] [(.int 112), (.int 0), (.ref b2), (.ref b2)])) rfl rfl (hb hby od29_82)
  refine Go.st st3 ?_
  have K3 : Keep h0 h3 [] := K2.wr W3 (Or.inr sz_b2)
  have O3 := O2.wr W3 g_b2
  have N3 := Fr.snoc X3 N0 g_b2
  have V3' : Arv Z h3 b2 k2 .char (12 : Int32) [(.int 112), (.int 0), (.int 0), (.int 0), (.int 0), (.int 0), (.int 0), (.int 0), (.int 0), (.int 0), (.int 0), (.int 0)] (.int 0) := V3
  show Go _ _ _ _ (T3.setTop (mkF m 83 #[lI p0, lI p1] [(.ref b2)]))
  refine Go.st (fun _ => XS.dup X3.here hx rfl (hb hby od29_83) rfl rfl) ?_
  refine Go.st (fun _ => XS.iconst X3.here hx rfl (hb hby od29_84)) ?_
  refine Go.st (fun _ => XS.bipush X3.here hx rfl (hb hby od29_85)) ?_
  show Go _ _ _ _ (T3.setTop (mkF m 87 #[lI p0, lI p1] [(.int 114), (.int 1), (.ref b2), (.ref b2)]))
  obtain ⟨T4, h4, X4, e4, W4, V4, st4⟩ := own_stC X3 hx hZ e3 V3' (j := (1 : Int32)) (i := 1) (by decide) (by decide) (Nat.le_of_ble_eq_true rfl) (g := (mkF m 87 #[lI p0, lI p1] [(.int 114), (.int 1), (.ref b2), (.ref b2)])) rfl rfl (hb hby od29_87)
  refine Go.st st4 ?_
  have K4 : Keep h0 h4 [] := K3.wr W4 (Or.inr sz_b2)
  have O4 := O3.wr W4 g_b2
  have N4 := Fr.snoc X4 N3 g_b2
  have V4' : Arv Z h4 b2 k2 .char (12 : Int32) [(.int 112), (.int 114), (.int 0), (.int 0), (.int 0), (.int 0), (.int 0), (.int 0), (.int 0), (.int 0), (.int 0), (.int 0)] (.int 0) := V4
  show Go _ _ _ _ (T4.setTop (mkF m 88 #[lI p0, lI p1] [(.ref b2)]))
  refine Go.st (fun _ => XS.dup X4.here hx rfl (hb hby od29_88) rfl rfl) ?_
  refine Go.st (fun _ => XS.iconst X4.here hx rfl (hb hby od29_89)) ?_
  refine Go.st (fun _ => XS.bipush X4.here hx rfl (hb hby od29_90)) ?_
  show Go _ _ _ _ (T4.setTop (mkF m 92 #[lI p0, lI p1] [(.int 111), (.int 2), (.ref b2), (.ref b2)]))
  obtain ⟨T5, h5, X5, e5, W5, V5, st5⟩ := own_stC X4 hx hZ e4 V4' (j := (2 : Int32)) (i := 2) (by decide) (by decide) (Nat.le_of_ble_eq_true rfl) (g := (mkF m 92 #[lI p0, lI p1] [(.int 111), (.int 2), (.ref b2), (.ref b2)])) rfl rfl (hb hby od29_92)
  refine Go.st st5 ?_
  have K5 : Keep h0 h5 [] := K4.wr W5 (Or.inr sz_b2)
  have O5 := O4.wr W5 g_b2
  have N5 := Fr.snoc X5 N4 g_b2
  have V5' : Arv Z h5 b2 k2 .char (12 : Int32) [(.int 112), (.int 114), (.int 111), (.int 0), (.int 0), (.int 0), (.int 0), (.int 0), (.int 0), (.int 0), (.int 0), (.int 0)] (.int 0) := V5
  show Go _ _ _ _ (T5.setTop (mkF m 93 #[lI p0, lI p1] [(.ref b2)]))
  refine Go.st (fun _ => XS.dup X5.here hx rfl (hb hby od29_93) rfl rfl) ?_
  refine Go.st (fun _ => XS.iconst X5.here hx rfl (hb hby od29_94)) ?_
  refine Go.st (fun _ => XS.bipush X5.here hx rfl (hb hby od29_95)) ?_
  show Go _ _ _ _ (T5.setTop (mkF m 97 #[lI p0, lI p1] [(.int 112), (.int 3), (.ref b2), (.ref b2)]))
  obtain ⟨T6, h6, X6, e6, W6, V6, st6⟩ := own_stC X5 hx hZ e5 V5' (j := (3 : Int32)) (i := 3) (by decide) (by decide) (Nat.le_of_ble_eq_true rfl) (g := (mkF m 97 #[lI p0, lI p1] [(.int 112), (.int 3), (.ref b2), (.ref b2)])) rfl rfl (hb hby od29_97)
  refine Go.st st6 ?_
  have K6 : Keep h0 h6 [] := K5.wr W6 (Or.inr sz_b2)
  have O6 := O5.wr W6 g_b2
  have N6 := Fr.snoc X6 N5 g_b2
  have V6' : Arv Z h6 b2 k2 .char (12 : Int32) [(.int 112), (.int 114), (.int 111), (.int 112), (.int 0), (.int 0), (.int 0), (.int 0), (.int 0), (.int 0), (.int 0), (.int 0)] (.int 0) := V6
  show Go _ _ _ _ (T6.setTop (mkF m 98 #[lI p0, lI p1] [(.ref b2)]))
  refine Go.st (fun _ => XS.dup X6.here hx rfl (hb hby od29_98) rfl rfl) ?_
  refine Go.st (fun _ => XS.iconst X6.here hx rfl (hb hby od29_99)) ?_
  refine Go.st (fun _ => XS.bipush X6.here hx rfl (hb hby od29_100)) ?_
  show Go _ _ _ _ (T6.setTop (mkF m 102 #[lI p0, lI p1] [(.int 114), (.int 4), (.ref b2), (.ref b2)]))
  obtain ⟨T7, h7, X7, e7, W7, V7, st7⟩ := own_stC X6 hx hZ e6 V6' (j := (4 : Int32)) (i := 4) (by decide) (by decide) (Nat.le_of_ble_eq_true rfl) (g := (mkF m 102 #[lI p0, lI p1] [(.int 114), (.int 4), (.ref b2), (.ref b2)])) rfl rfl (hb hby od29_102)
  refine Go.st st7 ?_
  have K7 : Keep h0 h7 [] := K6.wr W7 (Or.inr sz_b2)
  have O7 := O6.wr W7 g_b2
  have N7 := Fr.snoc X7 N6 g_b2
  have V7' : Arv Z h7 b2 k2 .char (12 : Int32) [(.int 112), (.int 114), (.int 111), (.int 112), (.int 114), (.int 0), (.int 0), (.int 0), (.int 0), (.int 0), (.int 0), (.int 0)] (.int 0) := V7
  show Go _ _ _ _ (T7.setTop (mkF m 103 #[lI p0, lI p1] [(.ref b2)]))
  refine Go.st (fun _ => XS.dup X7.here hx rfl (hb hby od29_103) rfl rfl) ?_
  refine Go.st (fun _ => XS.iconst X7.here hx rfl (hb hby od29_104)) ?_
  refine Go.st (fun _ => XS.bipush X7.here hx rfl (hb hby od29_105)) ?_
  show Go _ _ _ _ (T7.setTop (mkF m 107 #[lI p0, lI p1] [(.int 105), (.int 5), (.ref b2), (.ref b2)]))
  obtain ⟨T8, h8, X8, e8, W8, V8, st8⟩ := own_stC X7 hx hZ e7 V7' (j := (5 : Int32)) (i := 5) (by decide) (by decide) (Nat.le_of_ble_eq_true rfl) (g := (mkF m 107 #[lI p0, lI p1] [(.int 105), (.int 5), (.ref b2), (.ref b2)])) rfl rfl (hb hby od29_107)
  refine Go.st st8 ?_
  have K8 : Keep h0 h8 [] := K7.wr W8 (Or.inr sz_b2)
  have O8 := O7.wr W8 g_b2
  have N8 := Fr.snoc X8 N7 g_b2
  have V8' : Arv Z h8 b2 k2 .char (12 : Int32) [(.int 112), (.int 114), (.int 111), (.int 112), (.int 114), (.int 105), (.int 0), (.int 0), (.int 0), (.int 0), (.int 0), (.int 0)] (.int 0) := V8
  show Go _ _ _ _ (T8.setTop (mkF m 108 #[lI p0, lI p1] [(.ref b2)]))
  refine Go.st (fun _ => XS.dup X8.here hx rfl (hb hby od29_108) rfl rfl) ?_
  refine Go.st (fun _ => XS.bipush X8.here hx rfl (hb hby od29_109)) ?_
  refine Go.st (fun _ => XS.bipush X8.here hx rfl (hb hby od29_111)) ?_
  show Go _ _ _ _ (T8.setTop (mkF m 113 #[lI p0, lI p1] [(.int 101), (.int 6), (.ref b2), (.ref b2)]))
  obtain ⟨T9, h9, X9, e9, W9, V9, st9⟩ := own_stC X8 hx hZ e8 V8' (j := (6 : Int32)) (i := 6) (by decide) (by decide) (Nat.le_of_ble_eq_true rfl) (g := (mkF m 113 #[lI p0, lI p1] [(.int 101), (.int 6), (.ref b2), (.ref b2)])) rfl rfl (hb hby od29_113)
  refine Go.st st9 ?_
  have K9 : Keep h0 h9 [] := K8.wr W9 (Or.inr sz_b2)
  have O9 := O8.wr W9 g_b2
  have N9 := Fr.snoc X9 N8 g_b2
  have V9' : Arv Z h9 b2 k2 .char (12 : Int32) [(.int 112), (.int 114), (.int 111), (.int 112), (.int 114), (.int 105), (.int 101), (.int 0), (.int 0), (.int 0), (.int 0), (.int 0)] (.int 0) := V9
  show Go _ _ _ _ (T9.setTop (mkF m 114 #[lI p0, lI p1] [(.ref b2)]))
  refine Go.st (fun _ => XS.dup X9.here hx rfl (hb hby od29_114) rfl rfl) ?_
  refine Go.st (fun _ => XS.bipush X9.here hx rfl (hb hby od29_115)) ?_
  refine Go.st (fun _ => XS.bipush X9.here hx rfl (hb hby od29_117)) ?_
  show Go _ _ _ _ (T9.setTop (mkF m 119 #[lI p0, lI p1] [(.int 116), (.int 7), (.ref b2), (.ref b2)]))
  obtain ⟨T10, h10, X10, e10, W10, V10, st10⟩ := own_stC X9 hx hZ e9 V9' (j := (7 : Int32)) (i := 7) (by decide) (by decide) (Nat.le_of_ble_eq_true rfl) (g := (mkF m 119 #[lI p0, lI p1] [(.int 116), (.int 7), (.ref b2), (.ref b2)])) rfl rfl (hb hby od29_119)
  refine Go.st st10 ?_
  have K10 : Keep h0 h10 [] := K9.wr W10 (Or.inr sz_b2)
  have O10 := O9.wr W10 g_b2
  have N10 := Fr.snoc X10 N9 g_b2
  have V10' : Arv Z h10 b2 k2 .char (12 : Int32) [(.int 112), (.int 114), (.int 111), (.int 112), (.int 114), (.int 105), (.int 101), (.int 116), (.int 0), (.int 0), (.int 0), (.int 0)] (.int 0) := V10
  show Go _ _ _ _ (T10.setTop (mkF m 120 #[lI p0, lI p1] [(.ref b2)]))
  refine Go.st (fun _ => XS.dup X10.here hx rfl (hb hby od29_120) rfl rfl) ?_
  refine Go.st (fun _ => XS.bipush X10.here hx rfl (hb hby od29_121)) ?_
  refine Go.st (fun _ => XS.bipush X10.here hx rfl (hb hby od29_123)) ?_
  show Go _ _ _ _ (T10.setTop (mkF m 125 #[lI p0, lI p1] [(.int 97), (.int 8), (.ref b2), (.ref b2)]))
  obtain ⟨T11, h11, X11, e11, W11, V11, st11⟩ := own_stC X10 hx hZ e10 V10' (j := (8 : Int32)) (i := 8) (by decide) (by decide) (Nat.le_of_ble_eq_true rfl) (g := (mkF m 125 #[lI p0, lI p1] [(.int 97), (.int 8), (.ref b2), (.ref b2)])) rfl rfl (hb hby od29_125)
  refine Go.st st11 ?_
  have K11 : Keep h0 h11 [] := K10.wr W11 (Or.inr sz_b2)
  have O11 := O10.wr W11 g_b2
  have N11 := Fr.snoc X11 N10 g_b2
  have V11' : Arv Z h11 b2 k2 .char (12 : Int32) [(.int 112), (.int 114), (.int 111), (.int 112), (.int 114), (.int 105), (.int 101), (.int 116), (.int 97), (.int 0), (.int 0), (.int 0)] (.int 0) := V11
  show Go _ _ _ _ (T11.setTop (mkF m 126 #[lI p0, lI p1] [(.ref b2)]))
  refine Go.st (fun _ => XS.dup X11.here hx rfl (hb hby od29_126) rfl rfl) ?_
  refine Go.st (fun _ => XS.bipush X11.here hx rfl (hb hby od29_127)) ?_
  refine Go.st (fun _ => XS.bipush X11.here hx rfl (hb hby od29_129)) ?_
  show Go _ _ _ _ (T11.setTop (mkF m 131 #[lI p0, lI p1] [(.int 114), (.int 9), (.ref b2), (.ref b2)]))
  obtain ⟨T12, h12, X12, e12, W12, V12, st12⟩ := own_stC X11 hx hZ e11 V11' (j := (9 : Int32)) (i := 9) (by decide) (by decide) (Nat.le_of_ble_eq_true rfl) (g := (mkF m 131 #[lI p0, lI p1] [(.int 114), (.int 9), (.ref b2), (.ref b2)])) rfl rfl (hb hby od29_131)
  refine Go.st st12 ?_
  have K12 : Keep h0 h12 [] := K11.wr W12 (Or.inr sz_b2)
  have O12 := O11.wr W12 g_b2
  have N12 := Fr.snoc X12 N11 g_b2
  have V12' : Arv Z h12 b2 k2 .char (12 : Int32) [(.int 112), (.int 114), (.int 111), (.int 112), (.int 114), (.int 105), (.int 101), (.int 116), (.int 97), (.int 114), (.int 0), (.int 0)] (.int 0) := V12
  show Go _ _ _ _ (T12.setTop (mkF m 132 #[lI p0, lI p1] [(.ref b2)]))
  refine Go.st (fun _ => XS.dup X12.here hx rfl (hb hby od29_132) rfl rfl) ?_
  refine Go.st (fun _ => XS.bipush X12.here hx rfl (hb hby od29_133)) ?_
  refine Go.st (fun _ => XS.bipush X12.here hx rfl (hb hby od29_135)) ?_
  show Go _ _ _ _ (T12.setTop (mkF m 137 #[lI p0, lI p1] [(.int 121), (.int 10), (.ref b2), (.ref b2)]))
  obtain ⟨T13, h13, X13, e13, W13, V13, st13⟩ := own_stC X12 hx hZ e12 V12' (j := (10 : Int32)) (i := 10) (by decide) (by decide) (Nat.le_of_ble_eq_true rfl) (g := (mkF m 137 #[lI p0, lI p1] [(.int 121), (.int 10), (.ref b2), (.ref b2)])) rfl rfl (hb hby od29_137)
  refine Go.st st13 ?_
  have K13 : Keep h0 h13 [] := K12.wr W13 (Or.inr sz_b2)
  have O13 := O12.wr W13 g_b2
  have N13 := Fr.snoc X13 N12 g_b2
  have V13' : Arv Z h13 b2 k2 .char (12 : Int32) [(.int 112), (.int 114), (.int 111), (.int 112), (.int 114), (.int 105), (.int 101), (.int 116), (.int 97), (.int 114), (.int 121), (.int 0)] (.int 0) := V13
  show Go _ _ _ _ (T13.setTop (mkF m 138 #[lI p0, lI p1] [(.ref b2)]))
  refine Go.st (fun _ => XS.dup X13.here hx rfl (hb hby od29_138) rfl rfl) ?_
  refine Go.st (fun _ => XS.bipush X13.here hx rfl (hb hby od29_139)) ?_
  refine Go.st (fun _ => XS.iloadN X13.here hx rfl (hb hby od29_141) rfl) ?_
  show Go _ _ _ _ (T13.setTop (mkF m 142 #[lI p0, lI p1] [(.int p0), (.int 11), (.ref b2), (.ref b2)]))
  obtain ⟨T14, h14, X14, e14, W14, V14, st14⟩ := own_stC X13 hx hZ e13 V13' (j := (11 : Int32)) (i := 11) (by decide) (by decide) (Nat.le_of_ble_eq_true rfl) (g := (mkF m 142 #[lI p0, lI p1] [(.int p0), (.int 11), (.ref b2), (.ref b2)])) rfl rfl (hb hby od29_142)
  refine Go.st st14 ?_
  rw [own_nar16 hcc] at V14
  have K14 : Keep h0 h14 [] := K13.wr W14 (Or.inr sz_b2)
  have O14 := O13.wr W14 g_b2
  have N14 := Fr.snoc X14 N13 g_b2
  have V14' : Arv Z h14 b2 k2 .char (12 : Int32) [(.int 112), (.int 114), (.int 111), (.int 112), (.int 114), (.int 105), (.int 101), (.int 116), (.int 97), (.int 114), (.int 121), (.int p0)] (.int 0) := V14
  show Go _ _ _ _ (T14.setTop (mkF m 143 #[lI p0, lI p1] [(.ref b2)]))
  obtain ⟨fs, hr, hrun, hended, hW, hsame⟩ := X14.leave (v := some (.ref b2)) (fun h => by rw [Bd.returns] at h; cases h)
  refine ⟨_, ?_, hPend _ _ hrun hended ⟨_, _, rfl, ?_, ⟨_, rfl⟩, hW, hsame.mono (by decide) (by decide)⟩⟩
  ·exact retOut X14 hx (t := (.array .char)) Bd.returns rfl (Or.inr (Or.inr (Or.inr (Or.inr ⟨rfl, rfl, rfl⟩)))) (hb hby od29_143) hr
  ·show Q_rm_mpl Z _ _ h0 n0 _ T14.heap _
   rw [e14]
   exact ⟨b2, k2, ([(112 : Int32), (114 : Int32), (111 : Int32), (112 : Int32), (114 : Int32), (105 : Int32), (101 : Int32), (116 : Int32), (97 : Int32), (114 : Int32), (121 : Int32), p0] : List Int32), rfl, N14, K14, sz_b2, V14', rfl, (fun h => own_all (by intro c hc; simp only [List.mem_cons, List.not_mem_nil, or_false] at hc; rcases hc with rfl | rfl | rfl | rfl | rfl | rfl | rfl | rfl | rfl | rfl | rfl | rfl <;> first | exact ⟨hcc.1, h⟩ | decide)), (fun h => ⟨11, Nat.le_of_ble_eq_true rfl, own_prefW (xs := ([112, 114, 111, 112, 114, 105, 101, 116, 97, 114, 121] : List Int32)) (by decide), h⟩), (own_c16 (by intro c hc; simp only [List.mem_cons, List.not_mem_nil, or_false] at hc; rcases hc with rfl | rfl | rfl | rfl | rfl | rfl | rfl | rfl | rfl | rfl | rfl | rfl <;> first | exact hcc | decide))⟩
 ·skip
  refine Go.st (fun _ => XS.ifNo X0.here hx rfl (hb hby od29_1) rfl ((if0 _ _).trans (feq hc1).1)) ?_
  show Go _ _ _ _ (s₁.setTop (mkF m 4 #[lI p0, lI p1] []))
  refine Go.st (fun _ => XS.bipush X0.here hx rfl (hb hby od29_4)) ?_
  show Go _ _ _ _ (s₁.setTop (mkF m 6 #[lI p0, lI p1] [(.int 12)]))
  obtain ⟨T15, h15, k15, X15, e15, E15, A15, st15⟩ := newP X0 hx hZ (ow hw 5 rfl) e0 (g := (mkF m 6 #[lI p0, lI p1] [(.int 12)])) rfl (hb hby od29_6) rfl (by decide) (cap := 12) (by decide) (by decide) (by decide) (by decide)
  obtain ⟨b15, g15⟩ : ∃ z, z = h0.size := ⟨_, rfl⟩
  rw [← g15] at A15 st15
  refine Go.st st15 ?_
  have g_b15 : n0 ≤ b15 := Nat.le_trans (own_oldsz X00) (Nat.le_of_eq g15.symm)
  have sz_b15 : h0.size ≤ b15 := Nat.le_trans (Keep.refl h0 []).1 (Nat.le_of_eq g15.symm)
  have K15 : Keep h0 h15 [] := (Keep.refl h0 []).ext E15
  have O15 := X00.ext E15
  have V15 : Arv Z h15 b15 k15 .char (12 : Int32) [(.int 0), (.int 0), (.int 0), (.int 0), (.int 0), (.int 0), (.int 0), (.int 0), (.int 0), (.int 0), (.int 0), (.int 0)] (.int 0) := (Arv.new A15 (by decide)).pad (pad_rep [] (.int 0) 12)
  show Go _ _ _ _ (T15.setTop (mkF m 8 #[lI p0, lI p1] [(.ref b15)]))
  refine Go.st (fun _ => XS.dup X15.here hx rfl (hb hby od29_8) rfl rfl) ?_
  refine Go.st (fun _ => XS.iconst X15.here hx rfl (hb hby od29_9)) ?_
  refine Go.st (fun _ => XS.iloadN X15.here hx rfl (hb hby od29_10) rfl) ?_
  show Go _ _ _ _ (T15.setTop (mkF m 11 #[lI p0, lI p1] [(.int p0), (.int 0), (.ref b15), (.ref b15)]))
  obtain ⟨T16, h16, X16, e16, W16, V16, st16⟩ := own_stC X15 hx hZ e15 V15 (j := (0 : Int32)) (i := 0) (by decide) (by decide) (Nat.le_of_ble_eq_true rfl) (g := (mkF m 11 #[lI p0, lI p1] [(.int p0), (.int 0), (.ref b15), (.ref b15)])) rfl rfl (hb hby od29_11)
  refine Go.st st16 ?_
  rw [own_nar16 hcc] at V16
  have K16 : Keep h0 h16 [] := K15.wr W16 (Or.inr sz_b15)
  have O16 := O15.wr W16 g_b15
  have N16 := Fr.snoc X16 N0 g_b15
  have V16' : Arv Z h16 b15 k15 .char (12 : Int32) [(.int p0), (.int 0), (.int 0), (.int 0), (.int 0), (.int 0), (.int 0), (.int 0), (.int 0), (.int 0), (.int 0), (.int 0)] (.int 0) := V16
  show Go _ _ _ _ (T16.setTop (mkF m 12 #[lI p0, lI p1] [(.ref b15)]))
  refine Go.st (fun _ => XS.dup X16.here hx rfl (hb hby od29_12) rfl rfl) ?_
  refine Go.st (fun _ => XS.iconst X16.here hx rfl (hb hby od29_13)) ?_
  refine Go.st (fun _ => XS.bipush X16.here hx rfl (hb hby od29_14)) ?_
  show Go _ _ _ _ (T16.setTop (mkF m 16 #[lI p0, lI p1] [(.int 112), (.int 1), (.ref b15), (.ref b15)]))
  obtain ⟨T17, h17, X17, e17, W17, V17, st17⟩ := own_stC X16 hx hZ e16 V16' (j := (1 : Int32)) (i := 1) (by decide) (by decide) (Nat.le_of_ble_eq_true rfl) (g := (mkF m 16 #[lI p0, lI p1] [(.int 112), (.int 1), (.ref b15), (.ref b15)])) rfl rfl (hb hby od29_16)
  refine Go.st st17 ?_
  have K17 : Keep h0 h17 [] := K16.wr W17 (Or.inr sz_b15)
  have O17 := O16.wr W17 g_b15
  have N17 := Fr.snoc X17 N16 g_b15
  have V17' : Arv Z h17 b15 k15 .char (12 : Int32) [(.int p0), (.int 112), (.int 0), (.int 0), (.int 0), (.int 0), (.int 0), (.int 0), (.int 0), (.int 0), (.int 0), (.int 0)] (.int 0) := V17
  show Go _ _ _ _ (T17.setTop (mkF m 17 #[lI p0, lI p1] [(.ref b15)]))
  refine Go.st (fun _ => XS.dup X17.here hx rfl (hb hby od29_17) rfl rfl) ?_
  refine Go.st (fun _ => XS.iconst X17.here hx rfl (hb hby od29_18)) ?_
  refine Go.st (fun _ => XS.bipush X17.here hx rfl (hb hby od29_19)) ?_
  show Go _ _ _ _ (T17.setTop (mkF m 21 #[lI p0, lI p1] [(.int 114), (.int 2), (.ref b15), (.ref b15)]))
  obtain ⟨T18, h18, X18, e18, W18, V18, st18⟩ := own_stC X17 hx hZ e17 V17' (j := (2 : Int32)) (i := 2) (by decide) (by decide) (Nat.le_of_ble_eq_true rfl) (g := (mkF m 21 #[lI p0, lI p1] [(.int 114), (.int 2), (.ref b15), (.ref b15)])) rfl rfl (hb hby od29_21)
  refine Go.st st18 ?_
  have K18 : Keep h0 h18 [] := K17.wr W18 (Or.inr sz_b15)
  have O18 := O17.wr W18 g_b15
  have N18 := Fr.snoc X18 N17 g_b15
  have V18' : Arv Z h18 b15 k15 .char (12 : Int32) [(.int p0), (.int 112), (.int 114), (.int 0), (.int 0), (.int 0), (.int 0), (.int 0), (.int 0), (.int 0), (.int 0), (.int 0)] (.int 0) := V18
  show Go _ _ _ _ (T18.setTop (mkF m 22 #[lI p0, lI p1] [(.ref b15)]))
  refine Go.st (fun _ => XS.dup X18.here hx rfl (hb hby od29_22) rfl rfl) ?_
  refine Go.st (fun _ => XS.iconst X18.here hx rfl (hb hby od29_23)) ?_
  refine Go.st (fun _ => XS.bipush X18.here hx rfl (hb hby od29_24)) ?_
  show Go _ _ _ _ (T18.setTop (mkF m 26 #[lI p0, lI p1] [(.int 111), (.int 3), (.ref b15), (.ref b15)]))
  obtain ⟨T19, h19, X19, e19, W19, V19, st19⟩ := own_stC X18 hx hZ e18 V18' (j := (3 : Int32)) (i := 3) (by decide) (by decide) (Nat.le_of_ble_eq_true rfl) (g := (mkF m 26 #[lI p0, lI p1] [(.int 111), (.int 3), (.ref b15), (.ref b15)])) rfl rfl (hb hby od29_26)
  refine Go.st st19 ?_
  have K19 : Keep h0 h19 [] := K18.wr W19 (Or.inr sz_b15)
  have O19 := O18.wr W19 g_b15
  have N19 := Fr.snoc X19 N18 g_b15
  have V19' : Arv Z h19 b15 k15 .char (12 : Int32) [(.int p0), (.int 112), (.int 114), (.int 111), (.int 0), (.int 0), (.int 0), (.int 0), (.int 0), (.int 0), (.int 0), (.int 0)] (.int 0) := V19
  show Go _ _ _ _ (T19.setTop (mkF m 27 #[lI p0, lI p1] [(.ref b15)]))
  refine Go.st (fun _ => XS.dup X19.here hx rfl (hb hby od29_27) rfl rfl) ?_
  refine Go.st (fun _ => XS.iconst X19.here hx rfl (hb hby od29_28)) ?_
  refine Go.st (fun _ => XS.bipush X19.here hx rfl (hb hby od29_29)) ?_
  show Go _ _ _ _ (T19.setTop (mkF m 31 #[lI p0, lI p1] [(.int 112), (.int 4), (.ref b15), (.ref b15)]))
  obtain ⟨T20, h20, X20, e20, W20, V20, st20⟩ := own_stC X19 hx hZ e19 V19' (j := (4 : Int32)) (i := 4) (by decide) (by decide) (Nat.le_of_ble_eq_true rfl) (g := (mkF m 31 #[lI p0, lI p1] [(.int 112), (.int 4), (.ref b15), (.ref b15)])) rfl rfl (hb hby od29_31)
  refine Go.st st20 ?_
  have K20 : Keep h0 h20 [] := K19.wr W20 (Or.inr sz_b15)
  have O20 := O19.wr W20 g_b15
  have N20 := Fr.snoc X20 N19 g_b15
  have V20' : Arv Z h20 b15 k15 .char (12 : Int32) [(.int p0), (.int 112), (.int 114), (.int 111), (.int 112), (.int 0), (.int 0), (.int 0), (.int 0), (.int 0), (.int 0), (.int 0)] (.int 0) := V20
  show Go _ _ _ _ (T20.setTop (mkF m 32 #[lI p0, lI p1] [(.ref b15)]))
  refine Go.st (fun _ => XS.dup X20.here hx rfl (hb hby od29_32) rfl rfl) ?_
  refine Go.st (fun _ => XS.iconst X20.here hx rfl (hb hby od29_33)) ?_
  refine Go.st (fun _ => XS.bipush X20.here hx rfl (hb hby od29_34)) ?_
  show Go _ _ _ _ (T20.setTop (mkF m 36 #[lI p0, lI p1] [(.int 114), (.int 5), (.ref b15), (.ref b15)]))
  obtain ⟨T21, h21, X21, e21, W21, V21, st21⟩ := own_stC X20 hx hZ e20 V20' (j := (5 : Int32)) (i := 5) (by decide) (by decide) (Nat.le_of_ble_eq_true rfl) (g := (mkF m 36 #[lI p0, lI p1] [(.int 114), (.int 5), (.ref b15), (.ref b15)])) rfl rfl (hb hby od29_36)
  refine Go.st st21 ?_
  have K21 : Keep h0 h21 [] := K20.wr W21 (Or.inr sz_b15)
  have O21 := O20.wr W21 g_b15
  have N21 := Fr.snoc X21 N20 g_b15
  have V21' : Arv Z h21 b15 k15 .char (12 : Int32) [(.int p0), (.int 112), (.int 114), (.int 111), (.int 112), (.int 114), (.int 0), (.int 0), (.int 0), (.int 0), (.int 0), (.int 0)] (.int 0) := V21
  show Go _ _ _ _ (T21.setTop (mkF m 37 #[lI p0, lI p1] [(.ref b15)]))
  refine Go.st (fun _ => XS.dup X21.here hx rfl (hb hby od29_37) rfl rfl) ?_
  refine Go.st (fun _ => XS.bipush X21.here hx rfl (hb hby od29_38)) ?_
  refine Go.st (fun _ => XS.bipush X21.here hx rfl (hb hby od29_40)) ?_
  show Go _ _ _ _ (T21.setTop (mkF m 42 #[lI p0, lI p1] [(.int 105), (.int 6), (.ref b15), (.ref b15)]))
  obtain ⟨T22, h22, X22, e22, W22, V22, st22⟩ := own_stC X21 hx hZ e21 V21' (j := (6 : Int32)) (i := 6) (by decide) (by decide) (Nat.le_of_ble_eq_true rfl) (g := (mkF m 42 #[lI p0, lI p1] [(.int 105), (.int 6), (.ref b15), (.ref b15)])) rfl rfl (hb hby od29_42)
  refine Go.st st22 ?_
  have K22 : Keep h0 h22 [] := K21.wr W22 (Or.inr sz_b15)
  have O22 := O21.wr W22 g_b15
  have N22 := Fr.snoc X22 N21 g_b15
  have V22' : Arv Z h22 b15 k15 .char (12 : Int32) [(.int p0), (.int 112), (.int 114), (.int 111), (.int 112), (.int 114), (.int 105), (.int 0), (.int 0), (.int 0), (.int 0), (.int 0)] (.int 0) := V22
  show Go _ _ _ _ (T22.setTop (mkF m 43 #[lI p0, lI p1] [(.ref b15)]))
  refine Go.st (fun _ => XS.dup X22.here hx rfl (hb hby od29_43) rfl rfl) ?_
  refine Go.st (fun _ => XS.bipush X22.here hx rfl (hb hby od29_44)) ?_
  refine Go.st (fun _ => XS.bipush X22.here hx rfl (hb hby od29_46)) ?_
  show Go _ _ _ _ (T22.setTop (mkF m 48 #[lI p0, lI p1] [(.int 101), (.int 7), (.ref b15), (.ref b15)]))
  obtain ⟨T23, h23, X23, e23, W23, V23, st23⟩ := own_stC X22 hx hZ e22 V22' (j := (7 : Int32)) (i := 7) (by decide) (by decide) (Nat.le_of_ble_eq_true rfl) (g := (mkF m 48 #[lI p0, lI p1] [(.int 101), (.int 7), (.ref b15), (.ref b15)])) rfl rfl (hb hby od29_48)
  refine Go.st st23 ?_
  have K23 : Keep h0 h23 [] := K22.wr W23 (Or.inr sz_b15)
  have O23 := O22.wr W23 g_b15
  have N23 := Fr.snoc X23 N22 g_b15
  have V23' : Arv Z h23 b15 k15 .char (12 : Int32) [(.int p0), (.int 112), (.int 114), (.int 111), (.int 112), (.int 114), (.int 105), (.int 101), (.int 0), (.int 0), (.int 0), (.int 0)] (.int 0) := V23
  show Go _ _ _ _ (T23.setTop (mkF m 49 #[lI p0, lI p1] [(.ref b15)]))
  refine Go.st (fun _ => XS.dup X23.here hx rfl (hb hby od29_49) rfl rfl) ?_
  refine Go.st (fun _ => XS.bipush X23.here hx rfl (hb hby od29_50)) ?_
  refine Go.st (fun _ => XS.bipush X23.here hx rfl (hb hby od29_52)) ?_
  show Go _ _ _ _ (T23.setTop (mkF m 54 #[lI p0, lI p1] [(.int 116), (.int 8), (.ref b15), (.ref b15)]))
  obtain ⟨T24, h24, X24, e24, W24, V24, st24⟩ := own_stC X23 hx hZ e23 V23' (j := (8 : Int32)) (i := 8) (by decide) (by decide) (Nat.le_of_ble_eq_true rfl) (g := (mkF m 54 #[lI p0, lI p1] [(.int 116), (.int 8), (.ref b15), (.ref b15)])) rfl rfl (hb hby od29_54)
  refine Go.st st24 ?_
  have K24 : Keep h0 h24 [] := K23.wr W24 (Or.inr sz_b15)
  have O24 := O23.wr W24 g_b15
  have N24 := Fr.snoc X24 N23 g_b15
  have V24' : Arv Z h24 b15 k15 .char (12 : Int32) [(.int p0), (.int 112), (.int 114), (.int 111), (.int 112), (.int 114), (.int 105), (.int 101), (.int 116), (.int 0), (.int 0), (.int 0)] (.int 0) := V24
  show Go _ _ _ _ (T24.setTop (mkF m 55 #[lI p0, lI p1] [(.ref b15)]))
  refine Go.st (fun _ => XS.dup X24.here hx rfl (hb hby od29_55) rfl rfl) ?_
  refine Go.st (fun _ => XS.bipush X24.here hx rfl (hb hby od29_56)) ?_
  refine Go.st (fun _ => XS.bipush X24.here hx rfl (hb hby od29_58)) ?_
  show Go _ _ _ _ (T24.setTop (mkF m 60 #[lI p0, lI p1] [(.int 97), (.int 9), (.ref b15), (.ref b15)]))
  obtain ⟨T25, h25, X25, e25, W25, V25, st25⟩ := own_stC X24 hx hZ e24 V24' (j := (9 : Int32)) (i := 9) (by decide) (by decide) (Nat.le_of_ble_eq_true rfl) (g := (mkF m 60 #[lI p0, lI p1] [(.int 97), (.int 9), (.ref b15), (.ref b15)])) rfl rfl (hb hby od29_60)
  refine Go.st st25 ?_
  have K25 : Keep h0 h25 [] := K24.wr W25 (Or.inr sz_b15)
  have O25 := O24.wr W25 g_b15
  have N25 := Fr.snoc X25 N24 g_b15
  have V25' : Arv Z h25 b15 k15 .char (12 : Int32) [(.int p0), (.int 112), (.int 114), (.int 111), (.int 112), (.int 114), (.int 105), (.int 101), (.int 116), (.int 97), (.int 0), (.int 0)] (.int 0) := V25
  show Go _ _ _ _ (T25.setTop (mkF m 61 #[lI p0, lI p1] [(.ref b15)]))
  refine Go.st (fun _ => XS.dup X25.here hx rfl (hb hby od29_61) rfl rfl) ?_
  refine Go.st (fun _ => XS.bipush X25.here hx rfl (hb hby od29_62)) ?_
  refine Go.st (fun _ => XS.bipush X25.here hx rfl (hb hby od29_64)) ?_
  show Go _ _ _ _ (T25.setTop (mkF m 66 #[lI p0, lI p1] [(.int 114), (.int 10), (.ref b15), (.ref b15)]))
  obtain ⟨T26, h26, X26, e26, W26, V26, st26⟩ := own_stC X25 hx hZ e25 V25' (j := (10 : Int32)) (i := 10) (by decide) (by decide) (Nat.le_of_ble_eq_true rfl) (g := (mkF m 66 #[lI p0, lI p1] [(.int 114), (.int 10), (.ref b15), (.ref b15)])) rfl rfl (hb hby od29_66)
  refine Go.st st26 ?_
  have K26 : Keep h0 h26 [] := K25.wr W26 (Or.inr sz_b15)
  have O26 := O25.wr W26 g_b15
  have N26 := Fr.snoc X26 N25 g_b15
  have V26' : Arv Z h26 b15 k15 .char (12 : Int32) [(.int p0), (.int 112), (.int 114), (.int 111), (.int 112), (.int 114), (.int 105), (.int 101), (.int 116), (.int 97), (.int 114), (.int 0)] (.int 0) := V26
  show Go _ _ _ _ (T26.setTop (mkF m 67 #[lI p0, lI p1] [(.ref b15)]))
  refine Go.st (fun _ => XS.dup X26.here hx rfl (hb hby od29_67) rfl rfl) ?_
  refine Go.st (fun _ => XS.bipush X26.here hx rfl (hb hby od29_68)) ?_
  refine Go.st (fun _ => XS.bipush X26.here hx rfl (hb hby od29_70)) ?_
  show Go _ _ _ _ (T26.setTop (mkF m 72 #[lI p0, lI p1] [(.int 121), (.int 11), (.ref b15), (.ref b15)]))
  obtain ⟨T27, h27, X27, e27, W27, V27, st27⟩ := own_stC X26 hx hZ e26 V26' (j := (11 : Int32)) (i := 11) (by decide) (by decide) (Nat.le_of_ble_eq_true rfl) (g := (mkF m 72 #[lI p0, lI p1] [(.int 121), (.int 11), (.ref b15), (.ref b15)])) rfl rfl (hb hby od29_72)
  refine Go.st st27 ?_
  have K27 : Keep h0 h27 [] := K26.wr W27 (Or.inr sz_b15)
  have O27 := O26.wr W27 g_b15
  have N27 := Fr.snoc X27 N26 g_b15
  have V27' : Arv Z h27 b15 k15 .char (12 : Int32) [(.int p0), (.int 112), (.int 114), (.int 111), (.int 112), (.int 114), (.int 105), (.int 101), (.int 116), (.int 97), (.int 114), (.int 121)] (.int 0) := V27
  show Go _ _ _ _ (T27.setTop (mkF m 73 #[lI p0, lI p1] [(.ref b15)]))
  obtain ⟨fs, hr, hrun, hended, hW, hsame⟩ := X27.leave (v := some (.ref b15)) (fun h => by rw [Bd.returns] at h; cases h)
  refine ⟨_, ?_, hPend _ _ hrun hended ⟨_, _, rfl, ?_, ⟨_, rfl⟩, hW, hsame.mono (by decide) (by decide)⟩⟩
  ·exact retOut X27 hx (t := (.array .char)) Bd.returns rfl (Or.inr (Or.inr (Or.inr (Or.inr ⟨rfl, rfl, rfl⟩)))) (hb hby od29_73) hr
  ·show Q_rm_mpl Z _ _ h0 n0 _ T27.heap _
   rw [e27]
   exact ⟨b15, k15, ([p0, (112 : Int32), (114 : Int32), (111 : Int32), (112 : Int32), (114 : Int32), (105 : Int32), (101 : Int32), (116 : Int32), (97 : Int32), (114 : Int32), (121 : Int32)] : List Int32), rfl, N27, K27, sz_b15, V27', rfl, (fun h => own_all (by intro c hc; simp only [List.mem_cons, List.not_mem_nil, or_false] at hc; rcases hc with rfl | rfl | rfl | rfl | rfl | rfl | rfl | rfl | rfl | rfl | rfl | rfl <;> first | exact ⟨hcc.1, h⟩ | decide)), (fun h => ⟨0, Nat.le_of_ble_eq_true rfl, fun t ht => absurd ht (Nat.not_lt_zero _), h⟩), (own_c16 (by intro c hc; simp only [List.mem_cons, List.not_mem_nil, or_false] at hc; rcases hc with rfl | rfl | rfl | rfl | rfl | rfl | rfl | rfl | rfl | rfl | rfl | rfl <;> first | exact hcc | decide))⟩
theorem own_getS {xs : List Int32} {i : Nat} (h : ∀ c ∈ xs, ¬ c < 0 ∧ ¬ (255 : Int32) < c) (hi : i < xs.length) : ¬ xs.getD i 0 < 0 ∧ ¬ (255 : Int32) < xs.getD i 0 := by rw [List.getD_eq_getElem?_getD, List.getElem?_eq_getElem hi, Option.getD_some]; exact h _ (List.getElem_mem _)
theorem own_ef_rm_law (m : MethodId) (x0 : Int32) (x1 : Int32) (x2 : Int32) : entryFrame m #[(.int x0), (.int x1), (.int x2)] maxLocals = mkF m 0 #[.val (.int x0), .val (.int x1), .val (.int x2), .unset, .unset, .unset, .unset, .unset, .unset, .unset, .unset, .unset] [] := by first | (simp [entryFrame, mkF, argsToLocals, Value.category, maxLocals]; done) | rfl
theorem own_pd17 : parseMethodDescriptor "()[C" = some ⟨[], some (.array .char)⟩ := by decide +kernel
theorem own_pd18 : parseMethodDescriptor "([C)V" = some ⟨[(.array .char)], none⟩ := by decide +kernel
theorem own_pd19 : parseMethodDescriptor "(Ljava/lang/String;)Ljava/util/Optional;" = some ⟨[(.object "java/lang/String")], some (.object "java/util/Optional")⟩ := by decide +kernel
theorem own_pd20 : parseMethodDescriptor "()Z" = some ⟨[], some .boolean⟩ := by decide +kernel
theorem own_pd21 : parseMethodDescriptor "()Ljava/lang/Object;" = some ⟨[], some (.object "java/lang/Object")⟩ := by decide +kernel
theorem own_pd22 : parseMethodDescriptor "(Z)[C" = some ⟨[.boolean], some (.array .char)⟩ := by decide +kernel
theorem own_pd23 : parseMethodDescriptor "(CZ)[C" = some ⟨[.char, .boolean], some (.array .char)⟩ := by decide +kernel
theorem own_pd24 : parseMethodDescriptor "(C)Ljava/lang/String;" = some ⟨[.char], some (.object "java/lang/String")⟩ := by decide +kernel
def Q_rm_law (Z : State) (w_C : Addr) (w_P : Addr) (w_V : Addr) (k_V : ClassId) (w_CS : Addr) (w_CB : Addr) (k_CB : ClassId) (w_PS : Addr) (w_PB : Addr) (k_PB : ClassId) (w_OE : Addr) (g_CS : Int32) (g_SF : Value) (p0 : Int32) (p1 : Int32) (p2 : Int32) (h0 : Heap) (n0 : Nat) (v : Option Value) (h : Heap) (L : List Loc) : Prop := v = some (.int 1) ∧ Fr n0 L ∧ Keep h0 h []
set_option maxRecDepth 65536 in
set_option maxHeartbeats 40000000 in
theorem rm_law (l : Launch) (Z : State) (a0 : Array Value) (hw : ∀ d ∈ tables_1, d.before a0 Z = true) (ws : List Jvm.Cond) (w_C : Addr) (S_C : Sta Z Z.heap "com/example/tidewall/tidewall/ledger/AccountClass" "CUSTOMER" "Lcom/example/tidewall/tidewall/ledger/AccountClass;" (.ref w_C)) (X_C : Exa Z Z.heap w_C "com/example/tidewall/tidewall/ledger/AccountClass") (w_P : Addr) (S_P : Sta Z Z.heap "com/example/tidewall/tidewall/ledger/AccountClass" "PROPRIETARY" "Lcom/example/tidewall/tidewall/ledger/AccountClass;" (.ref w_P)) (X_P : Exa Z Z.heap w_P "com/example/tidewall/tidewall/ledger/AccountClass") (w_V : Addr) (k_V : ClassId) (S_V : Sta Z Z.heap "com/example/tidewall/tidewall/ledger/AccountClass" "$VALUES" "[Lcom/example/tidewall/tidewall/ledger/AccountClass;" (.ref w_V)) (X_V : Exa Z Z.heap w_V "[Lcom/example/tidewall/tidewall/ledger/AccountClass;") (V_V : Arv Z Z.heap w_V k_V (.object "com/example/tidewall/tidewall/ledger/AccountClass") (2 : Int32) [(.ref w_C), (.ref w_P)] .null) (w_CS : Addr) (F_CS : Fld Z Z.heap w_C "com/example/tidewall/tidewall/ledger/AccountClass" "id" "Ljava/lang/String;" (.ref w_CS)) (X_CS : Exa Z Z.heap w_CS "java/lang/String") (I_CS_coder : Fld Z Z.heap w_CS "java/lang/String" "coder" "B" (.int 0)) (w_CB : Addr) (k_CB : ClassId) (F_CB : Fld Z Z.heap w_CS "java/lang/String" "value" "[B" (.ref w_CB)) (V_CB : Arv Z Z.heap w_CB k_CB .byte (8 : Int32) [(.int 99), (.int 117), (.int 115), (.int 116), (.int 111), (.int 109), (.int 101), (.int 114)] (.int 0)) (w_PS : Addr) (F_PS : Fld Z Z.heap w_P "com/example/tidewall/tidewall/ledger/AccountClass" "id" "Ljava/lang/String;" (.ref w_PS)) (X_PS : Exa Z Z.heap w_PS "java/lang/String") (I_PS_coder : Fld Z Z.heap w_PS "java/lang/String" "coder" "B" (.int 0)) (w_PB : Addr) (k_PB : ClassId) (F_PB : Fld Z Z.heap w_PS "java/lang/String" "value" "[B" (.ref w_PB)) (V_PB : Arv Z Z.heap w_PB k_PB .byte (11 : Int32) [(.int 112), (.int 114), (.int 111), (.int 112), (.int 114), (.int 105), (.int 101), (.int 116), (.int 97), (.int 114), (.int 121)] (.int 0)) (S_AD : Sta Z Z.heap "java/lang/StringUTF16" "$assertionsDisabled" "Z" (.int 1)) (S_HI : Sta Z Z.heap "java/lang/StringUTF16" "HI_BYTE_SHIFT" "I" (.int 0)) (S_LO : Sta Z Z.heap "java/lang/StringUTF16" "LO_BYTE_SHIFT" "I" (.int 8)) (w_OE : Addr) (S_OE : Sta Z Z.heap "java/util/Optional" "EMPTY" "Ljava/util/Optional;" (.ref w_OE)) (X_OE : Exa Z Z.heap w_OE "java/util/Optional") (I_OE_value : Fld Z Z.heap w_OE "java/util/Optional" "value" "Ljava/lang/Object;" .null) (g_CS : Int32) (S_CS : Sta Z Z.heap "java/lang/String" "COMPACT_STRINGS" "Z" (.int g_CS)) (nz_CS : ¬ (g_CS = (0 : Int32))) (g_SF : Value) (S_SF : Sta Z Z.heap "jdk/internal/util/Preconditions" "SIOOBE_FORMATTER" "Ljava/util/function/BiFunction;" g_SF) (r_SF : g_SF.isRef = true) (p0 : Int32) (p1 : Int32) (p2 : Int32) (h0 : Heap) (n0 : Nat) (X00 : Old Z n0 h0)  :
    MetFree l x (head1 (Jvm.Cond.code x code maxLocals ret :: ws) room_1) (fun a U => a = #[(.int p0), (.int p1), (.int p2)] ∧ Z.Warmed39 U.vm ∧ U.heap = h0 ∧ CHv Z consts_1 U.vm h0) (fun _ _ _ _ _ => True) (fun _ U o U' => ∃ v L, o = .returned v ∧ Q_rm_law Z w_C w_P w_V k_V w_CS w_CB k_CB w_PS w_PB k_PB w_OE g_CS g_SF p0 p1 p2 h0 n0 v U'.heap L ∧ CHr Z consts_1 U.vm U.heap U'.vm U'.heap ∧ ReturnedEndW U o U' L 7 125) := by
 refine MetFree.of_bodySF (plainFor_of_name own_pn6) hisR ?_
 intro p e s m args below meth c s₁ Bd hml0 hP hK
 obtain ⟨rfl, hZ, hh, hCH⟩ := hP
 have hEL := own_EW Z a0 hw
 have CR0 : CHr Z consts_1 s.vm h0 s.vm h0 := CHr.refl hCH
 have hx := Bd.exec
 have hby := Bd.bytes
 have hml : c.maxLocals = 12 := hml0
 have hown : s.vm.findClass "com/example/tidewall/tidewall/ledger/AccountClassByIdPinLaw" = some m.cls := findClass_of_methodNamed Bd.named
 have hnm := (name_of_methodNamed Bd.named Bd.method).1
 have X0 : Stand p l e room_1 (s.setVm s.vm) m #[(.int p0), (.int p1), (.int p2)] below meth c s₁ [] 0 0 := Stand.of_body Bd
 have e0 : s₁.heap = h0 := by rw [← hh, Bd.state]; rfl
 have N0 := Fr.nil n0
 have hS0 : s.Since s.vm 0 := own_since s
 have hk0 : 0 ≤ h0.size := Nat.zero_le _
 have hZ : Z.Warmed39 (s.setVm s.vm).vm := hZ
 have hown : (s.setVm s.vm).vm.findClass "com/example/tidewall/tidewall/ledger/AccountClassByIdPinLaw" = some m.cls := hown
 refine Go.start fun P hPend => ?_
 refine Go.st (fun _ k => castTop (own_ef_rm_law m p0 p1 p2) k) ?_
 show Go _ _ _ _ (s₁.setTop (mkF m 0 #[lI p0, lI p1, lI p2, lU, lU, lU, lU, lU, lU, lU, lU, lU] []))
 refine Go.st (fun _ => XS.iloadN X0.here hx rfl (hb hby at_0) rfl) ?_
 refine Go.st (fun _ => XS.iconst X0.here hx rfl (hb hby at_1)) ?_
 show Go _ _ _ _ (s₁.setTop (mkF m 2 #[lI p0, lI p1, lI p2, lU, lU, lU, lU, lU, lU, lU, lU, lU] [(.int 3), (.int p0)]))
 refine Go.st (fun _ => XS.iand X0.here hx rfl (hb hby at_2) rfl) ?_
 show Go _ _ _ _ (s₁.setTop (mkF m 3 #[lI p0, lI p1, lI p2, lU, lU, lU, lU, lU, lU, lU, lU, lU] [(.int (p0 &&& (3 : Int32)))]))
 refine Go.st (fun _ => XS.istoreN X0.here hx rfl (hb hby at_3) rfl (l' := #[lI p0, lI p1, lI p2, lI (p0 &&& (3 : Int32)), lU, lU, lU, lU, lU, lU, lU, lU]) rfl) ?_
 show Go _ _ _ _ (s₁.setTop (mkF m 4 #[lI p0, lI p1, lI p2, lI (p0 &&& (3 : Int32)), lU, lU, lU, lU, lU, lU, lU, lU] []))
 refine Go.st (fun _ => XS.iloadN X0.here hx rfl (hb hby at_4) rfl) ?_
 refine Go.st (fun _ => XS.iconst X0.here hx rfl (hb hby at_5)) ?_
 show Go _ _ _ _ (s₁.setTop (mkF m 6 #[lI p0, lI p1, lI p2, lI (p0 &&& (3 : Int32)), lU, lU, lU, lU, lU, lU, lU, lU] [(.int 2), (.int p0)]))
 refine Go.st (fun _ => XS.iushr X0.here hx rfl (hb hby at_6) rfl) ?_
 show Go _ _ _ _ (s₁.setTop (mkF m 7 #[lI p0, lI p1, lI p2, lI (p0 &&& (3 : Int32)), lU, lU, lU, lU, lU, lU, lU, lU] [(.int ((p0.toUInt32 >>> ((2 : Int32) &&& 31).toUInt32).toInt32))]))
 refine Go.st (fun _ => XS.iconst X0.here hx rfl (hb hby at_7)) ?_
 show Go _ _ _ _ (s₁.setTop (mkF m 8 #[lI p0, lI p1, lI p2, lI (p0 &&& (3 : Int32)), lU, lU, lU, lU, lU, lU, lU, lU] [(.int 3), (.int ((p0.toUInt32 >>> ((2 : Int32) &&& 31).toUInt32).toInt32))]))
 refine Go.st (fun _ => XS.iand X0.here hx rfl (hb hby at_8) rfl) ?_
 show Go _ _ _ _ (s₁.setTop (mkF m 9 #[lI p0, lI p1, lI p2, lI (p0 &&& (3 : Int32)), lU, lU, lU, lU, lU, lU, lU, lU] [(.int (((p0.toUInt32 >>> ((2 : Int32) &&& 31).toUInt32).toInt32) &&& (3 : Int32)))]))
 refine Go.st (fun _ => XS.istore X0.here hx rfl (hb hby at_9) rfl (l' := #[lI p0, lI p1, lI p2, lI (p0 &&& (3 : Int32)), lI (((p0.toUInt32 >>> ((2 : Int32) &&& 31).toUInt32).toInt32) &&& (3 : Int32)), lU, lU, lU, lU, lU, lU, lU]) rfl) ?_
 show Go _ _ _ _ (s₁.setTop (mkF m 11 #[lI p0, lI p1, lI p2, lI (p0 &&& (3 : Int32)), lI (((p0.toUInt32 >>> ((2 : Int32) &&& 31).toUInt32).toInt32) &&& (3 : Int32)), lU, lU, lU, lU, lU, lU, lU] []))
 refine Go.st (fun _ => XS.iloadN X0.here hx rfl (hb hby at_11) rfl) ?_
 show Go _ _ _ _ (s₁.setTop (mkF m 12 #[lI p0, lI p1, lI p2, lI (p0 &&& (3 : Int32)), lI (((p0.toUInt32 >>> ((2 : Int32) &&& 31).toUInt32).toInt32) &&& (3 : Int32)), lU, lU, lU, lU, lU, lU, lU] [(.int p2)]))
 refine Go.st (fun _ => X0.ldcInt hx hown (mvT hZ (ow hw 0 rfl)) (g := (mkF m 12 #[lI p0, lI p1, lI p2, lI (p0 &&& (3 : Int32)), lI (((p0.toUInt32 >>> ((2 : Int32) &&& 31).toUInt32).toInt32) &&& (3 : Int32)), lU, lU, lU, lU, lU, lU, lU] [(.int p2)])) rfl (hb hby at_12) _) ?_
 show Go _ _ _ _ (s₁.setTop (mkF m 14 #[lI p0, lI p1, lI p2, lI (p0 &&& (3 : Int32)), lI (((p0.toUInt32 >>> ((2 : Int32) &&& 31).toUInt32).toInt32) &&& (3 : Int32)), lU, lU, lU, lU, lU, lU, lU] [(.int 65535), (.int p2)]))
 refine Go.st (fun _ => XS.iand X0.here hx rfl (hb hby at_14) rfl) ?_
 show Go _ _ _ _ (s₁.setTop (mkF m 15 #[lI p0, lI p1, lI p2, lI (p0 &&& (3 : Int32)), lI (((p0.toUInt32 >>> ((2 : Int32) &&& 31).toUInt32).toInt32) &&& (3 : Int32)), lU, lU, lU, lU, lU, lU, lU] [(.int (p2 &&& (65535 : Int32)))]))
 refine Go.st (fun _ => XS.i2c X0.here hx rfl (hb hby at_15) rfl) ?_
 show Go _ _ _ _ (s₁.setTop (mkF m 16 #[lI p0, lI p1, lI p2, lI (p0 &&& (3 : Int32)), lI (((p0.toUInt32 >>> ((2 : Int32) &&& 31).toUInt32).toInt32) &&& (3 : Int32)), lU, lU, lU, lU, lU, lU, lU] [(.int ((p2 &&& (65535 : Int32)).toUInt32.toUInt16.toUInt32.toInt32))]))
 rw [show ((p2 &&& (65535 : Int32)).toUInt32.toUInt16.toUInt32.toInt32) = (p2 &&& (65535 : Int32)) from own_nar16 (own_and16 p2)]
 show Go _ _ _ _ (s₁.setTop (mkF m 16 #[lI p0, lI p1, lI p2, lI (p0 &&& (3 : Int32)), lI (((p0.toUInt32 >>> ((2 : Int32) &&& 31).toUInt32).toInt32) &&& (3 : Int32)), lU, lU, lU, lU, lU, lU, lU] [(.int (p2 &&& (65535 : Int32)))]))
 have hjc0 := own_and16 p2
 obtain ⟨jc, he_jc⟩ : ∃ z : Int32, z = (p2 &&& (65535 : Int32)) := ⟨_, rfl⟩
 rw [← he_jc]
 show Go _ _ _ _ (s₁.setTop (mkF m 16 #[lI p0, lI p1, lI p2, lI (p0 &&& (3 : Int32)), lI (((p0.toUInt32 >>> ((2 : Int32) &&& 31).toUInt32).toInt32) &&& (3 : Int32)), lU, lU, lU, lU, lU, lU, lU] [(.int jc)]))
 have hjc : ¬ jc < 0 ∧ ¬ (65535 : Int32) < jc := by rw [he_jc]; exact hjc0
 refine Go.st (fun _ => XS.istore X0.here hx rfl (hb hby at_16) rfl (l' := #[lI p0, lI p1, lI p2, lI (p0 &&& (3 : Int32)), lI (((p0.toUInt32 >>> ((2 : Int32) &&& 31).toUInt32).toInt32) &&& (3 : Int32)), lI jc, lU, lU, lU, lU, lU, lU]) rfl) ?_
 show Go _ _ _ _ (s₁.setTop (mkF m 18 #[lI p0, lI p1, lI p2, lI (p0 &&& (3 : Int32)), lI (((p0.toUInt32 >>> ((2 : Int32) &&& 31).toUInt32).toInt32) &&& (3 : Int32)), lI jc, lU, lU, lU, lU, lU, lU] []))
 refine Go.st (fun _ => XS.iloadN X0.here hx rfl (hb hby at_18) rfl) ?_
 refine Go.st (fun _ => XS.iconst X0.here hx rfl (hb hby at_19)) ?_
 show Go _ _ _ _ (s₁.setTop (mkF m 20 #[lI p0, lI p1, lI p2, lI (p0 &&& (3 : Int32)), lI (((p0.toUInt32 >>> ((2 : Int32) &&& 31).toUInt32).toInt32) &&& (3 : Int32)), lI jc, lU, lU, lU, lU, lU, lU] [(.int 1), (.int p1)]))
 refine Go.st (fun _ => XS.iand X0.here hx rfl (hb hby at_20) rfl) ?_
 show Go _ _ _ _ (s₁.setTop (mkF m 21 #[lI p0, lI p1, lI p2, lI (p0 &&& (3 : Int32)), lI (((p0.toUInt32 >>> ((2 : Int32) &&& 31).toUInt32).toInt32) &&& (3 : Int32)), lI jc, lU, lU, lU, lU, lU, lU] [(.int (p1 &&& (1 : Int32)))]))
 obtain ⟨jb, he_jb⟩ : ∃ z : Int32, z = (p0 &&& (3 : Int32)) := ⟨_, rfl⟩
 rw [← he_jb]
 show Go _ _ _ _ (s₁.setTop (mkF m 21 #[lI p0, lI p1, lI p2, lI jb, lI (((p0.toUInt32 >>> ((2 : Int32) &&& 31).toUInt32).toInt32) &&& (3 : Int32)), lI jc, lU, lU, lU, lU, lU, lU] [(.int (p1 &&& (1 : Int32)))]))
 obtain ⟨jm, he_jm⟩ : ∃ z : Int32, z = (((p0.toUInt32 >>> ((2 : Int32) &&& 31).toUInt32).toInt32) &&& (3 : Int32)) := ⟨_, rfl⟩
 rw [← he_jm]
 show Go _ _ _ _ (s₁.setTop (mkF m 21 #[lI p0, lI p1, lI p2, lI jb, lI jm, lI jc, lU, lU, lU, lU, lU, lU] [(.int (p1 &&& (1 : Int32)))]))
 have J1 : ∀ (jf : Int32), True → Go p.tables e below P (s₁.setTop (mkF m 31 #[lI p0, lI p1, lI p2, lI jb, lI jm, lI jc, lI jf, lU, lU, lU, lU, lU] [])) := by
  intro jf hjJ1
  show Go _ _ _ _ (s₁.setTop (mkF m 31 #[lI p0, lI p1, lI p2, lI jb, lI jm, lI jc, lI jf, lU, lU, lU, lU, lU] []))
  refine Go.st (fun _ => XS.iloadN X0.here hx rfl (hb hby at_31) rfl) ?_
  show Go _ _ _ _ (s₁.setTop (mkF m 32 #[lI p0, lI p1, lI p2, lI jb, lI jm, lI jc, lI jf, lU, lU, lU, lU, lU] [(.int jb)]))
  by_cases hc2 : jb = (0 : Int32)
  ·skip
   refine Go.st (fun _ => XS.ifYes X0.here hx rfl (pc0 := 32) (pc' := 40) rfl (hb hby at_32) rfl ((if0 _ _).trans (teq hc2).1) (by decide) (by decide)) ?_
   show Go _ _ _ _ (s₁.setTop (mkF m 40 #[lI p0, lI p1, lI p2, lI jb, lI jm, lI jc, lI jf, lU, lU, lU, lU, lU] []))
   refine Go.st (fun _ => XS.iloadN X0.here hx rfl (hb hby at_40) rfl) ?_
   show Go _ _ _ _ (s₁.setTop (mkF m 41 #[lI p0, lI p1, lI p2, lI jb, lI jm, lI jc, lI jf, lU, lU, lU, lU, lU] [(.int jb)]))
   have hb3 : jb = (0 : Int32) := by assumption
   refine Go.st (fun _ => XS.ifNo X0.here hx rfl (hb hby at_41) rfl ((if0 _ _).trans (teq hb3).2)) ?_
   show Go _ _ _ _ (s₁.setTop (mkF m 44 #[lI p0, lI p1, lI p2, lI jb, lI jm, lI jc, lI jf, lU, lU, lU, lU, lU] []))
   obtain ⟨_, _, ⟨T4, L4, k4, n4⟩, -, X4, ⟨Lc4, hQ4, l4, y4, z4⟩, st4⟩ := Jvm.LawKit.callS X0 hx (y := (⟨"com/example/tidewall/tidewall/ledger/AccountClassByIdPinLaw", "cust", "()[C"⟩ : MethodName)) hown (mvT hZ (ow hw 1 rfl)) (mvT hZ (ow hw 2 rfl)) (mvT hZ (ow hw 3 rfl)) (mvT hZ (ow hw 4 rfl)) (by decide) (backOf (W := 0) (rm_mcu l Z a0 hw []  h0 n0 X00 ) hZ (ow hw 4 rfl) (ow hw 3 rfl) (by decide) (by decide)) (g := (mkF m 44 #[lI p0, lI p1, lI p2, lI jb, lI jm, lI jc, lI jf, lU, lU, lU, lU, lU] [])) rfl (by rw [hml]; rfl) (argsL := []) (rest := []) (lenOf own_pd17 rfl) rfl (by show 2 * 0 + _ ≤ _; exact Nat.le_of_eq rfl) (hb hby at_44) (fun _ _ => ⟨rfl, e0, (by decide : 0 + 1 ≤ _), (by decide : 0 + 8 ≤ _)⟩)
   dsimp only [Pt.U, Pt.locs, Pt.cells, Pt.slots] at X4 l4 y4 z4 st4 hQ4
   subst y4 z4
   refine Go.st st4 ?_
   obtain ⟨ob_5, kb_6, rfl, N4q, K4q, q4_0, q4_1⟩ := hQ4
   have N4 : Fr n0 L4 := by rw [l4]; exact Fr.app N0 N4q
   have SN4_0 : Safe Z consts_1 s.vm h0 ob_5 := Safe.new q4_0
   have O4 := X00.keep K4q all0
   have K4 : Keep h0 T4.heap [] := (Keep.refl h0 []).trans K4q all0
   have sf7 := Safe.keep K4q sf0 CR0.1 SN4_0
   have CR4 := CR0.trans (CHr.keep K4q sf0 CR0.1)
   have sz_ob_5 : h0.size ≤ ob_5 := Nat.le_trans (Keep.refl h0 []).1 q4_0
   have g_ob_5 : n0 ≤ ob_5 := Nat.le_trans (own_oldsz X00) sz_ob_5
   show Go _ _ _ _ (T4.setTop (mkF m 47 #[lI p0, lI p1, lI p2, lI jb, lI jm, lI jc, lI jf, lU, lU, lU, lU, lU] [(.ref ob_5)]))
   refine Go.st (fun _ => XS.goto X4.here hx rfl (pc0 := 47) (pc' := 53) rfl (hb hby at_47) (by decide) (by decide)) ?_
   show Go _ _ _ _ (T4.setTop (mkF m 53 #[lI p0, lI p1, lI p2, lI jb, lI jm, lI jc, lI jf, lU, lU, lU, lU, lU] [(.ref ob_5)]))
   refine Go.st (fun _ => XS.astore X4.here hx rfl (hb hby at_53) rfl rfl (l' := #[lI p0, lI p1, lI p2, lI jb, lI jm, lI jc, lI jf, lU, lU, lU, lR ob_5, lU]) rfl) ?_
   show Go _ _ _ _ (T4.setTop (mkF m 55 #[lI p0, lI p1, lI p2, lI jb, lI jm, lI jc, lI jf, lU, lU, lU, lR ob_5, lU] []))
   refine Go.st (fun _ => XS.iloadN X4.here hx rfl (hb hby at_55) rfl) ?_
   show Go _ _ _ _ (T4.setTop (mkF m 56 #[lI p0, lI p1, lI p2, lI jb, lI jm, lI jc, lI jf, lU, lU, lU, lR ob_5, lU] [(.int jb)]))
   have hb8 : jb = (0 : Int32) := by assumption
   refine Go.st (fun _ => XS.ifNo X4.here hx rfl (hb hby at_56) rfl ((if0 _ _).trans (teq hb8).2)) ?_
   show Go _ _ _ _ (T4.setTop (mkF m 59 #[lI p0, lI p1, lI p2, lI jb, lI jm, lI jc, lI jf, lU, lU, lU, lR ob_5, lU] []))
   obtain ⟨T9, X9, e9, st9⟩ := getS2 X4 hx hZ hown (host := "") (Or.inl (ow hw 6 rfl)) Via.refl rfl (S_C.ext O4.2) (g := (mkF m 59 #[lI p0, lI p1, lI p2, lI jb, lI jm, lI jc, lI jf, lU, lU, lU, lR ob_5, lU] [])) rfl (hb hby at_59)
   refine Go.st st9 ?_
   show Go _ _ _ _ (T9.setTop (mkF m 62 #[lI p0, lI p1, lI p2, lI jb, lI jm, lI jc, lI jf, lU, lU, lU, lR ob_5, lU] [(.ref w_C)]))
   refine Go.st (fun _ => XS.goto X9.here hx rfl (pc0 := 62) (pc' := 68) rfl (hb hby at_62) (by decide) (by decide)) ?_
   show Go _ _ _ _ (T9.setTop (mkF m 68 #[lI p0, lI p1, lI p2, lI jb, lI jm, lI jc, lI jf, lU, lU, lU, lR ob_5, lU] [(.ref w_C)]))
   refine Go.st (fun _ => XS.astore X9.here hx rfl (hb hby at_68) rfl rfl (l' := #[lI p0, lI p1, lI p2, lI jb, lI jm, lI jc, lI jf, lU, lU, lR w_C, lR ob_5, lU]) rfl) ?_
   show Go _ _ _ _ (T9.setTop (mkF m 70 #[lI p0, lI p1, lI p2, lI jb, lI jm, lI jc, lI jf, lU, lU, lR w_C, lR ob_5, lU] []))
   refine Go.st (fun _ => XS.iload X9.here hx rfl (hb hby at_70) rfl) ?_
   show Go _ _ _ _ (T9.setTop (mkF m 72 #[lI p0, lI p1, lI p2, lI jb, lI jm, lI jc, lI jf, lU, lU, lR w_C, lR ob_5, lU] [(.int jm)]))
   by_cases hc10 : jm = (0 : Int32)
   ·skip
    refine Go.st (fun _ => XS.ifNo X9.here hx rfl (hb hby at_72) rfl ((if0 _ _).trans (teq hc10).2)) ?_
    show Go _ _ _ _ (T9.setTop (mkF m 75 #[lI p0, lI p1, lI p2, lI jb, lI jm, lI jc, lI jf, lU, lU, lR w_C, lR ob_5, lU] []))
    obtain ⟨T11, h11, X11, e11, E11, A11, D11, -, st11⟩ := newO X9 hx hZ hown (ow hw 9 rfl) (ow hw 10 rfl) (ow hw 11 rfl) e9 (g := (mkF m 75 #[lI p0, lI p1, lI p2, lI jb, lI jm, lI jc, lI jf, lU, lU, lR w_C, lR ob_5, lU] [])) rfl (hb hby at_75) (by decide) (by decide)
    obtain ⟨b11, g11⟩ : ∃ z, z = T4.heap.size := ⟨_, rfl⟩
    rw [← g11] at A11 D11 st11
    refine Go.st st11 ?_
    have g_b11 : n0 ≤ b11 := Nat.le_trans (own_oldsz O4) (Nat.le_of_eq g11.symm)
    have sz_b11 : h0.size ≤ b11 := Nat.le_trans K4.1 (Nat.le_of_eq g11.symm)
    have K11 : Keep h0 h11 [] := K4.ext E11
    have O11 := O4.ext E11
    have sf12 := Safe.ext E11 CR4.1 sf7
    have SF_b11 : Safe Z consts_1 s.vm h11 b11 := Safe.ext E11 CR4.1 (Safe.new (Nat.le_of_eq g11.symm))
    have CR11 := CR4.trans (CHr.ext E11 CR4.1)
    have F13 : Fld Z h11 b11 "java/lang/String" "coder" "B" (.int 0) := D11 (Or.inr (ow hw 35 rfl)) (ty := .byte) (by decide)
    have F14 : Fld Z h11 b11 "java/lang/String" "value" "[B" .null := D11 (Or.inr (ow hw 37 rfl)) (ty := (.array .byte)) (by decide)
    show Go _ _ _ _ (T11.setTop (mkF m 78 #[lI p0, lI p1, lI p2, lI jb, lI jm, lI jc, lI jf, lU, lU, lR w_C, lR ob_5, lU] [(.ref b11)]))
    refine Go.st (fun _ => XS.dup X11.here hx rfl (hb hby at_78) rfl rfl) ?_
    refine Go.st (fun _ => XS.aload X11.here hx rfl (hb hby at_79) rfl rfl) ?_
    show Go _ _ _ _ (T11.setTop (mkF m 81 #[lI p0, lI p1, lI p2, lI jb, lI jm, lI jc, lI jf, lU, lU, lR w_C, lR ob_5, lU] [(.ref ob_5), (.ref b11), (.ref b11)]))
    have c16 := (q4_1.ext E11)
    have hp15 : ∀ c ∈ ([99, 117, 115, 116, 111, 109, 101, 114] : List Int32), ¬ c < 0 ∧ ¬ (255 : Int32) < c := by
     intro c hc
     simp only [List.mem_cons, List.not_mem_nil, or_false] at hc
     rcases hc with rfl | rfl | rfl | rfl | rfl | rfl | rfl | rfl
     ·decide
     ·decide
     ·decide
     ·decide
     ·decide
     ·decide
     ·decide
     ·decide
    obtain ⟨_, _, ⟨T15, L15, k15, n15⟩, -, X15, ⟨Lc15, hQ15, l15, y15, z15⟩, st15⟩ := X11.specialBack hx (y := (⟨"java/lang/String", "<init>", "([C)V"⟩ : MethodName)) rfl hown (mvT hZ (ow hw 12 rfl)) (mvT hZ (ow hw 13 rfl)) (mvT hZ (ow hw 14 rfl)) (by decide) (StrChars.Road.backV (W := 1) hZ (fun d hd => hw d (own_wNew d hd)) (kI := 4) (ow hw 10 rfl) (cs := ([99, 117, 115, 116, 111, 109, 101, 114] : List Int32)) (bs := (([99, 117, 115, 116, 111, 109, 101, 114] : List Int32)).map (fun c => c.toInt8.toInt32)) (n := 8) g_b11 (own_oldsz O11) A11 F14 F13 c16 (S_CS.ext O11.2) nz_CS rfl rfl (by decide) (by decide) hp15 rfl (by decide) (by decide)) (g := (mkF m 81 #[lI p0, lI p1, lI p2, lI jb, lI jm, lI jc, lI jf, lU, lU, lR w_C, lR ob_5, lU] [(.ref ob_5), (.ref b11), (.ref b11)])) rfl (by rw [hml]; rfl) (Steps.refl _) (a := b11) (argsL := [(.ref ob_5)]) (rest := [(.ref b11)]) (lenOf own_pd18 rfl) rfl (by show 2 * 0 + _ ≤ _; exact Nat.le_of_eq rfl) (hb hby at_81) (fun _ _ => ⟨rfl, e11, (by decide : 2 + 1 ≤ _), (by decide : 12 + 8 ≤ _)⟩)
    dsimp only [Pt.U, Pt.locs, Pt.cells, Pt.slots] at X15 l15 y15 z15 st15 hQ15
    subst y15 z15
    refine Go.tr st15 ?_
    obtain ⟨rfl, N15q, K15q, E15x, C15x, t15, kb15, gt15, szt15, net15, V15x, A15x⟩ := hQ15
    have N15 : Fr n0 L15 := by rw [l15]; exact Fr.app N4 N15q
    have O15 := O11.keep K15q (allS g_b11 all0)
    have K15 : Keep h0 T15.heap [] := K11.trans K15q (allS (Or.inr sz_b11) all0)
    have sf17 := Safe.keep K15q (sfS SF_b11 sf0) CR11.1 sf12
    have sf18 := Safe.keep K15q (sfS SF_b11 sf0) CR11.1 SF_b11
    have CR15 := CR11.trans (CHr.keep K15q (sfS SF_b11 sf0) CR11.1)
    have sz_t15 : h0.size ≤ t15 := Nat.le_trans K11.1 szt15
    show Go _ _ _ _ (T15.setTop (mkF m 84 #[lI p0, lI p1, lI p2, lI jb, lI jm, lI jc, lI jf, lU, lU, lR w_C, lR ob_5, lU] [(.ref b11)]))
    refine Go.st (fun _ => XS.astore X15.here hx rfl (hb hby at_84) rfl rfl (l' := #[lI p0, lI p1, lI p2, lI jb, lI jm, lI jc, lI jf, lR b11, lU, lR w_C, lR ob_5, lU]) rfl) ?_
    show Go _ _ _ _ (T15.setTop (mkF m 86 #[lI p0, lI p1, lI p2, lI jb, lI jm, lI jc, lI jf, lR b11, lU, lR w_C, lR ob_5, lU] []))
    refine Go.st (fun _ => XS.iconst X15.here hx rfl (hb hby at_86)) ?_
    show Go _ _ _ _ (T15.setTop (mkF m 87 #[lI p0, lI p1, lI p2, lI jb, lI jm, lI jc, lI jf, lR b11, lU, lR w_C, lR ob_5, lU] [(.int 1)]))
    refine Go.st (fun _ => XS.istore X15.here hx rfl (hb hby at_87) rfl (l' := #[lI p0, lI p1, lI p2, lI jb, lI jm, lI jc, lI jf, lR b11, lI (1 : Int32), lR w_C, lR ob_5, lU]) rfl) ?_
    show Go _ _ _ _ (T15.setTop (mkF m 89 #[lI p0, lI p1, lI p2, lI jb, lI jm, lI jc, lI jf, lR b11, lI (1 : Int32), lR w_C, lR ob_5, lU] []))
    refine Go.st (fun _ => XS.goto X15.here hx rfl (pc0 := 89) (pc' := 231) rfl (hb hby at_89) (by decide) (by decide)) ?_
    show Go _ _ _ _ (T15.setTop (mkF m 231 #[lI p0, lI p1, lI p2, lI jb, lI jm, lI jc, lI jf, lR b11, lI (1 : Int32), lR w_C, lR ob_5, lU] []))
    refine Go.st (fun _ => XS.goto X15.here hx rfl (pc0 := 231) (pc' := 282) rfl (hb hby at_231) (by decide) (by decide)) ?_
    show Go _ _ _ _ (T15.setTop (mkF m 282 #[lI p0, lI p1, lI p2, lI jb, lI jm, lI jc, lI jf, lR b11, lI (1 : Int32), lR w_C, lR ob_5, lU] []))
    refine Go.st (fun _ => XS.aload X15.here hx rfl (hb hby at_282) rfl rfl) ?_
    show Go _ _ _ _ (T15.setTop (mkF m 284 #[lI p0, lI p1, lI p2, lI jb, lI jm, lI jc, lI jf, lR b11, lI (1 : Int32), lR w_C, lR ob_5, lU] [(.ref b11)]))
    have c20 := (c16.keep K15q (ninS (Nat.ne_of_lt (Nat.lt_of_lt_of_le q4_1.lt (Nat.le_of_eq g11.symm))) nin0))
    obtain ⟨_, _, ⟨T19, L19, k19, n19⟩, -, X19, ⟨Lc19, hQ19, l19, y19, z19⟩, st19⟩ := Jvm.LawKit.callS X15 hx (y := (⟨"com/example/tidewall/tidewall/ledger/AccountClass", "byId", "(Ljava/lang/String;)Ljava/util/Optional;"⟩ : MethodName)) hown (mvT hZ (ow hw 38 rfl)) (mvT hZ (ow hw 39 rfl)) (mvT hZ (ow hw 7 rfl)) (mvT hZ (ow hw 40 rfl)) (by decide) (backOf (W := 0) (rm_byc l Z a0 hw [] w_C S_C X_C w_P S_P X_P w_V k_V S_V X_V V_V w_CS F_CS X_CS I_CS_coder w_CB k_CB F_CB V_CB w_PS F_PS X_PS I_PS_coder w_PB k_PB F_PB V_PB S_AD S_HI S_LO w_OE S_OE X_OE I_OE_value g_CS S_CS nz_CS g_SF S_SF r_SF b11 ([99, 117, 115, 116, 111, 109, 101, 114] : List Int32) t15 kb15 T15.heap n0 O15 E15x C15x V15x (own_arvN rfl A15x) hp15 (Nat.le_of_ble_eq_true rfl) rfl) hZ (ow hw 40 rfl) (ow hw 7 rfl) (by decide) (by decide)) (g := (mkF m 284 #[lI p0, lI p1, lI p2, lI jb, lI jm, lI jc, lI jf, lR b11, lI (1 : Int32), lR w_C, lR ob_5, lU] [(.ref b11)])) rfl (by rw [hml]; rfl) (argsL := [(.ref b11)]) (rest := []) (lenOf own_pd19 rfl) rfl (by show 2 * 0 + _ ≤ _; exact Nat.le_of_eq rfl) (hb hby at_284) (fun _ _ => ⟨rfl, rfl, (by decide : 3 + 2 ≤ _), (by decide : 20 + 3 ≤ _)⟩)
    dsimp only [Pt.U, Pt.locs, Pt.cells, Pt.slots] at X19 l19 y19 z19 st19 hQ19
    subst y19 z19
    refine Go.st st19 ?_
    obtain ⟨ob_21, rfl, N19q, K19q, q19_0, q19_1, q19_2⟩ := hQ19
    have N19 : Fr n0 L19 := by rw [l19]; exact Fr.app N15 N19q
    have SN19_0 : Safe Z consts_1 s.vm T15.heap ob_21 := Safe.new q19_0
    have O19 := O15.keep K19q all0
    have K19 : Keep h0 T19.heap [] := K15.trans K19q all0
    have sf22 := Safe.keep K19q sf0 CR15.1 sf17
    have sf23 := Safe.keep K19q sf0 CR15.1 sf18
    have sf24 := Safe.keep K19q sf0 CR15.1 SN19_0
    have CR19 := CR15.trans (CHr.keep K19q sf0 CR15.1)
    have sz_ob_21 : h0.size ≤ ob_21 := Nat.le_trans K15.1 q19_0
    have g_ob_21 : n0 ≤ ob_21 := Nat.le_trans (own_oldsz X00) sz_ob_21
    show Go _ _ _ _ (T19.setTop (mkF m 287 #[lI p0, lI p1, lI p2, lI jb, lI jm, lI jc, lI jf, lR b11, lI (1 : Int32), lR w_C, lR ob_5, lU] [(.ref ob_21)]))
    refine Go.st (fun _ => XS.astore X19.here hx rfl (hb hby at_287) rfl rfl (l' := #[lI p0, lI p1, lI p2, lI jb, lI jm, lI jc, lI jf, lR b11, lI (1 : Int32), lR w_C, lR ob_21, lU]) rfl) ?_
    show Go _ _ _ _ (T19.setTop (mkF m 289 #[lI p0, lI p1, lI p2, lI jb, lI jm, lI jc, lI jf, lR b11, lI (1 : Int32), lR w_C, lR ob_21, lU] []))
    refine Go.st (fun _ => XS.iload X19.here hx rfl (hb hby at_289) rfl) ?_
    show Go _ _ _ _ (T19.setTop (mkF m 291 #[lI p0, lI p1, lI p2, lI jb, lI jm, lI jc, lI jf, lR b11, lI (1 : Int32), lR w_C, lR ob_21, lU] [(.int 1)]))
    refine Go.st (fun _ => XS.ifNo X19.here hx rfl (hb hby at_291) rfl ((if0 _ _).trans (feq (by decide)).1)) ?_
    show Go _ _ _ _ (T19.setTop (mkF m 294 #[lI p0, lI p1, lI p2, lI jb, lI jm, lI jc, lI jf, lR b11, lI (1 : Int32), lR w_C, lR ob_21, lU] []))
    refine Go.st (fun _ => XS.aload X19.here hx rfl (hb hby at_294) rfl rfl) ?_
    show Go _ _ _ _ (T19.setTop (mkF m 296 #[lI p0, lI p1, lI p2, lI jb, lI jm, lI jc, lI jf, lR b11, lI (1 : Int32), lR w_C, lR ob_21, lU] [(.ref ob_21)]))
    obtain ⟨cq25, kq25, q25a, q25b, q25c⟩ := isOf hZ rfl q19_1
    obtain ⟨_, _, ⟨T25, L25, k25, n25⟩, -, X25, ⟨Lc25, hQ25, l25, y25, z25⟩, st25⟩ := X19.virtualBack hx (y := (⟨"java/util/Optional", "isPresent", "()Z"⟩ : MethodName)) (z := (⟨"java/util/Optional", "isPresent", "()Z"⟩ : MethodName)) hown (mvT hZ (ow hw 86 rfl)) (mvT hZ (ow hw 87 rfl)) (notFace_of_selects (args := #[]) (mvT hZ (ow hw 89 rfl))) (mvT hZ (ow hw 89 rfl)) (mvT hZ (ow hw 88 rfl)) (by decide) (backOf (W := 0) (rm_ip1 l Z a0 hw [] ob_21 w_C T19.heap n0 O19 q19_2) hZ (ow hw 90 rfl) (ow hw 71 rfl) (by decide) (by decide)) q25a q25c (g := (mkF m 296 #[lI p0, lI p1, lI p2, lI jb, lI jm, lI jc, lI jf, lR b11, lI (1 : Int32), lR w_C, lR ob_21, lU] [(.ref ob_21)])) rfl (by rw [hml]; rfl) (Steps.refl _) (argsL := []) (rest := []) (lenOf own_pd20 rfl) rfl (by show 2 * 0 + _ ≤ _; exact Nat.le_of_eq rfl) (hb hby at_296) (fun _ _ => ⟨rfl, rfl, (by decide : 5 + 0 ≤ _), (by decide : 23 + 0 ≤ _)⟩)
    dsimp only [Pt.U, Pt.locs, Pt.cells, Pt.slots] at X25 l25 y25 z25 st25 hQ25
    subst y25 z25
    refine Go.tr st25 ?_
    obtain ⟨rfl, N25q, e25⟩ := hQ25
    have N25 : Fr n0 L25 := by rw [l25]; exact Fr.app N19 N25q
    show Go _ _ _ _ (T25.setTop (mkF m 299 #[lI p0, lI p1, lI p2, lI jb, lI jm, lI jc, lI jf, lR b11, lI (1 : Int32), lR w_C, lR ob_21, lU] [(.int 1)]))
    refine Go.st (fun _ => XS.ifNo X25.here hx rfl (hb hby at_299) rfl ((if0 _ _).trans (feq (by decide)).1)) ?_
    show Go _ _ _ _ (T25.setTop (mkF m 302 #[lI p0, lI p1, lI p2, lI jb, lI jm, lI jc, lI jf, lR b11, lI (1 : Int32), lR w_C, lR ob_21, lU] []))
    refine Go.st (fun _ => XS.aload X25.here hx rfl (hb hby at_302) rfl rfl) ?_
    show Go _ _ _ _ (T25.setTop (mkF m 304 #[lI p0, lI p1, lI p2, lI jb, lI jm, lI jc, lI jf, lR b11, lI (1 : Int32), lR w_C, lR ob_21, lU] [(.ref ob_21)]))
    obtain ⟨cq26, kq26, q26a, q26b, q26c⟩ := isOf hZ e25 q19_1
    obtain ⟨_, _, ⟨T26, L26, k26, n26⟩, -, X26, ⟨Lc26, hQ26, l26, y26, z26⟩, st26⟩ := X25.virtualBack hx (y := (⟨"java/util/Optional", "get", "()Ljava/lang/Object;"⟩ : MethodName)) (z := (⟨"java/util/Optional", "get", "()Ljava/lang/Object;"⟩ : MethodName)) hown (mvT hZ (ow hw 91 rfl)) (mvT hZ (ow hw 92 rfl)) (notFace_of_selects (args := #[]) (mvT hZ (ow hw 94 rfl))) (mvT hZ (ow hw 94 rfl)) (mvT hZ (ow hw 93 rfl)) (by decide) (backOf (W := 0) (rm_oget l Z a0 hw [] ob_21 w_C T19.heap n0 O19 q19_2) hZ (ow hw 95 rfl) (ow hw 71 rfl) (by decide) (by decide)) q26a q26c (g := (mkF m 304 #[lI p0, lI p1, lI p2, lI jb, lI jm, lI jc, lI jf, lR b11, lI (1 : Int32), lR w_C, lR ob_21, lU] [(.ref ob_21)])) rfl (by rw [hml]; rfl) (Steps.refl _) (argsL := []) (rest := []) (lenOf own_pd21 rfl) rfl (by show 2 * 0 + _ ≤ _; exact Nat.le_of_eq rfl) (hb hby at_304) (fun _ _ => ⟨rfl, e25, (by decide : 5 + 0 ≤ _), (by decide : 23 + 0 ≤ _)⟩)
    dsimp only [Pt.U, Pt.locs, Pt.cells, Pt.slots] at X26 l26 y26 z26 st26 hQ26
    subst y26 z26
    refine Go.tr st26 ?_
    obtain ⟨rfl, N26q, e26⟩ := hQ26
    have N26 : Fr n0 L26 := by rw [l26]; exact Fr.app N25 N26q
    show Go _ _ _ _ (T26.setTop (mkF m 307 #[lI p0, lI p1, lI p2, lI jb, lI jm, lI jc, lI jf, lR b11, lI (1 : Int32), lR w_C, lR ob_21, lU] [(.ref w_C)]))
    refine Go.st (fun _ => XS.aload X26.here hx rfl (hb hby at_307) rfl rfl) ?_
    show Go _ _ _ _ (T26.setTop (mkF m 309 #[lI p0, lI p1, lI p2, lI jb, lI jm, lI jc, lI jf, lR b11, lI (1 : Int32), lR w_C, lR ob_21, lU] [(.ref w_C), (.ref w_C)]))
    refine Go.st (fun _ => Jvm.RoadKit.acmp (g := (mkF m 309 #[lI p0, lI p1, lI p2, lI jb, lI jm, lI jc, lI jf, lR b11, lI (1 : Int32), lR w_C, lR ob_21, lU] [(.ref w_C), (.ref w_C)])) X26 hx rfl rfl rfl (pc0 := 309) (pc' := 312) (same := true) rfl (hb hby at_309) rfl (decide_eq_true rfl) (by decide) (by decide)) ?_
    show Go _ _ _ _ (T26.setTop (mkF m 312 #[lI p0, lI p1, lI p2, lI jb, lI jm, lI jc, lI jf, lR b11, lI (1 : Int32), lR w_C, lR ob_21, lU] []))
    refine Go.st (fun _ => XS.iconst X26.here hx rfl (hb hby at_312)) ?_
    show Go _ _ _ _ (T26.setTop (mkF m 313 #[lI p0, lI p1, lI p2, lI jb, lI jm, lI jc, lI jf, lR b11, lI (1 : Int32), lR w_C, lR ob_21, lU] [(.int 1)]))
    refine Go.st (fun _ => XS.goto X26.here hx rfl (pc0 := 313) (pc' := 317) rfl (hb hby at_313) (by decide) (by decide)) ?_
    show Go _ _ _ _ (T26.setTop (mkF m 317 #[lI p0, lI p1, lI p2, lI jb, lI jm, lI jc, lI jf, lR b11, lI (1 : Int32), lR w_C, lR ob_21, lU] [(.int 1)]))
    obtain ⟨fs, hr, hrun, hended, -, hW, hpair, hsame⟩ := X26.leaveW hS0 (by rw [e26]; exact (Nat.le_trans (Nat.le_trans (Nat.le_trans (Nat.le_trans hk0 K4q.1) E11.1) K15q.1) K19q.1)) (v := some (.int 1)) (fun h => by rw [Bd.returns] at h; cases h)
    have hCRe := CR19.trans (CHv.at X26 hZ hEL CR19.1)
    refine ⟨_, ?_, hPend _ _ hrun hended ⟨_, _, rfl, ?_, ?_, ⟨_, rfl⟩, hW, hpair, hsame.mono (by decide) (by decide)⟩⟩
    ·exact retN X26 hx (t := .boolean) Bd.returns (by simp) (hb hby at_317) hr
    ·show Q_rm_law Z _ _ _ _ _ _ _ _ _ _ _ _ _ _ _ _ h0 n0 _ T26.heap _
     rw [e26]
     exact ⟨rfl, N26, K19⟩
    ·show CHr Z consts_1 s.vm s.heap T26.vm T26.heap
     rw [hh, e26]
     exact hCRe
   ·skip
    refine Go.st (fun _ => XS.ifYes X9.here hx rfl (pc0 := 72) (pc' := 92) rfl (hb hby at_72) rfl ((if0 _ _).trans (feq hc10).2) (by decide) (by decide)) ?_
    show Go _ _ _ _ (T9.setTop (mkF m 92 #[lI p0, lI p1, lI p2, lI jb, lI jm, lI jc, lI jf, lU, lU, lR w_C, lR ob_5, lU] []))
    refine Go.st (fun _ => XS.iload X9.here hx rfl (hb hby at_92) rfl) ?_
    refine Go.st (fun _ => XS.iconst X9.here hx rfl (hb hby at_94)) ?_
    show Go _ _ _ _ (T9.setTop (mkF m 95 #[lI p0, lI p1, lI p2, lI jb, lI jm, lI jc, lI jf, lU, lU, lR w_C, lR ob_5, lU] [(.int 1), (.int jm)]))
    by_cases hc27 : jm = (1 : Int32)
    ·skip
     refine Go.st (fun _ => XS.icmpNo X9.here hx rfl (hb hby at_95) rfl (teq hc27).2) ?_
     show Go _ _ _ _ (T9.setTop (mkF m 98 #[lI p0, lI p1, lI p2, lI jb, lI jm, lI jc, lI jf, lU, lU, lR w_C, lR ob_5, lU] []))
     by_cases hcw : (255 : Int32) < jc
     ·skip
      show Go _ _ _ _ (T9.setTop (mkF m 98 #[lI p0, lI p1, lI p2, lI jb, lI jm, lI jc, lI jf, lU, lU, lR w_C, lR ob_5, lU] []))
      refine Go.st (fun _ => XS.iloadN X9.here hx rfl (hb hby at_98) rfl) ?_
      show Go _ _ _ _ (T9.setTop (mkF m 99 #[lI p0, lI p1, lI p2, lI jb, lI jm, lI jc, lI jf, lU, lU, lR w_C, lR ob_5, lU] [(.int p1)]))
      refine Go.st (fun _ => X9.ldcInt hx hown (mvT hZ (ow hw 100 rfl)) (g := (mkF m 99 #[lI p0, lI p1, lI p2, lI jb, lI jm, lI jc, lI jf, lU, lU, lR w_C, lR ob_5, lU] [(.int p1)])) rfl (hb hby at_99) _) ?_
      show Go _ _ _ _ (T9.setTop (mkF m 101 #[lI p0, lI p1, lI p2, lI jb, lI jm, lI jc, lI jf, lU, lU, lR w_C, lR ob_5, lU] [(.int 2147483647), (.int p1)]))
      refine Go.st (fun _ => XS.iand X9.here hx rfl (hb hby at_101) rfl) ?_
      show Go _ _ _ _ (T9.setTop (mkF m 102 #[lI p0, lI p1, lI p2, lI jb, lI jm, lI jc, lI jf, lU, lU, lR w_C, lR ob_5, lU] [(.int (p1 &&& (2147483647 : Int32)))]))
      refine Go.st (fun _ => XS.aload X9.here hx rfl (hb hby at_102) rfl rfl) ?_
      show Go _ _ _ _ (T9.setTop (mkF m 104 #[lI p0, lI p1, lI p2, lI jb, lI jm, lI jc, lI jf, lU, lU, lR w_C, lR ob_5, lU] [(.ref ob_5), (.int (p1 &&& (2147483647 : Int32)))]))
      refine Go.st (fun _ => own_len X9 hx hZ e9 q4_1 (g := (mkF m 104 #[lI p0, lI p1, lI p2, lI jb, lI jm, lI jc, lI jf, lU, lU, lR w_C, lR ob_5, lU] [(.ref ob_5), (.int (p1 &&& (2147483647 : Int32)))])) rfl rfl (hb hby at_104) _) ?_
      show Go _ _ _ _ (T9.setTop (mkF m 105 #[lI p0, lI p1, lI p2, lI jb, lI jm, lI jc, lI jf, lU, lU, lR w_C, lR ob_5, lU] [(.int 8), (.int (p1 &&& (2147483647 : Int32)))]))
      refine Go.st (fun _ => iremM (g := (mkF m 105 #[lI p0, lI p1, lI p2, lI jb, lI jm, lI jc, lI jf, lU, lU, lR w_C, lR ob_5, lU] [(.int 8), (.int (p1 &&& (2147483647 : Int32)))])) X9 hx rfl (hb hby at_105) rfl (by decide)) ?_
      show Go _ _ _ _ (T9.setTop (mkF m 106 #[lI p0, lI p1, lI p2, lI jb, lI jm, lI jc, lI jf, lU, lU, lR w_C, lR ob_5, lU] [(.int ((p1 &&& (2147483647 : Int32)) % (8 : Int32)))]))
      have hjp0 := own_rem8 p1
      obtain ⟨jp, he_jp⟩ : ∃ z : Int32, z = ((p1 &&& (2147483647 : Int32)) % (8 : Int32)) := ⟨_, rfl⟩
      rw [← he_jp]
      show Go _ _ _ _ (T9.setTop (mkF m 106 #[lI p0, lI p1, lI p2, lI jb, lI jm, lI jc, lI jf, lU, lU, lR w_C, lR ob_5, lU] [(.int jp)]))
      have hjp : (¬ jp < 0 ∧ jp < 8) ∧ jp.toNatClampNeg < 8 := by rw [he_jp]; exact hjp0
      refine Go.st (fun _ => XS.istore X9.here hx rfl (hb hby at_106) rfl (l' := #[lI p0, lI p1, lI p2, lI jb, lI jm, lI jc, lI jf, lU, lU, lR w_C, lR ob_5, lI jp]) rfl) ?_
      show Go _ _ _ _ (T9.setTop (mkF m 108 #[lI p0, lI p1, lI p2, lI jb, lI jm, lI jc, lI jf, lU, lU, lR w_C, lR ob_5, lI jp] []))
      refine Go.st (fun _ => XS.aload X9.here hx rfl (hb hby at_108) rfl rfl) ?_
      refine Go.st (fun _ => XS.iload X9.here hx rfl (hb hby at_110) rfl) ?_
      show Go _ _ _ _ (T9.setTop (mkF m 112 #[lI p0, lI p1, lI p2, lI jb, lI jm, lI jc, lI jf, lU, lU, lR w_C, lR ob_5, lI jp] [(.int jp), (.ref ob_5)]))
      refine Go.st (fun _ => own_ldC X9 hx hZ e9 q4_1 (j := jp) (i := (jp).toNatClampNeg) (v := (.int (([99, 117, 115, 116, 111, 109, 101, 114] : List Int32).getD jp.toNatClampNeg 0))) hjp.1 rfl (own_getD_int ([99, 117, 115, 116, 111, 109, 101, 114] : List Int32) _) (g := (mkF m 112 #[lI p0, lI p1, lI p2, lI jb, lI jm, lI jc, lI jf, lU, lU, lR w_C, lR ob_5, lI jp] [(.int jp), (.ref ob_5)])) rfl rfl (hb hby at_112) _) ?_
      show Go _ _ _ _ (T9.setTop (mkF m 113 #[lI p0, lI p1, lI p2, lI jb, lI jm, lI jc, lI jf, lU, lU, lR w_C, lR ob_5, lI jp] [(.int (([99, 117, 115, 116, 111, 109, 101, 114] : List Int32).getD jp.toNatClampNeg 0))]))
      refine Go.st (fun _ => XS.iload X9.here hx rfl (hb hby at_113) rfl) ?_
      show Go _ _ _ _ (T9.setTop (mkF m 115 #[lI p0, lI p1, lI p2, lI jb, lI jm, lI jc, lI jf, lU, lU, lR w_C, lR ob_5, lI jp] [(.int jc), (.int (([99, 117, 115, 116, 111, 109, 101, 114] : List Int32).getD jp.toNatClampNeg 0))]))
      have hb29 : ¬ ((([99, 117, 115, 116, 111, 109, 101, 114] : List Int32).getD jp.toNatClampNeg 0) = jc) := fun q => absurd hcw (by rw [← q]; exact (own_getS (xs := ([99, 117, 115, 116, 111, 109, 101, 114] : List Int32)) (by decide) hjp.2).2)
      refine Go.st (fun _ => XS.icmpYes X9.here hx rfl (pc0 := 115) (pc' := 122) rfl (hb hby at_115) rfl (feq hb29).2 (by decide) (by decide)) ?_
      show Go _ _ _ _ (T9.setTop (mkF m 122 #[lI p0, lI p1, lI p2, lI jb, lI jm, lI jc, lI jf, lU, lU, lR w_C, lR ob_5, lI jp] []))
      refine Go.st (fun _ => XS.iconst X9.here hx rfl (hb hby at_122)) ?_
      show Go _ _ _ _ (T9.setTop (mkF m 123 #[lI p0, lI p1, lI p2, lI jb, lI jm, lI jc, lI jf, lU, lU, lR w_C, lR ob_5, lI jp] [(.int 0)]))
      refine Go.st (fun _ => XS.istore X9.here hx rfl (hb hby at_123) rfl (l' := #[lI p0, lI p1, lI p2, lI jb, lI jm, lI jc, lI jf, lU, lI (0 : Int32), lR w_C, lR ob_5, lI jp]) rfl) ?_
      show Go _ _ _ _ (T9.setTop (mkF m 125 #[lI p0, lI p1, lI p2, lI jb, lI jm, lI jc, lI jf, lU, lI (0 : Int32), lR w_C, lR ob_5, lI jp] []))
      refine Go.st (fun _ => XS.aload X9.here hx rfl (hb hby at_125) rfl rfl) ?_
      refine Go.st (fun _ => XS.iload X9.here hx rfl (hb hby at_127) rfl) ?_
      refine Go.st (fun _ => XS.iload X9.here hx rfl (hb hby at_129) rfl) ?_
      show Go _ _ _ _ (T9.setTop (mkF m 131 #[lI p0, lI p1, lI p2, lI jb, lI jm, lI jc, lI jf, lU, lI (0 : Int32), lR w_C, lR ob_5, lI jp] [(.int jc), (.int jp), (.ref ob_5)]))
      obtain ⟨T30, h30, X30, e30, W30, V30, st30⟩ := own_stC X9 hx hZ e9 q4_1 (j := jp) (i := (jp).toNatClampNeg) hjp.1 rfl hjp.2 (g := (mkF m 131 #[lI p0, lI p1, lI p2, lI jb, lI jm, lI jc, lI jf, lU, lI (0 : Int32), lR w_C, lR ob_5, lI jp] [(.int jc), (.int jp), (.ref ob_5)])) rfl rfl (hb hby at_131)
      refine Go.st st30 ?_
      rw [own_nar16 hjc] at V30
      have sf31 := Safe.wr W30 sf7 CR4.1 sf7
      have CR30 := CR4.trans (CHr.wr W30 sf7 CR4.1)
      have K30 : Keep h0 h30 [] := K4.wr W30 (Or.inr sz_ob_5)
      have O30 := O4.wr W30 g_ob_5
      have N30 := Fr.snoc X30 N4 g_ob_5
      have V30' : Arv Z h30 ob_5 kb_6 .char (8 : Int32) ((([99, 117, 115, 116, 111, 109, 101, 114] : List Int32).set jp.toNatClampNeg jc).map Value.int) (.int 0) := own_arv_set V30
      show Go _ _ _ _ (T30.setTop (mkF m 132 #[lI p0, lI p1, lI p2, lI jb, lI jm, lI jc, lI jf, lU, lI (0 : Int32), lR w_C, lR ob_5, lI jp] []))
      obtain ⟨T32, h32, X32, e32, E32, A32, D32, -, st32⟩ := newO X30 hx hZ hown (ow hw 9 rfl) (ow hw 10 rfl) (ow hw 11 rfl) e30 (g := (mkF m 132 #[lI p0, lI p1, lI p2, lI jb, lI jm, lI jc, lI jf, lU, lI (0 : Int32), lR w_C, lR ob_5, lI jp] [])) rfl (hb hby at_132) (by decide) (by decide)
      obtain ⟨b32, g32⟩ : ∃ z, z = h30.size := ⟨_, rfl⟩
      rw [← g32] at A32 D32 st32
      refine Go.st st32 ?_
      have g_b32 : n0 ≤ b32 := Nat.le_trans (own_oldsz O30) (Nat.le_of_eq g32.symm)
      have sz_b32 : h0.size ≤ b32 := Nat.le_trans K30.1 (Nat.le_of_eq g32.symm)
      have K32 : Keep h0 h32 [] := K30.ext E32
      have O32 := O30.ext E32
      have sf33 := Safe.ext E32 CR30.1 sf31
      have SF_b32 : Safe Z consts_1 s.vm h32 b32 := Safe.ext E32 CR30.1 (Safe.new (Nat.le_of_eq g32.symm))
      have CR32 := CR30.trans (CHr.ext E32 CR30.1)
      have F34 : Fld Z h32 b32 "java/lang/String" "coder" "B" (.int 0) := D32 (Or.inr (ow hw 35 rfl)) (ty := .byte) (by decide)
      have F35 : Fld Z h32 b32 "java/lang/String" "value" "[B" .null := D32 (Or.inr (ow hw 37 rfl)) (ty := (.array .byte)) (by decide)
      show Go _ _ _ _ (T32.setTop (mkF m 135 #[lI p0, lI p1, lI p2, lI jb, lI jm, lI jc, lI jf, lU, lI (0 : Int32), lR w_C, lR ob_5, lI jp] [(.ref b32)]))
      refine Go.st (fun _ => XS.dup X32.here hx rfl (hb hby at_135) rfl rfl) ?_
      refine Go.st (fun _ => XS.aload X32.here hx rfl (hb hby at_136) rfl rfl) ?_
      show Go _ _ _ _ (T32.setTop (mkF m 138 #[lI p0, lI p1, lI p2, lI jb, lI jm, lI jc, lI jf, lU, lI (0 : Int32), lR w_C, lR ob_5, lI jp] [(.ref ob_5), (.ref b32), (.ref b32)]))
      have c37 := (V30'.ext E32)
      obtain ⟨_, _, ⟨T36, L36, k36, n36⟩, -, X36, ⟨Lc36, hQ36, l36, y36, z36⟩, st36⟩ := X32.specialBack hx (y := (⟨"java/lang/String", "<init>", "([C)V"⟩ : MethodName)) rfl hown (mvT hZ (ow hw 12 rfl)) (mvT hZ (ow hw 13 rfl)) (mvT hZ (ow hw 14 rfl)) (by decide) (backOf (W := 1) (rm_wid1 l Z a0 hw [] S_AD S_HI S_LO g_CS S_CS nz_CS b32 ob_5 (([99, 117, 115, 116, 111, 109, 101, 114] : List Int32).set jp.toNatClampNeg jc) kb_6 8 jp.toNatClampNeg h32 n0 O32 A32 F35 F34 g_b32 c37 (by decide) (by rw [List.length_set]; rfl) (own_setW (by decide) hjp.2 hcw) (own_setC (by decide) hjc)) hZ (ow hw 14 rfl) (ow hw 11 rfl) (by decide) (by decide)) (g := (mkF m 138 #[lI p0, lI p1, lI p2, lI jb, lI jm, lI jc, lI jf, lU, lI (0 : Int32), lR w_C, lR ob_5, lI jp] [(.ref ob_5), (.ref b32), (.ref b32)])) rfl (by rw [hml]; rfl) (Steps.refl _) (a := b32) (argsL := [(.ref ob_5)]) (rest := [(.ref b32)]) (lenOf own_pd18 rfl) rfl (by show 2 * 0 + _ ≤ _; exact Nat.le_of_eq rfl) (hb hby at_138) (fun _ _ => ⟨rfl, e32, (by decide : 2 + 2 ≤ _), (by decide : 12 + 96 ≤ _)⟩)
      dsimp only [Pt.U, Pt.locs, Pt.cells, Pt.slots] at X36 l36 y36 z36 st36 hQ36
      subst y36 z36
      refine Go.tr st36 ?_
      obtain ⟨rfl, N36q, K36q, q36_0, q36_1⟩ := hQ36
      have N36 : Fr n0 L36 := by rw [l36]; exact Fr.app N30 N36q
      have O36 := O32.keep K36q (allS g_b32 all0)
      have K36 : Keep h0 T36.heap [] := K32.trans K36q (allS (Or.inr sz_b32) all0)
      have sf38 := Safe.keep K36q (sfS SF_b32 sf0) CR32.1 sf33
      have sf39 := Safe.keep K36q (sfS SF_b32 sf0) CR32.1 SF_b32
      have CR36 := CR32.trans (CHr.keep K36q (sfS SF_b32 sf0) CR32.1)
      show Go _ _ _ _ (T36.setTop (mkF m 141 #[lI p0, lI p1, lI p2, lI jb, lI jm, lI jc, lI jf, lU, lI (0 : Int32), lR w_C, lR ob_5, lI jp] [(.ref b32)]))
      refine Go.st (fun _ => XS.astore X36.here hx rfl (hb hby at_141) rfl rfl (l' := #[lI p0, lI p1, lI p2, lI jb, lI jm, lI jc, lI jf, lR b32, lI (0 : Int32), lR w_C, lR ob_5, lI jp]) rfl) ?_
      show Go _ _ _ _ (T36.setTop (mkF m 143 #[lI p0, lI p1, lI p2, lI jb, lI jm, lI jc, lI jf, lR b32, lI (0 : Int32), lR w_C, lR ob_5, lI jp] []))
      refine Go.st (fun _ => XS.goto X36.here hx rfl (pc0 := 143) (pc' := 231) rfl (hb hby at_143) (by decide) (by decide)) ?_
      show Go _ _ _ _ (T36.setTop (mkF m 231 #[lI p0, lI p1, lI p2, lI jb, lI jm, lI jc, lI jf, lR b32, lI (0 : Int32), lR w_C, lR ob_5, lI jp] []))
      refine Go.st (fun _ => XS.goto X36.here hx rfl (pc0 := 231) (pc' := 282) rfl (hb hby at_231) (by decide) (by decide)) ?_
      show Go _ _ _ _ (T36.setTop (mkF m 282 #[lI p0, lI p1, lI p2, lI jb, lI jm, lI jc, lI jf, lR b32, lI (0 : Int32), lR w_C, lR ob_5, lI jp] []))
      refine Go.st (fun _ => XS.aload X36.here hx rfl (hb hby at_282) rfl rfl) ?_
      show Go _ _ _ _ (T36.setTop (mkF m 284 #[lI p0, lI p1, lI p2, lI jb, lI jm, lI jc, lI jf, lR b32, lI (0 : Int32), lR w_C, lR ob_5, lI jp] [(.ref b32)]))
      have c41 := (c37.keep K36q (ninS (Nat.ne_of_lt (Nat.lt_of_lt_of_le V30'.lt (Nat.le_of_eq g32.symm))) nin0))
      obtain ⟨_, _, ⟨T40, L40, k40, n40⟩, -, X40, ⟨Lc40, hQ40, l40, y40, z40⟩, st40⟩ := Jvm.LawKit.callS X36 hx (y := (⟨"com/example/tidewall/tidewall/ledger/AccountClass", "byId", "(Ljava/lang/String;)Ljava/util/Optional;"⟩ : MethodName)) hown (mvT hZ (ow hw 38 rfl)) (mvT hZ (ow hw 39 rfl)) (mvT hZ (ow hw 7 rfl)) (mvT hZ (ow hw 40 rfl)) (by decide) (backOf (W := 0) (rm_byW l Z a0 hw [] w_C S_C X_C w_P S_P X_P w_V k_V S_V X_V V_V w_CS F_CS X_CS I_CS_coder w_CB k_CB F_CB V_CB w_PS F_PS X_PS I_PS_coder w_PB k_PB F_PB V_PB S_AD S_HI S_LO w_OE S_OE X_OE I_OE_value g_CS S_CS nz_CS g_SF S_SF r_SF b32 T36.heap n0 O36 q36_0 q36_1) hZ (ow hw 40 rfl) (ow hw 7 rfl) (by decide) (by decide)) (g := (mkF m 284 #[lI p0, lI p1, lI p2, lI jb, lI jm, lI jc, lI jf, lR b32, lI (0 : Int32), lR w_C, lR ob_5, lI jp] [(.ref b32)])) rfl (by rw [hml]; rfl) (argsL := [(.ref b32)]) (rest := []) (lenOf own_pd19 rfl) rfl (by show 2 * 0 + _ ≤ _; exact Nat.le_of_eq rfl) (hb hby at_284) (fun _ _ => ⟨rfl, rfl, (by decide : 4 + 1 ≤ _), (by decide : 108 + 2 ≤ _)⟩)
      dsimp only [Pt.U, Pt.locs, Pt.cells, Pt.slots] at X40 l40 y40 z40 st40 hQ40
      subst y40 z40
      refine Go.st st40 ?_
      obtain ⟨rfl, N40q, K40q⟩ := hQ40
      have N40 : Fr n0 L40 := by rw [l40]; exact Fr.app N36 N40q
      have O40 := O36.keep K40q all0
      have K40 : Keep h0 T40.heap [] := K36.trans K40q all0
      have sf42 := Safe.keep K40q sf0 CR36.1 sf38
      have sf43 := Safe.keep K40q sf0 CR36.1 sf39
      have CR40 := CR36.trans (CHr.keep K40q sf0 CR36.1)
      show Go _ _ _ _ (T40.setTop (mkF m 287 #[lI p0, lI p1, lI p2, lI jb, lI jm, lI jc, lI jf, lR b32, lI (0 : Int32), lR w_C, lR ob_5, lI jp] [(.ref w_OE)]))
      refine Go.st (fun _ => XS.astore X40.here hx rfl (hb hby at_287) rfl rfl (l' := #[lI p0, lI p1, lI p2, lI jb, lI jm, lI jc, lI jf, lR b32, lI (0 : Int32), lR w_C, lR w_OE, lI jp]) rfl) ?_
      show Go _ _ _ _ (T40.setTop (mkF m 289 #[lI p0, lI p1, lI p2, lI jb, lI jm, lI jc, lI jf, lR b32, lI (0 : Int32), lR w_C, lR w_OE, lI jp] []))
      refine Go.st (fun _ => XS.iload X40.here hx rfl (hb hby at_289) rfl) ?_
      show Go _ _ _ _ (T40.setTop (mkF m 291 #[lI p0, lI p1, lI p2, lI jb, lI jm, lI jc, lI jf, lR b32, lI (0 : Int32), lR w_C, lR w_OE, lI jp] [(.int 0)]))
      refine Go.st (fun _ => XS.ifYes X40.here hx rfl (pc0 := 291) (pc' := 318) rfl (hb hby at_291) rfl ((if0 _ _).trans (teq (by decide)).1) (by decide) (by decide)) ?_
      show Go _ _ _ _ (T40.setTop (mkF m 318 #[lI p0, lI p1, lI p2, lI jb, lI jm, lI jc, lI jf, lR b32, lI (0 : Int32), lR w_C, lR w_OE, lI jp] []))
      refine Go.st (fun _ => XS.aload X40.here hx rfl (hb hby at_318) rfl rfl) ?_
      show Go _ _ _ _ (T40.setTop (mkF m 320 #[lI p0, lI p1, lI p2, lI jb, lI jm, lI jc, lI jf, lR b32, lI (0 : Int32), lR w_C, lR w_OE, lI jp] [(.ref w_OE)]))
      obtain ⟨cq44, kq44, q44a, q44b, q44c⟩ := isOf hZ rfl (X_OE.ext O40.2)
      obtain ⟨_, _, ⟨T44, L44, k44, n44⟩, -, X44, ⟨Lc44, hQ44, l44, y44, z44⟩, st44⟩ := X40.virtualBack hx (y := (⟨"java/util/Optional", "isPresent", "()Z"⟩ : MethodName)) (z := (⟨"java/util/Optional", "isPresent", "()Z"⟩ : MethodName)) hown (mvT hZ (ow hw 86 rfl)) (mvT hZ (ow hw 87 rfl)) (notFace_of_selects (args := #[]) (mvT hZ (ow hw 89 rfl))) (mvT hZ (ow hw 89 rfl)) (mvT hZ (ow hw 88 rfl)) (by decide) (backOf (W := 0) (rm_ip0 l Z a0 hw [] w_OE T40.heap n0 O40 (I_OE_value.ext O40.2)) hZ (ow hw 90 rfl) (ow hw 71 rfl) (by decide) (by decide)) q44a q44c (g := (mkF m 320 #[lI p0, lI p1, lI p2, lI jb, lI jm, lI jc, lI jf, lR b32, lI (0 : Int32), lR w_C, lR w_OE, lI jp] [(.ref w_OE)])) rfl (by rw [hml]; rfl) (Steps.refl _) (argsL := []) (rest := []) (lenOf own_pd20 rfl) rfl (by show 2 * 0 + _ ≤ _; exact Nat.le_of_eq rfl) (hb hby at_320) (fun _ _ => ⟨rfl, rfl, (by decide : 5 + 0 ≤ _), (by decide : 110 + 0 ≤ _)⟩)
      dsimp only [Pt.U, Pt.locs, Pt.cells, Pt.slots] at X44 l44 y44 z44 st44 hQ44
      subst y44 z44
      refine Go.tr st44 ?_
      obtain ⟨rfl, N44q, e44⟩ := hQ44
      have N44 : Fr n0 L44 := by rw [l44]; exact Fr.app N40 N44q
      show Go _ _ _ _ (T44.setTop (mkF m 323 #[lI p0, lI p1, lI p2, lI jb, lI jm, lI jc, lI jf, lR b32, lI (0 : Int32), lR w_C, lR w_OE, lI jp] [(.int 0)]))
      refine Go.st (fun _ => XS.ifNo X44.here hx rfl (hb hby at_323) rfl ((if0 _ _).trans (teq (by decide)).2)) ?_
      show Go _ _ _ _ (T44.setTop (mkF m 326 #[lI p0, lI p1, lI p2, lI jb, lI jm, lI jc, lI jf, lR b32, lI (0 : Int32), lR w_C, lR w_OE, lI jp] []))
      refine Go.st (fun _ => XS.iconst X44.here hx rfl (hb hby at_326)) ?_
      show Go _ _ _ _ (T44.setTop (mkF m 327 #[lI p0, lI p1, lI p2, lI jb, lI jm, lI jc, lI jf, lR b32, lI (0 : Int32), lR w_C, lR w_OE, lI jp] [(.int 1)]))
      refine Go.st (fun _ => XS.goto X44.here hx rfl (pc0 := 327) (pc' := 331) rfl (hb hby at_327) (by decide) (by decide)) ?_
      show Go _ _ _ _ (T44.setTop (mkF m 331 #[lI p0, lI p1, lI p2, lI jb, lI jm, lI jc, lI jf, lR b32, lI (0 : Int32), lR w_C, lR w_OE, lI jp] [(.int 1)]))
      obtain ⟨fs, hr, hrun, hended, -, hW, hpair, hsame⟩ := X44.leaveW hS0 (by rw [e44]; exact (Nat.le_trans (Nat.le_trans (Nat.le_trans (Nat.le_trans (Nat.le_trans hk0 K4q.1) (Keep.of_wr W30).1) E32.1) K36q.1) K40q.1)) (v := some (.int 1)) (fun h => by rw [Bd.returns] at h; cases h)
      have hCRe := CR40.trans (CHv.at X44 hZ hEL CR40.1)
      refine ⟨_, ?_, hPend _ _ hrun hended ⟨_, _, rfl, ?_, ?_, ⟨_, rfl⟩, hW, hpair, hsame.mono (by decide) (by decide)⟩⟩
      ·exact retN X44 hx (t := .boolean) Bd.returns (by simp) (hb hby at_331) hr
      ·show Q_rm_law Z _ _ _ _ _ _ _ _ _ _ _ _ _ _ _ _ h0 n0 _ T44.heap _
       rw [e44]
       exact ⟨rfl, N44, K40⟩
      ·show CHr Z consts_1 s.vm s.heap T44.vm T44.heap
       rw [hh, e44]
       exact hCRe
     ·skip
      show Go _ _ _ _ (T9.setTop (mkF m 98 #[lI p0, lI p1, lI p2, lI jb, lI jm, lI jc, lI jf, lU, lU, lR w_C, lR ob_5, lU] []))
      refine Go.st (fun _ => XS.iloadN X9.here hx rfl (hb hby at_98) rfl) ?_
      show Go _ _ _ _ (T9.setTop (mkF m 99 #[lI p0, lI p1, lI p2, lI jb, lI jm, lI jc, lI jf, lU, lU, lR w_C, lR ob_5, lU] [(.int p1)]))
      refine Go.st (fun _ => X9.ldcInt hx hown (mvT hZ (ow hw 100 rfl)) (g := (mkF m 99 #[lI p0, lI p1, lI p2, lI jb, lI jm, lI jc, lI jf, lU, lU, lR w_C, lR ob_5, lU] [(.int p1)])) rfl (hb hby at_99) _) ?_
      show Go _ _ _ _ (T9.setTop (mkF m 101 #[lI p0, lI p1, lI p2, lI jb, lI jm, lI jc, lI jf, lU, lU, lR w_C, lR ob_5, lU] [(.int 2147483647), (.int p1)]))
      refine Go.st (fun _ => XS.iand X9.here hx rfl (hb hby at_101) rfl) ?_
      show Go _ _ _ _ (T9.setTop (mkF m 102 #[lI p0, lI p1, lI p2, lI jb, lI jm, lI jc, lI jf, lU, lU, lR w_C, lR ob_5, lU] [(.int (p1 &&& (2147483647 : Int32)))]))
      refine Go.st (fun _ => XS.aload X9.here hx rfl (hb hby at_102) rfl rfl) ?_
      show Go _ _ _ _ (T9.setTop (mkF m 104 #[lI p0, lI p1, lI p2, lI jb, lI jm, lI jc, lI jf, lU, lU, lR w_C, lR ob_5, lU] [(.ref ob_5), (.int (p1 &&& (2147483647 : Int32)))]))
      refine Go.st (fun _ => own_len X9 hx hZ e9 q4_1 (g := (mkF m 104 #[lI p0, lI p1, lI p2, lI jb, lI jm, lI jc, lI jf, lU, lU, lR w_C, lR ob_5, lU] [(.ref ob_5), (.int (p1 &&& (2147483647 : Int32)))])) rfl rfl (hb hby at_104) _) ?_
      show Go _ _ _ _ (T9.setTop (mkF m 105 #[lI p0, lI p1, lI p2, lI jb, lI jm, lI jc, lI jf, lU, lU, lR w_C, lR ob_5, lU] [(.int 8), (.int (p1 &&& (2147483647 : Int32)))]))
      refine Go.st (fun _ => iremM (g := (mkF m 105 #[lI p0, lI p1, lI p2, lI jb, lI jm, lI jc, lI jf, lU, lU, lR w_C, lR ob_5, lU] [(.int 8), (.int (p1 &&& (2147483647 : Int32)))])) X9 hx rfl (hb hby at_105) rfl (by decide)) ?_
      show Go _ _ _ _ (T9.setTop (mkF m 106 #[lI p0, lI p1, lI p2, lI jb, lI jm, lI jc, lI jf, lU, lU, lR w_C, lR ob_5, lU] [(.int ((p1 &&& (2147483647 : Int32)) % (8 : Int32)))]))
      have hjp0 := own_rem8 p1
      obtain ⟨jp, he_jp⟩ : ∃ z : Int32, z = ((p1 &&& (2147483647 : Int32)) % (8 : Int32)) := ⟨_, rfl⟩
      rw [← he_jp]
      show Go _ _ _ _ (T9.setTop (mkF m 106 #[lI p0, lI p1, lI p2, lI jb, lI jm, lI jc, lI jf, lU, lU, lR w_C, lR ob_5, lU] [(.int jp)]))
      have hjp : (¬ jp < 0 ∧ jp < 8) ∧ jp.toNatClampNeg < 8 := by rw [he_jp]; exact hjp0
      refine Go.st (fun _ => XS.istore X9.here hx rfl (hb hby at_106) rfl (l' := #[lI p0, lI p1, lI p2, lI jb, lI jm, lI jc, lI jf, lU, lU, lR w_C, lR ob_5, lI jp]) rfl) ?_
      show Go _ _ _ _ (T9.setTop (mkF m 108 #[lI p0, lI p1, lI p2, lI jb, lI jm, lI jc, lI jf, lU, lU, lR w_C, lR ob_5, lI jp] []))
      refine Go.st (fun _ => XS.aload X9.here hx rfl (hb hby at_108) rfl rfl) ?_
      refine Go.st (fun _ => XS.iload X9.here hx rfl (hb hby at_110) rfl) ?_
      show Go _ _ _ _ (T9.setTop (mkF m 112 #[lI p0, lI p1, lI p2, lI jb, lI jm, lI jc, lI jf, lU, lU, lR w_C, lR ob_5, lI jp] [(.int jp), (.ref ob_5)]))
      refine Go.st (fun _ => own_ldC X9 hx hZ e9 q4_1 (j := jp) (i := (jp).toNatClampNeg) (v := (.int (([99, 117, 115, 116, 111, 109, 101, 114] : List Int32).getD jp.toNatClampNeg 0))) hjp.1 rfl (own_getD_int ([99, 117, 115, 116, 111, 109, 101, 114] : List Int32) _) (g := (mkF m 112 #[lI p0, lI p1, lI p2, lI jb, lI jm, lI jc, lI jf, lU, lU, lR w_C, lR ob_5, lI jp] [(.int jp), (.ref ob_5)])) rfl rfl (hb hby at_112) _) ?_
      show Go _ _ _ _ (T9.setTop (mkF m 113 #[lI p0, lI p1, lI p2, lI jb, lI jm, lI jc, lI jf, lU, lU, lR w_C, lR ob_5, lI jp] [(.int (([99, 117, 115, 116, 111, 109, 101, 114] : List Int32).getD jp.toNatClampNeg 0))]))
      refine Go.st (fun _ => XS.iload X9.here hx rfl (hb hby at_113) rfl) ?_
      show Go _ _ _ _ (T9.setTop (mkF m 115 #[lI p0, lI p1, lI p2, lI jb, lI jm, lI jc, lI jf, lU, lU, lR w_C, lR ob_5, lI jp] [(.int jc), (.int (([99, 117, 115, 116, 111, 109, 101, 114] : List Int32).getD jp.toNatClampNeg 0))]))
      by_cases hc46 : (([99, 117, 115, 116, 111, 109, 101, 114] : List Int32).getD jp.toNatClampNeg 0) = jc
      ·skip
       have heq1 : jc = (([99, 117, 115, 116, 111, 109, 101, 114] : List Int32).getD jp.toNatClampNeg 0) := (hc46).symm
       refine Go.st (fun _ => XS.icmpNo X9.here hx rfl (hb hby at_115) rfl (teq hc46).2) ?_
       show Go _ _ _ _ (T9.setTop (mkF m 118 #[lI p0, lI p1, lI p2, lI jb, lI jm, lI jc, lI jf, lU, lU, lR w_C, lR ob_5, lI jp] []))
       refine Go.st (fun _ => XS.iconst X9.here hx rfl (hb hby at_118)) ?_
       show Go _ _ _ _ (T9.setTop (mkF m 119 #[lI p0, lI p1, lI p2, lI jb, lI jm, lI jc, lI jf, lU, lU, lR w_C, lR ob_5, lI jp] [(.int 1)]))
       refine Go.st (fun _ => XS.goto X9.here hx rfl (pc0 := 119) (pc' := 123) rfl (hb hby at_119) (by decide) (by decide)) ?_
       show Go _ _ _ _ (T9.setTop (mkF m 123 #[lI p0, lI p1, lI p2, lI jb, lI jm, lI jc, lI jf, lU, lU, lR w_C, lR ob_5, lI jp] [(.int 1)]))
       refine Go.st (fun _ => XS.istore X9.here hx rfl (hb hby at_123) rfl (l' := #[lI p0, lI p1, lI p2, lI jb, lI jm, lI jc, lI jf, lU, lI (1 : Int32), lR w_C, lR ob_5, lI jp]) rfl) ?_
       show Go _ _ _ _ (T9.setTop (mkF m 125 #[lI p0, lI p1, lI p2, lI jb, lI jm, lI jc, lI jf, lU, lI (1 : Int32), lR w_C, lR ob_5, lI jp] []))
       refine Go.st (fun _ => XS.aload X9.here hx rfl (hb hby at_125) rfl rfl) ?_
       refine Go.st (fun _ => XS.iload X9.here hx rfl (hb hby at_127) rfl) ?_
       refine Go.st (fun _ => XS.iload X9.here hx rfl (hb hby at_129) rfl) ?_
       show Go _ _ _ _ (T9.setTop (mkF m 131 #[lI p0, lI p1, lI p2, lI jb, lI jm, lI jc, lI jf, lU, lI (1 : Int32), lR w_C, lR ob_5, lI jp] [(.int jc), (.int jp), (.ref ob_5)]))
       obtain ⟨T47, h47, X47, e47, W47, V47, st47⟩ := own_stC X9 hx hZ e9 q4_1 (j := jp) (i := (jp).toNatClampNeg) hjp.1 rfl hjp.2 (g := (mkF m 131 #[lI p0, lI p1, lI p2, lI jb, lI jm, lI jc, lI jf, lU, lI (1 : Int32), lR w_C, lR ob_5, lI jp] [(.int jc), (.int jp), (.ref ob_5)])) rfl rfl (hb hby at_131)
       refine Go.st st47 ?_
       rw [own_nar16 hjc] at V47
       have sf48 := Safe.wr W47 sf7 CR4.1 sf7
       have CR47 := CR4.trans (CHr.wr W47 sf7 CR4.1)
       have K47 : Keep h0 h47 [] := K4.wr W47 (Or.inr sz_ob_5)
       have O47 := O4.wr W47 g_ob_5
       have N47 := Fr.snoc X47 N4 g_ob_5
       have V47' : Arv Z h47 ob_5 kb_6 .char (8 : Int32) ((([99, 117, 115, 116, 111, 109, 101, 114] : List Int32).set jp.toNatClampNeg jc).map Value.int) (.int 0) := own_arv_set V47
       show Go _ _ _ _ (T47.setTop (mkF m 132 #[lI p0, lI p1, lI p2, lI jb, lI jm, lI jc, lI jf, lU, lI (1 : Int32), lR w_C, lR ob_5, lI jp] []))
       obtain ⟨T49, h49, X49, e49, E49, A49, D49, -, st49⟩ := newO X47 hx hZ hown (ow hw 9 rfl) (ow hw 10 rfl) (ow hw 11 rfl) e47 (g := (mkF m 132 #[lI p0, lI p1, lI p2, lI jb, lI jm, lI jc, lI jf, lU, lI (1 : Int32), lR w_C, lR ob_5, lI jp] [])) rfl (hb hby at_132) (by decide) (by decide)
       obtain ⟨b49, g49⟩ : ∃ z, z = h47.size := ⟨_, rfl⟩
       rw [← g49] at A49 D49 st49
       refine Go.st st49 ?_
       have g_b49 : n0 ≤ b49 := Nat.le_trans (own_oldsz O47) (Nat.le_of_eq g49.symm)
       have sz_b49 : h0.size ≤ b49 := Nat.le_trans K47.1 (Nat.le_of_eq g49.symm)
       have K49 : Keep h0 h49 [] := K47.ext E49
       have O49 := O47.ext E49
       have sf50 := Safe.ext E49 CR47.1 sf48
       have SF_b49 : Safe Z consts_1 s.vm h49 b49 := Safe.ext E49 CR47.1 (Safe.new (Nat.le_of_eq g49.symm))
       have CR49 := CR47.trans (CHr.ext E49 CR47.1)
       have F51 : Fld Z h49 b49 "java/lang/String" "coder" "B" (.int 0) := D49 (Or.inr (ow hw 35 rfl)) (ty := .byte) (by decide)
       have F52 : Fld Z h49 b49 "java/lang/String" "value" "[B" .null := D49 (Or.inr (ow hw 37 rfl)) (ty := (.array .byte)) (by decide)
       show Go _ _ _ _ (T49.setTop (mkF m 135 #[lI p0, lI p1, lI p2, lI jb, lI jm, lI jc, lI jf, lU, lI (1 : Int32), lR w_C, lR ob_5, lI jp] [(.ref b49)]))
       refine Go.st (fun _ => XS.dup X49.here hx rfl (hb hby at_135) rfl rfl) ?_
       refine Go.st (fun _ => XS.aload X49.here hx rfl (hb hby at_136) rfl rfl) ?_
       show Go _ _ _ _ (T49.setTop (mkF m 138 #[lI p0, lI p1, lI p2, lI jb, lI jm, lI jc, lI jf, lU, lI (1 : Int32), lR w_C, lR ob_5, lI jp] [(.ref ob_5), (.ref b49), (.ref b49)]))
       have c54 := (V47'.ext E49)
       have hp53 : ∀ c ∈ (([99, 117, 115, 116, 111, 109, 101, 114] : List Int32).set jp.toNatClampNeg jc), ¬ c < 0 ∧ ¬ (255 : Int32) < c := by
        exact own_set_small (by decide) ⟨hjc.1, hcw⟩
       obtain ⟨_, _, ⟨T53, L53, k53, n53⟩, -, X53, ⟨Lc53, hQ53, l53, y53, z53⟩, st53⟩ := X49.specialBack hx (y := (⟨"java/lang/String", "<init>", "([C)V"⟩ : MethodName)) rfl hown (mvT hZ (ow hw 12 rfl)) (mvT hZ (ow hw 13 rfl)) (mvT hZ (ow hw 14 rfl)) (by decide) (StrChars.Road.backV (W := 1) hZ (fun d hd => hw d (own_wNew d hd)) (kI := 4) (ow hw 10 rfl) (cs := (([99, 117, 115, 116, 111, 109, 101, 114] : List Int32).set jp.toNatClampNeg jc)) (bs := ((([99, 117, 115, 116, 111, 109, 101, 114] : List Int32).set jp.toNatClampNeg jc)).map (fun c => c.toInt8.toInt32)) (n := 8) g_b49 (own_oldsz O49) A49 F52 F51 c54 (S_CS.ext O49.2) nz_CS (by rw [List.length_set]; rfl) rfl (by decide) (by decide) hp53 rfl (by decide) (by decide)) (g := (mkF m 138 #[lI p0, lI p1, lI p2, lI jb, lI jm, lI jc, lI jf, lU, lI (1 : Int32), lR w_C, lR ob_5, lI jp] [(.ref ob_5), (.ref b49), (.ref b49)])) rfl (by rw [hml]; rfl) (Steps.refl _) (a := b49) (argsL := [(.ref ob_5)]) (rest := [(.ref b49)]) (lenOf own_pd18 rfl) rfl (by show 2 * 0 + _ ≤ _; exact Nat.le_of_eq rfl) (hb hby at_138) (fun _ _ => ⟨rfl, e49, (by decide : 2 + 1 ≤ _), (by decide : 12 + 8 ≤ _)⟩)
       dsimp only [Pt.U, Pt.locs, Pt.cells, Pt.slots] at X53 l53 y53 z53 st53 hQ53
       subst y53 z53
       refine Go.tr st53 ?_
       obtain ⟨rfl, N53q, K53q, E53x, C53x, t53, kb53, gt53, szt53, net53, V53x, A53x⟩ := hQ53
       have N53 : Fr n0 L53 := by rw [l53]; exact Fr.app N47 N53q
       have O53 := O49.keep K53q (allS g_b49 all0)
       have K53 : Keep h0 T53.heap [] := K49.trans K53q (allS (Or.inr sz_b49) all0)
       have sf55 := Safe.keep K53q (sfS SF_b49 sf0) CR49.1 sf50
       have sf56 := Safe.keep K53q (sfS SF_b49 sf0) CR49.1 SF_b49
       have CR53 := CR49.trans (CHr.keep K53q (sfS SF_b49 sf0) CR49.1)
       have sz_t53 : h0.size ≤ t53 := Nat.le_trans K49.1 szt53
       show Go _ _ _ _ (T53.setTop (mkF m 141 #[lI p0, lI p1, lI p2, lI jb, lI jm, lI jc, lI jf, lU, lI (1 : Int32), lR w_C, lR ob_5, lI jp] [(.ref b49)]))
       refine Go.st (fun _ => XS.astore X53.here hx rfl (hb hby at_141) rfl rfl (l' := #[lI p0, lI p1, lI p2, lI jb, lI jm, lI jc, lI jf, lR b49, lI (1 : Int32), lR w_C, lR ob_5, lI jp]) rfl) ?_
       show Go _ _ _ _ (T53.setTop (mkF m 143 #[lI p0, lI p1, lI p2, lI jb, lI jm, lI jc, lI jf, lR b49, lI (1 : Int32), lR w_C, lR ob_5, lI jp] []))
       refine Go.st (fun _ => XS.goto X53.here hx rfl (pc0 := 143) (pc' := 231) rfl (hb hby at_143) (by decide) (by decide)) ?_
       show Go _ _ _ _ (T53.setTop (mkF m 231 #[lI p0, lI p1, lI p2, lI jb, lI jm, lI jc, lI jf, lR b49, lI (1 : Int32), lR w_C, lR ob_5, lI jp] []))
       refine Go.st (fun _ => XS.goto X53.here hx rfl (pc0 := 231) (pc' := 282) rfl (hb hby at_231) (by decide) (by decide)) ?_
       show Go _ _ _ _ (T53.setTop (mkF m 282 #[lI p0, lI p1, lI p2, lI jb, lI jm, lI jc, lI jf, lR b49, lI (1 : Int32), lR w_C, lR ob_5, lI jp] []))
       refine Go.st (fun _ => XS.aload X53.here hx rfl (hb hby at_282) rfl rfl) ?_
       show Go _ _ _ _ (T53.setTop (mkF m 284 #[lI p0, lI p1, lI p2, lI jb, lI jm, lI jc, lI jf, lR b49, lI (1 : Int32), lR w_C, lR ob_5, lI jp] [(.ref b49)]))
       have c58 := (c54.keep K53q (ninS (Nat.ne_of_lt (Nat.lt_of_lt_of_le V47'.lt (Nat.le_of_eq g49.symm))) nin0))
       obtain ⟨_, _, ⟨T57, L57, k57, n57⟩, -, X57, ⟨Lc57, hQ57, l57, y57, z57⟩, st57⟩ := Jvm.LawKit.callS X53 hx (y := (⟨"com/example/tidewall/tidewall/ledger/AccountClass", "byId", "(Ljava/lang/String;)Ljava/util/Optional;"⟩ : MethodName)) hown (mvT hZ (ow hw 38 rfl)) (mvT hZ (ow hw 39 rfl)) (mvT hZ (ow hw 7 rfl)) (mvT hZ (ow hw 40 rfl)) (by decide) (backOf (W := 0) (rm_byc l Z a0 hw [] w_C S_C X_C w_P S_P X_P w_V k_V S_V X_V V_V w_CS F_CS X_CS I_CS_coder w_CB k_CB F_CB V_CB w_PS F_PS X_PS I_PS_coder w_PB k_PB F_PB V_PB S_AD S_HI S_LO w_OE S_OE X_OE I_OE_value g_CS S_CS nz_CS g_SF S_SF r_SF b49 (([99, 117, 115, 116, 111, 109, 101, 114] : List Int32).set jp.toNatClampNeg jc) t53 kb53 T53.heap n0 O53 E53x C53x V53x (own_arvN (by rw [List.length_set]; rfl) A53x) hp53 (by rw [show (([99, 117, 115, 116, 111, 109, 101, 114] : List Int32).set jp.toNatClampNeg jc).length = 8 from (by rw [List.length_set]; rfl)]; decide) ((own_set_eq (xs := ([99, 117, 115, 116, 111, 109, 101, 114] : List Int32)) hjp.2).mpr heq1).symm) hZ (ow hw 40 rfl) (ow hw 7 rfl) (by decide) (by decide)) (g := (mkF m 284 #[lI p0, lI p1, lI p2, lI jb, lI jm, lI jc, lI jf, lR b49, lI (1 : Int32), lR w_C, lR ob_5, lI jp] [(.ref b49)])) rfl (by rw [hml]; rfl) (argsL := [(.ref b49)]) (rest := []) (lenOf own_pd19 rfl) rfl (by show 2 * 0 + _ ≤ _; exact Nat.le_of_eq rfl) (hb hby at_284) (fun _ _ => ⟨rfl, rfl, (by decide : 3 + 2 ≤ _), (by decide : 20 + 3 ≤ _)⟩)
       dsimp only [Pt.U, Pt.locs, Pt.cells, Pt.slots] at X57 l57 y57 z57 st57 hQ57
       subst y57 z57
       refine Go.st st57 ?_
       obtain ⟨ob_59, rfl, N57q, K57q, q57_0, q57_1, q57_2⟩ := hQ57
       have N57 : Fr n0 L57 := by rw [l57]; exact Fr.app N53 N57q
       have SN57_0 : Safe Z consts_1 s.vm T53.heap ob_59 := Safe.new q57_0
       have O57 := O53.keep K57q all0
       have K57 : Keep h0 T57.heap [] := K53.trans K57q all0
       have sf60 := Safe.keep K57q sf0 CR53.1 sf55
       have sf61 := Safe.keep K57q sf0 CR53.1 sf56
       have sf62 := Safe.keep K57q sf0 CR53.1 SN57_0
       have CR57 := CR53.trans (CHr.keep K57q sf0 CR53.1)
       have sz_ob_59 : h0.size ≤ ob_59 := Nat.le_trans K53.1 q57_0
       have g_ob_59 : n0 ≤ ob_59 := Nat.le_trans (own_oldsz X00) sz_ob_59
       show Go _ _ _ _ (T57.setTop (mkF m 287 #[lI p0, lI p1, lI p2, lI jb, lI jm, lI jc, lI jf, lR b49, lI (1 : Int32), lR w_C, lR ob_5, lI jp] [(.ref ob_59)]))
       refine Go.st (fun _ => XS.astore X57.here hx rfl (hb hby at_287) rfl rfl (l' := #[lI p0, lI p1, lI p2, lI jb, lI jm, lI jc, lI jf, lR b49, lI (1 : Int32), lR w_C, lR ob_59, lI jp]) rfl) ?_
       show Go _ _ _ _ (T57.setTop (mkF m 289 #[lI p0, lI p1, lI p2, lI jb, lI jm, lI jc, lI jf, lR b49, lI (1 : Int32), lR w_C, lR ob_59, lI jp] []))
       refine Go.st (fun _ => XS.iload X57.here hx rfl (hb hby at_289) rfl) ?_
       show Go _ _ _ _ (T57.setTop (mkF m 291 #[lI p0, lI p1, lI p2, lI jb, lI jm, lI jc, lI jf, lR b49, lI (1 : Int32), lR w_C, lR ob_59, lI jp] [(.int 1)]))
       refine Go.st (fun _ => XS.ifNo X57.here hx rfl (hb hby at_291) rfl ((if0 _ _).trans (feq (by decide)).1)) ?_
       show Go _ _ _ _ (T57.setTop (mkF m 294 #[lI p0, lI p1, lI p2, lI jb, lI jm, lI jc, lI jf, lR b49, lI (1 : Int32), lR w_C, lR ob_59, lI jp] []))
       refine Go.st (fun _ => XS.aload X57.here hx rfl (hb hby at_294) rfl rfl) ?_
       show Go _ _ _ _ (T57.setTop (mkF m 296 #[lI p0, lI p1, lI p2, lI jb, lI jm, lI jc, lI jf, lR b49, lI (1 : Int32), lR w_C, lR ob_59, lI jp] [(.ref ob_59)]))
       obtain ⟨cq63, kq63, q63a, q63b, q63c⟩ := isOf hZ rfl q57_1
       obtain ⟨_, _, ⟨T63, L63, k63, n63⟩, -, X63, ⟨Lc63, hQ63, l63, y63, z63⟩, st63⟩ := X57.virtualBack hx (y := (⟨"java/util/Optional", "isPresent", "()Z"⟩ : MethodName)) (z := (⟨"java/util/Optional", "isPresent", "()Z"⟩ : MethodName)) hown (mvT hZ (ow hw 86 rfl)) (mvT hZ (ow hw 87 rfl)) (notFace_of_selects (args := #[]) (mvT hZ (ow hw 89 rfl))) (mvT hZ (ow hw 89 rfl)) (mvT hZ (ow hw 88 rfl)) (by decide) (backOf (W := 0) (rm_ip1 l Z a0 hw [] ob_59 w_C T57.heap n0 O57 q57_2) hZ (ow hw 90 rfl) (ow hw 71 rfl) (by decide) (by decide)) q63a q63c (g := (mkF m 296 #[lI p0, lI p1, lI p2, lI jb, lI jm, lI jc, lI jf, lR b49, lI (1 : Int32), lR w_C, lR ob_59, lI jp] [(.ref ob_59)])) rfl (by rw [hml]; rfl) (Steps.refl _) (argsL := []) (rest := []) (lenOf own_pd20 rfl) rfl (by show 2 * 0 + _ ≤ _; exact Nat.le_of_eq rfl) (hb hby at_296) (fun _ _ => ⟨rfl, rfl, (by decide : 5 + 0 ≤ _), (by decide : 23 + 0 ≤ _)⟩)
       dsimp only [Pt.U, Pt.locs, Pt.cells, Pt.slots] at X63 l63 y63 z63 st63 hQ63
       subst y63 z63
       refine Go.tr st63 ?_
       obtain ⟨rfl, N63q, e63⟩ := hQ63
       have N63 : Fr n0 L63 := by rw [l63]; exact Fr.app N57 N63q
       show Go _ _ _ _ (T63.setTop (mkF m 299 #[lI p0, lI p1, lI p2, lI jb, lI jm, lI jc, lI jf, lR b49, lI (1 : Int32), lR w_C, lR ob_59, lI jp] [(.int 1)]))
       refine Go.st (fun _ => XS.ifNo X63.here hx rfl (hb hby at_299) rfl ((if0 _ _).trans (feq (by decide)).1)) ?_
       show Go _ _ _ _ (T63.setTop (mkF m 302 #[lI p0, lI p1, lI p2, lI jb, lI jm, lI jc, lI jf, lR b49, lI (1 : Int32), lR w_C, lR ob_59, lI jp] []))
       refine Go.st (fun _ => XS.aload X63.here hx rfl (hb hby at_302) rfl rfl) ?_
       show Go _ _ _ _ (T63.setTop (mkF m 304 #[lI p0, lI p1, lI p2, lI jb, lI jm, lI jc, lI jf, lR b49, lI (1 : Int32), lR w_C, lR ob_59, lI jp] [(.ref ob_59)]))
       obtain ⟨cq64, kq64, q64a, q64b, q64c⟩ := isOf hZ e63 q57_1
       obtain ⟨_, _, ⟨T64, L64, k64, n64⟩, -, X64, ⟨Lc64, hQ64, l64, y64, z64⟩, st64⟩ := X63.virtualBack hx (y := (⟨"java/util/Optional", "get", "()Ljava/lang/Object;"⟩ : MethodName)) (z := (⟨"java/util/Optional", "get", "()Ljava/lang/Object;"⟩ : MethodName)) hown (mvT hZ (ow hw 91 rfl)) (mvT hZ (ow hw 92 rfl)) (notFace_of_selects (args := #[]) (mvT hZ (ow hw 94 rfl))) (mvT hZ (ow hw 94 rfl)) (mvT hZ (ow hw 93 rfl)) (by decide) (backOf (W := 0) (rm_oget l Z a0 hw [] ob_59 w_C T57.heap n0 O57 q57_2) hZ (ow hw 95 rfl) (ow hw 71 rfl) (by decide) (by decide)) q64a q64c (g := (mkF m 304 #[lI p0, lI p1, lI p2, lI jb, lI jm, lI jc, lI jf, lR b49, lI (1 : Int32), lR w_C, lR ob_59, lI jp] [(.ref ob_59)])) rfl (by rw [hml]; rfl) (Steps.refl _) (argsL := []) (rest := []) (lenOf own_pd21 rfl) rfl (by show 2 * 0 + _ ≤ _; exact Nat.le_of_eq rfl) (hb hby at_304) (fun _ _ => ⟨rfl, e63, (by decide : 5 + 0 ≤ _), (by decide : 23 + 0 ≤ _)⟩)
       dsimp only [Pt.U, Pt.locs, Pt.cells, Pt.slots] at X64 l64 y64 z64 st64 hQ64
       subst y64 z64
       refine Go.tr st64 ?_
       obtain ⟨rfl, N64q, e64⟩ := hQ64
       have N64 : Fr n0 L64 := by rw [l64]; exact Fr.app N63 N64q
       show Go _ _ _ _ (T64.setTop (mkF m 307 #[lI p0, lI p1, lI p2, lI jb, lI jm, lI jc, lI jf, lR b49, lI (1 : Int32), lR w_C, lR ob_59, lI jp] [(.ref w_C)]))
       refine Go.st (fun _ => XS.aload X64.here hx rfl (hb hby at_307) rfl rfl) ?_
       show Go _ _ _ _ (T64.setTop (mkF m 309 #[lI p0, lI p1, lI p2, lI jb, lI jm, lI jc, lI jf, lR b49, lI (1 : Int32), lR w_C, lR ob_59, lI jp] [(.ref w_C), (.ref w_C)]))
       refine Go.st (fun _ => Jvm.RoadKit.acmp (g := (mkF m 309 #[lI p0, lI p1, lI p2, lI jb, lI jm, lI jc, lI jf, lR b49, lI (1 : Int32), lR w_C, lR ob_59, lI jp] [(.ref w_C), (.ref w_C)])) X64 hx rfl rfl rfl (pc0 := 309) (pc' := 312) (same := true) rfl (hb hby at_309) rfl (decide_eq_true rfl) (by decide) (by decide)) ?_
       show Go _ _ _ _ (T64.setTop (mkF m 312 #[lI p0, lI p1, lI p2, lI jb, lI jm, lI jc, lI jf, lR b49, lI (1 : Int32), lR w_C, lR ob_59, lI jp] []))
       refine Go.st (fun _ => XS.iconst X64.here hx rfl (hb hby at_312)) ?_
       show Go _ _ _ _ (T64.setTop (mkF m 313 #[lI p0, lI p1, lI p2, lI jb, lI jm, lI jc, lI jf, lR b49, lI (1 : Int32), lR w_C, lR ob_59, lI jp] [(.int 1)]))
       refine Go.st (fun _ => XS.goto X64.here hx rfl (pc0 := 313) (pc' := 317) rfl (hb hby at_313) (by decide) (by decide)) ?_
       show Go _ _ _ _ (T64.setTop (mkF m 317 #[lI p0, lI p1, lI p2, lI jb, lI jm, lI jc, lI jf, lR b49, lI (1 : Int32), lR w_C, lR ob_59, lI jp] [(.int 1)]))
       obtain ⟨fs, hr, hrun, hended, -, hW, hpair, hsame⟩ := X64.leaveW hS0 (by rw [e64]; exact (Nat.le_trans (Nat.le_trans (Nat.le_trans (Nat.le_trans (Nat.le_trans hk0 K4q.1) (Keep.of_wr W47).1) E49.1) K53q.1) K57q.1)) (v := some (.int 1)) (fun h => by rw [Bd.returns] at h; cases h)
       have hCRe := CR57.trans (CHv.at X64 hZ hEL CR57.1)
       refine ⟨_, ?_, hPend _ _ hrun hended ⟨_, _, rfl, ?_, ?_, ⟨_, rfl⟩, hW, hpair, hsame.mono (by decide) (by decide)⟩⟩
       ·exact retN X64 hx (t := .boolean) Bd.returns (by simp) (hb hby at_317) hr
       ·show Q_rm_law Z _ _ _ _ _ _ _ _ _ _ _ _ _ _ _ _ h0 n0 _ T64.heap _
        rw [e64]
        exact ⟨rfl, N64, K57⟩
       ·show CHr Z consts_1 s.vm s.heap T64.vm T64.heap
        rw [hh, e64]
        exact hCRe
      ·skip
       have hne1 : ¬ (jc = (([99, 117, 115, 116, 111, 109, 101, 114] : List Int32).getD jp.toNatClampNeg 0)) := fun q => hc46 q.symm
       refine Go.st (fun _ => XS.icmpYes X9.here hx rfl (pc0 := 115) (pc' := 122) rfl (hb hby at_115) rfl (feq hc46).2 (by decide) (by decide)) ?_
       show Go _ _ _ _ (T9.setTop (mkF m 122 #[lI p0, lI p1, lI p2, lI jb, lI jm, lI jc, lI jf, lU, lU, lR w_C, lR ob_5, lI jp] []))
       refine Go.st (fun _ => XS.iconst X9.here hx rfl (hb hby at_122)) ?_
       show Go _ _ _ _ (T9.setTop (mkF m 123 #[lI p0, lI p1, lI p2, lI jb, lI jm, lI jc, lI jf, lU, lU, lR w_C, lR ob_5, lI jp] [(.int 0)]))
       refine Go.st (fun _ => XS.istore X9.here hx rfl (hb hby at_123) rfl (l' := #[lI p0, lI p1, lI p2, lI jb, lI jm, lI jc, lI jf, lU, lI (0 : Int32), lR w_C, lR ob_5, lI jp]) rfl) ?_
       show Go _ _ _ _ (T9.setTop (mkF m 125 #[lI p0, lI p1, lI p2, lI jb, lI jm, lI jc, lI jf, lU, lI (0 : Int32), lR w_C, lR ob_5, lI jp] []))
       refine Go.st (fun _ => XS.aload X9.here hx rfl (hb hby at_125) rfl rfl) ?_
       refine Go.st (fun _ => XS.iload X9.here hx rfl (hb hby at_127) rfl) ?_
       refine Go.st (fun _ => XS.iload X9.here hx rfl (hb hby at_129) rfl) ?_
       show Go _ _ _ _ (T9.setTop (mkF m 131 #[lI p0, lI p1, lI p2, lI jb, lI jm, lI jc, lI jf, lU, lI (0 : Int32), lR w_C, lR ob_5, lI jp] [(.int jc), (.int jp), (.ref ob_5)]))
       obtain ⟨T65, h65, X65, e65, W65, V65, st65⟩ := own_stC X9 hx hZ e9 q4_1 (j := jp) (i := (jp).toNatClampNeg) hjp.1 rfl hjp.2 (g := (mkF m 131 #[lI p0, lI p1, lI p2, lI jb, lI jm, lI jc, lI jf, lU, lI (0 : Int32), lR w_C, lR ob_5, lI jp] [(.int jc), (.int jp), (.ref ob_5)])) rfl rfl (hb hby at_131)
       refine Go.st st65 ?_
       rw [own_nar16 hjc] at V65
       have sf66 := Safe.wr W65 sf7 CR4.1 sf7
       have CR65 := CR4.trans (CHr.wr W65 sf7 CR4.1)
       have K65 : Keep h0 h65 [] := K4.wr W65 (Or.inr sz_ob_5)
       have O65 := O4.wr W65 g_ob_5
       have N65 := Fr.snoc X65 N4 g_ob_5
       have V65' : Arv Z h65 ob_5 kb_6 .char (8 : Int32) ((([99, 117, 115, 116, 111, 109, 101, 114] : List Int32).set jp.toNatClampNeg jc).map Value.int) (.int 0) := own_arv_set V65
       show Go _ _ _ _ (T65.setTop (mkF m 132 #[lI p0, lI p1, lI p2, lI jb, lI jm, lI jc, lI jf, lU, lI (0 : Int32), lR w_C, lR ob_5, lI jp] []))
       obtain ⟨T67, h67, X67, e67, E67, A67, D67, -, st67⟩ := newO X65 hx hZ hown (ow hw 9 rfl) (ow hw 10 rfl) (ow hw 11 rfl) e65 (g := (mkF m 132 #[lI p0, lI p1, lI p2, lI jb, lI jm, lI jc, lI jf, lU, lI (0 : Int32), lR w_C, lR ob_5, lI jp] [])) rfl (hb hby at_132) (by decide) (by decide)
       obtain ⟨b67, g67⟩ : ∃ z, z = h65.size := ⟨_, rfl⟩
       rw [← g67] at A67 D67 st67
       refine Go.st st67 ?_
       have g_b67 : n0 ≤ b67 := Nat.le_trans (own_oldsz O65) (Nat.le_of_eq g67.symm)
       have sz_b67 : h0.size ≤ b67 := Nat.le_trans K65.1 (Nat.le_of_eq g67.symm)
       have K67 : Keep h0 h67 [] := K65.ext E67
       have O67 := O65.ext E67
       have sf68 := Safe.ext E67 CR65.1 sf66
       have SF_b67 : Safe Z consts_1 s.vm h67 b67 := Safe.ext E67 CR65.1 (Safe.new (Nat.le_of_eq g67.symm))
       have CR67 := CR65.trans (CHr.ext E67 CR65.1)
       have F69 : Fld Z h67 b67 "java/lang/String" "coder" "B" (.int 0) := D67 (Or.inr (ow hw 35 rfl)) (ty := .byte) (by decide)
       have F70 : Fld Z h67 b67 "java/lang/String" "value" "[B" .null := D67 (Or.inr (ow hw 37 rfl)) (ty := (.array .byte)) (by decide)
       show Go _ _ _ _ (T67.setTop (mkF m 135 #[lI p0, lI p1, lI p2, lI jb, lI jm, lI jc, lI jf, lU, lI (0 : Int32), lR w_C, lR ob_5, lI jp] [(.ref b67)]))
       refine Go.st (fun _ => XS.dup X67.here hx rfl (hb hby at_135) rfl rfl) ?_
       refine Go.st (fun _ => XS.aload X67.here hx rfl (hb hby at_136) rfl rfl) ?_
       show Go _ _ _ _ (T67.setTop (mkF m 138 #[lI p0, lI p1, lI p2, lI jb, lI jm, lI jc, lI jf, lU, lI (0 : Int32), lR w_C, lR ob_5, lI jp] [(.ref ob_5), (.ref b67), (.ref b67)]))
       have c72 := (V65'.ext E67)
       have hp71 : ∀ c ∈ (([99, 117, 115, 116, 111, 109, 101, 114] : List Int32).set jp.toNatClampNeg jc), ¬ c < 0 ∧ ¬ (255 : Int32) < c := by
        exact own_set_small (by decide) ⟨hjc.1, hcw⟩
       obtain ⟨_, _, ⟨T71, L71, k71, n71⟩, -, X71, ⟨Lc71, hQ71, l71, y71, z71⟩, st71⟩ := X67.specialBack hx (y := (⟨"java/lang/String", "<init>", "([C)V"⟩ : MethodName)) rfl hown (mvT hZ (ow hw 12 rfl)) (mvT hZ (ow hw 13 rfl)) (mvT hZ (ow hw 14 rfl)) (by decide) (StrChars.Road.backV (W := 1) hZ (fun d hd => hw d (own_wNew d hd)) (kI := 4) (ow hw 10 rfl) (cs := (([99, 117, 115, 116, 111, 109, 101, 114] : List Int32).set jp.toNatClampNeg jc)) (bs := ((([99, 117, 115, 116, 111, 109, 101, 114] : List Int32).set jp.toNatClampNeg jc)).map (fun c => c.toInt8.toInt32)) (n := 8) g_b67 (own_oldsz O67) A67 F70 F69 c72 (S_CS.ext O67.2) nz_CS (by rw [List.length_set]; rfl) rfl (by decide) (by decide) hp71 rfl (by decide) (by decide)) (g := (mkF m 138 #[lI p0, lI p1, lI p2, lI jb, lI jm, lI jc, lI jf, lU, lI (0 : Int32), lR w_C, lR ob_5, lI jp] [(.ref ob_5), (.ref b67), (.ref b67)])) rfl (by rw [hml]; rfl) (Steps.refl _) (a := b67) (argsL := [(.ref ob_5)]) (rest := [(.ref b67)]) (lenOf own_pd18 rfl) rfl (by show 2 * 0 + _ ≤ _; exact Nat.le_of_eq rfl) (hb hby at_138) (fun _ _ => ⟨rfl, e67, (by decide : 2 + 1 ≤ _), (by decide : 12 + 8 ≤ _)⟩)
       dsimp only [Pt.U, Pt.locs, Pt.cells, Pt.slots] at X71 l71 y71 z71 st71 hQ71
       subst y71 z71
       refine Go.tr st71 ?_
       obtain ⟨rfl, N71q, K71q, E71x, C71x, t71, kb71, gt71, szt71, net71, V71x, A71x⟩ := hQ71
       have N71 : Fr n0 L71 := by rw [l71]; exact Fr.app N65 N71q
       have O71 := O67.keep K71q (allS g_b67 all0)
       have K71 : Keep h0 T71.heap [] := K67.trans K71q (allS (Or.inr sz_b67) all0)
       have sf73 := Safe.keep K71q (sfS SF_b67 sf0) CR67.1 sf68
       have sf74 := Safe.keep K71q (sfS SF_b67 sf0) CR67.1 SF_b67
       have CR71 := CR67.trans (CHr.keep K71q (sfS SF_b67 sf0) CR67.1)
       have sz_t71 : h0.size ≤ t71 := Nat.le_trans K67.1 szt71
       show Go _ _ _ _ (T71.setTop (mkF m 141 #[lI p0, lI p1, lI p2, lI jb, lI jm, lI jc, lI jf, lU, lI (0 : Int32), lR w_C, lR ob_5, lI jp] [(.ref b67)]))
       refine Go.st (fun _ => XS.astore X71.here hx rfl (hb hby at_141) rfl rfl (l' := #[lI p0, lI p1, lI p2, lI jb, lI jm, lI jc, lI jf, lR b67, lI (0 : Int32), lR w_C, lR ob_5, lI jp]) rfl) ?_
       show Go _ _ _ _ (T71.setTop (mkF m 143 #[lI p0, lI p1, lI p2, lI jb, lI jm, lI jc, lI jf, lR b67, lI (0 : Int32), lR w_C, lR ob_5, lI jp] []))
       refine Go.st (fun _ => XS.goto X71.here hx rfl (pc0 := 143) (pc' := 231) rfl (hb hby at_143) (by decide) (by decide)) ?_
       show Go _ _ _ _ (T71.setTop (mkF m 231 #[lI p0, lI p1, lI p2, lI jb, lI jm, lI jc, lI jf, lR b67, lI (0 : Int32), lR w_C, lR ob_5, lI jp] []))
       refine Go.st (fun _ => XS.goto X71.here hx rfl (pc0 := 231) (pc' := 282) rfl (hb hby at_231) (by decide) (by decide)) ?_
       show Go _ _ _ _ (T71.setTop (mkF m 282 #[lI p0, lI p1, lI p2, lI jb, lI jm, lI jc, lI jf, lR b67, lI (0 : Int32), lR w_C, lR ob_5, lI jp] []))
       refine Go.st (fun _ => XS.aload X71.here hx rfl (hb hby at_282) rfl rfl) ?_
       show Go _ _ _ _ (T71.setTop (mkF m 284 #[lI p0, lI p1, lI p2, lI jb, lI jm, lI jc, lI jf, lR b67, lI (0 : Int32), lR w_C, lR ob_5, lI jp] [(.ref b67)]))
       have c76 := (c72.keep K71q (ninS (Nat.ne_of_lt (Nat.lt_of_lt_of_le V65'.lt (Nat.le_of_eq g67.symm))) nin0))
       obtain ⟨_, _, ⟨T75, L75, k75, n75⟩, -, X75, ⟨Lc75, hQ75, l75, y75, z75⟩, st75⟩ := Jvm.LawKit.callS X71 hx (y := (⟨"com/example/tidewall/tidewall/ledger/AccountClass", "byId", "(Ljava/lang/String;)Ljava/util/Optional;"⟩ : MethodName)) hown (mvT hZ (ow hw 38 rfl)) (mvT hZ (ow hw 39 rfl)) (mvT hZ (ow hw 7 rfl)) (mvT hZ (ow hw 40 rfl)) (by decide) (backOf (W := 0) (rm_byo l Z a0 hw [] w_C S_C X_C w_P S_P X_P w_V k_V S_V X_V V_V w_CS F_CS X_CS I_CS_coder w_CB k_CB F_CB V_CB w_PS F_PS X_PS I_PS_coder w_PB k_PB F_PB V_PB S_AD S_HI S_LO w_OE S_OE X_OE I_OE_value g_CS S_CS nz_CS g_SF S_SF r_SF b67 (([99, 117, 115, 116, 111, 109, 101, 114] : List Int32).set jp.toNatClampNeg jc) t71 kb71 T71.heap n0 O71 E71x C71x V71x (own_arvN (by rw [List.length_set]; rfl) A71x) hp71 (by rw [show (([99, 117, 115, 116, 111, 109, 101, 114] : List Int32).set jp.toNatClampNeg jc).length = 8 from (by rw [List.length_set]; rfl)]; decide) (fun q => hne1 ((own_set_eq (xs := ([99, 117, 115, 116, 111, 109, 101, 114] : List Int32)) hjp.2).mp q.symm)) (own_lenne (by rw [List.length_set]; decide))) hZ (ow hw 40 rfl) (ow hw 7 rfl) (by decide) (by decide)) (g := (mkF m 284 #[lI p0, lI p1, lI p2, lI jb, lI jm, lI jc, lI jf, lR b67, lI (0 : Int32), lR w_C, lR ob_5, lI jp] [(.ref b67)])) rfl (by rw [hml]; rfl) (argsL := [(.ref b67)]) (rest := []) (lenOf own_pd19 rfl) rfl (by show 2 * 0 + _ ≤ _; exact Nat.le_of_eq rfl) (hb hby at_284) (fun _ _ => ⟨rfl, rfl, (by decide : 3 + 1 ≤ _), (by decide : 20 + 2 ≤ _)⟩)
       dsimp only [Pt.U, Pt.locs, Pt.cells, Pt.slots] at X75 l75 y75 z75 st75 hQ75
       subst y75 z75
       refine Go.st st75 ?_
       obtain ⟨rfl, N75q, K75q⟩ := hQ75
       have N75 : Fr n0 L75 := by rw [l75]; exact Fr.app N71 N75q
       have O75 := O71.keep K75q all0
       have K75 : Keep h0 T75.heap [] := K71.trans K75q all0
       have sf77 := Safe.keep K75q sf0 CR71.1 sf73
       have sf78 := Safe.keep K75q sf0 CR71.1 sf74
       have CR75 := CR71.trans (CHr.keep K75q sf0 CR71.1)
       show Go _ _ _ _ (T75.setTop (mkF m 287 #[lI p0, lI p1, lI p2, lI jb, lI jm, lI jc, lI jf, lR b67, lI (0 : Int32), lR w_C, lR ob_5, lI jp] [(.ref w_OE)]))
       refine Go.st (fun _ => XS.astore X75.here hx rfl (hb hby at_287) rfl rfl (l' := #[lI p0, lI p1, lI p2, lI jb, lI jm, lI jc, lI jf, lR b67, lI (0 : Int32), lR w_C, lR w_OE, lI jp]) rfl) ?_
       show Go _ _ _ _ (T75.setTop (mkF m 289 #[lI p0, lI p1, lI p2, lI jb, lI jm, lI jc, lI jf, lR b67, lI (0 : Int32), lR w_C, lR w_OE, lI jp] []))
       refine Go.st (fun _ => XS.iload X75.here hx rfl (hb hby at_289) rfl) ?_
       show Go _ _ _ _ (T75.setTop (mkF m 291 #[lI p0, lI p1, lI p2, lI jb, lI jm, lI jc, lI jf, lR b67, lI (0 : Int32), lR w_C, lR w_OE, lI jp] [(.int 0)]))
       refine Go.st (fun _ => XS.ifYes X75.here hx rfl (pc0 := 291) (pc' := 318) rfl (hb hby at_291) rfl ((if0 _ _).trans (teq (by decide)).1) (by decide) (by decide)) ?_
       show Go _ _ _ _ (T75.setTop (mkF m 318 #[lI p0, lI p1, lI p2, lI jb, lI jm, lI jc, lI jf, lR b67, lI (0 : Int32), lR w_C, lR w_OE, lI jp] []))
       refine Go.st (fun _ => XS.aload X75.here hx rfl (hb hby at_318) rfl rfl) ?_
       show Go _ _ _ _ (T75.setTop (mkF m 320 #[lI p0, lI p1, lI p2, lI jb, lI jm, lI jc, lI jf, lR b67, lI (0 : Int32), lR w_C, lR w_OE, lI jp] [(.ref w_OE)]))
       obtain ⟨cq79, kq79, q79a, q79b, q79c⟩ := isOf hZ rfl (X_OE.ext O75.2)
       obtain ⟨_, _, ⟨T79, L79, k79, n79⟩, -, X79, ⟨Lc79, hQ79, l79, y79, z79⟩, st79⟩ := X75.virtualBack hx (y := (⟨"java/util/Optional", "isPresent", "()Z"⟩ : MethodName)) (z := (⟨"java/util/Optional", "isPresent", "()Z"⟩ : MethodName)) hown (mvT hZ (ow hw 86 rfl)) (mvT hZ (ow hw 87 rfl)) (notFace_of_selects (args := #[]) (mvT hZ (ow hw 89 rfl))) (mvT hZ (ow hw 89 rfl)) (mvT hZ (ow hw 88 rfl)) (by decide) (backOf (W := 0) (rm_ip0 l Z a0 hw [] w_OE T75.heap n0 O75 (I_OE_value.ext O75.2)) hZ (ow hw 90 rfl) (ow hw 71 rfl) (by decide) (by decide)) q79a q79c (g := (mkF m 320 #[lI p0, lI p1, lI p2, lI jb, lI jm, lI jc, lI jf, lR b67, lI (0 : Int32), lR w_C, lR w_OE, lI jp] [(.ref w_OE)])) rfl (by rw [hml]; rfl) (Steps.refl _) (argsL := []) (rest := []) (lenOf own_pd20 rfl) rfl (by show 2 * 0 + _ ≤ _; exact Nat.le_of_eq rfl) (hb hby at_320) (fun _ _ => ⟨rfl, rfl, (by decide : 4 + 0 ≤ _), (by decide : 22 + 0 ≤ _)⟩)
       dsimp only [Pt.U, Pt.locs, Pt.cells, Pt.slots] at X79 l79 y79 z79 st79 hQ79
       subst y79 z79
       refine Go.tr st79 ?_
       obtain ⟨rfl, N79q, e79⟩ := hQ79
       have N79 : Fr n0 L79 := by rw [l79]; exact Fr.app N75 N79q
       show Go _ _ _ _ (T79.setTop (mkF m 323 #[lI p0, lI p1, lI p2, lI jb, lI jm, lI jc, lI jf, lR b67, lI (0 : Int32), lR w_C, lR w_OE, lI jp] [(.int 0)]))
       refine Go.st (fun _ => XS.ifNo X79.here hx rfl (hb hby at_323) rfl ((if0 _ _).trans (teq (by decide)).2)) ?_
       show Go _ _ _ _ (T79.setTop (mkF m 326 #[lI p0, lI p1, lI p2, lI jb, lI jm, lI jc, lI jf, lR b67, lI (0 : Int32), lR w_C, lR w_OE, lI jp] []))
       refine Go.st (fun _ => XS.iconst X79.here hx rfl (hb hby at_326)) ?_
       show Go _ _ _ _ (T79.setTop (mkF m 327 #[lI p0, lI p1, lI p2, lI jb, lI jm, lI jc, lI jf, lR b67, lI (0 : Int32), lR w_C, lR w_OE, lI jp] [(.int 1)]))
       refine Go.st (fun _ => XS.goto X79.here hx rfl (pc0 := 327) (pc' := 331) rfl (hb hby at_327) (by decide) (by decide)) ?_
       show Go _ _ _ _ (T79.setTop (mkF m 331 #[lI p0, lI p1, lI p2, lI jb, lI jm, lI jc, lI jf, lR b67, lI (0 : Int32), lR w_C, lR w_OE, lI jp] [(.int 1)]))
       obtain ⟨fs, hr, hrun, hended, -, hW, hpair, hsame⟩ := X79.leaveW hS0 (by rw [e79]; exact (Nat.le_trans (Nat.le_trans (Nat.le_trans (Nat.le_trans (Nat.le_trans hk0 K4q.1) (Keep.of_wr W65).1) E67.1) K71q.1) K75q.1)) (v := some (.int 1)) (fun h => by rw [Bd.returns] at h; cases h)
       have hCRe := CR75.trans (CHv.at X79 hZ hEL CR75.1)
       refine ⟨_, ?_, hPend _ _ hrun hended ⟨_, _, rfl, ?_, ?_, ⟨_, rfl⟩, hW, hpair, hsame.mono (by decide) (by decide)⟩⟩
       ·exact retN X79 hx (t := .boolean) Bd.returns (by simp) (hb hby at_331) hr
       ·show Q_rm_law Z _ _ _ _ _ _ _ _ _ _ _ _ _ _ _ _ h0 n0 _ T79.heap _
        rw [e79]
        exact ⟨rfl, N79, K75⟩
       ·show CHr Z consts_1 s.vm s.heap T79.vm T79.heap
        rw [hh, e79]
        exact hCRe
    ·skip
     refine Go.st (fun _ => XS.icmpYes X9.here hx rfl (pc0 := 95) (pc' := 146) rfl (hb hby at_95) rfl (feq hc27).2 (by decide) (by decide)) ?_
     show Go _ _ _ _ (T9.setTop (mkF m 146 #[lI p0, lI p1, lI p2, lI jb, lI jm, lI jc, lI jf, lU, lU, lR w_C, lR ob_5, lU] []))
     refine Go.st (fun _ => XS.iload X9.here hx rfl (hb hby at_146) rfl) ?_
     refine Go.st (fun _ => XS.iconst X9.here hx rfl (hb hby at_148)) ?_
     show Go _ _ _ _ (T9.setTop (mkF m 149 #[lI p0, lI p1, lI p2, lI jb, lI jm, lI jc, lI jf, lU, lU, lR w_C, lR ob_5, lU] [(.int 2), (.int jm)]))
     by_cases hc80 : jm = (2 : Int32)
     ·skip
      refine Go.st (fun _ => XS.icmpNo X9.here hx rfl (hb hby at_149) rfl (teq hc80).2) ?_
      show Go _ _ _ _ (T9.setTop (mkF m 152 #[lI p0, lI p1, lI p2, lI jb, lI jm, lI jc, lI jf, lU, lU, lR w_C, lR ob_5, lU] []))
      refine Go.st (fun _ => XS.iloadN X9.here hx rfl (hb hby at_152) rfl) ?_
      show Go _ _ _ _ (T9.setTop (mkF m 153 #[lI p0, lI p1, lI p2, lI jb, lI jm, lI jc, lI jf, lU, lU, lR w_C, lR ob_5, lU] [(.int jb)]))
      have hb81 : jb = (0 : Int32) := by assumption
      refine Go.st (fun _ => XS.ifNo X9.here hx rfl (hb hby at_153) rfl ((if0 _ _).trans (teq hb81).2)) ?_
      show Go _ _ _ _ (T9.setTop (mkF m 156 #[lI p0, lI p1, lI p2, lI jb, lI jm, lI jc, lI jf, lU, lU, lR w_C, lR ob_5, lU] []))
      obtain ⟨T82, h82, X82, e82, E82, A82, D82, -, st82⟩ := newO X9 hx hZ hown (ow hw 9 rfl) (ow hw 10 rfl) (ow hw 11 rfl) e9 (g := (mkF m 156 #[lI p0, lI p1, lI p2, lI jb, lI jm, lI jc, lI jf, lU, lU, lR w_C, lR ob_5, lU] [])) rfl (hb hby at_156) (by decide) (by decide)
      obtain ⟨b82, g82⟩ : ∃ z, z = T4.heap.size := ⟨_, rfl⟩
      rw [← g82] at A82 D82 st82
      refine Go.st st82 ?_
      have g_b82 : n0 ≤ b82 := Nat.le_trans (own_oldsz O4) (Nat.le_of_eq g82.symm)
      have sz_b82 : h0.size ≤ b82 := Nat.le_trans K4.1 (Nat.le_of_eq g82.symm)
      have K82 : Keep h0 h82 [] := K4.ext E82
      have O82 := O4.ext E82
      have sf83 := Safe.ext E82 CR4.1 sf7
      have SF_b82 : Safe Z consts_1 s.vm h82 b82 := Safe.ext E82 CR4.1 (Safe.new (Nat.le_of_eq g82.symm))
      have CR82 := CR4.trans (CHr.ext E82 CR4.1)
      have F84 : Fld Z h82 b82 "java/lang/String" "coder" "B" (.int 0) := D82 (Or.inr (ow hw 35 rfl)) (ty := .byte) (by decide)
      have F85 : Fld Z h82 b82 "java/lang/String" "value" "[B" .null := D82 (Or.inr (ow hw 37 rfl)) (ty := (.array .byte)) (by decide)
      show Go _ _ _ _ (T82.setTop (mkF m 159 #[lI p0, lI p1, lI p2, lI jb, lI jm, lI jc, lI jf, lU, lU, lR w_C, lR ob_5, lU] [(.ref b82)]))
      refine Go.st (fun _ => XS.dup X82.here hx rfl (hb hby at_159) rfl rfl) ?_
      refine Go.st (fun _ => XS.iload X82.here hx rfl (hb hby at_160) rfl) ?_
      show Go _ _ _ _ (T82.setTop (mkF m 162 #[lI p0, lI p1, lI p2, lI jb, lI jm, lI jc, lI jf, lU, lU, lR w_C, lR ob_5, lU] [(.int jf), (.ref b82), (.ref b82)]))
      have c87 := (q4_1.ext E82)
      obtain ⟨_, _, ⟨T86, L86, k86, n86⟩, -, X86, ⟨Lc86, hQ86, l86, y86, z86⟩, st86⟩ := Jvm.LawKit.callS X82 hx (y := (⟨"com/example/tidewall/tidewall/ledger/AccountClassByIdPinLaw", "custShort", "(Z)[C"⟩ : MethodName)) hown (mvT hZ (ow hw 123 rfl)) (mvT hZ (ow hw 124 rfl)) (mvT hZ (ow hw 3 rfl)) (mvT hZ (ow hw 125 rfl)) (by decide) (backOf (W := 2) (rm_mcs l Z a0 hw [] jf h82 n0 O82 ) hZ (ow hw 125 rfl) (ow hw 3 rfl) (by decide) (by decide)) (g := (mkF m 162 #[lI p0, lI p1, lI p2, lI jb, lI jm, lI jc, lI jf, lU, lU, lR w_C, lR ob_5, lU] [(.int jf), (.ref b82), (.ref b82)])) rfl (by rw [hml]; rfl) (argsL := [(.int jf)]) (rest := [(.ref b82), (.ref b82)]) (lenOf own_pd22 rfl) rfl (by show 2 * 0 + _ ≤ _; exact Nat.le_of_eq rfl) (hb hby at_162) (fun _ _ => ⟨rfl, e82, (by decide : 2 + 1 ≤ _), (by decide : 12 + 7 ≤ _)⟩)
      dsimp only [Pt.U, Pt.locs, Pt.cells, Pt.slots] at X86 l86 y86 z86 st86 hQ86
      subst y86 z86
      refine Go.st st86 ?_
      obtain ⟨ob_88, kb_89, xs_90, rfl, N86q, K86q, q86_0, q86_1, q86_2⟩ := hQ86
      have N86 : Fr n0 L86 := by rw [l86]; exact Fr.app N4 N86q
      have SN86_0 : Safe Z consts_1 s.vm h82 ob_88 := Safe.new q86_0
      have O86 := O82.keep K86q all0
      have K86 : Keep h0 T86.heap [] := K82.trans K86q all0
      have sf91 := Safe.keep K86q sf0 CR82.1 sf83
      have sf92 := Safe.keep K86q sf0 CR82.1 SF_b82
      have sf93 := Safe.keep K86q sf0 CR82.1 SN86_0
      have CR86 := CR82.trans (CHr.keep K86q sf0 CR82.1)
      have sz_ob_88 : h0.size ≤ ob_88 := Nat.le_trans K82.1 q86_0
      have g_ob_88 : n0 ≤ ob_88 := Nat.le_trans (own_oldsz X00) sz_ob_88
      show Go _ _ _ _ (T86.setTop (mkF m 165 #[lI p0, lI p1, lI p2, lI jb, lI jm, lI jc, lI jf, lU, lU, lR w_C, lR ob_5, lU] [(.ref ob_88), (.ref b82), (.ref b82)]))
      have c95 := (A82.keep K86q)
      have c96 := (F85.keep K86q nin0)
      have c97 := (F84.keep K86q nin0)
      have hp94 : ∀ c ∈ xs_90, ¬ c < 0 ∧ ¬ (255 : Int32) < c := by
       exact q86_2.2
      have c98 := (c87.keep K86q nin0)
      obtain ⟨_, _, ⟨T94, L94, k94, n94⟩, -, X94, ⟨Lc94, hQ94, l94, y94, z94⟩, st94⟩ := X86.specialBack hx (y := (⟨"java/lang/String", "<init>", "([C)V"⟩ : MethodName)) rfl hown (mvT hZ (ow hw 12 rfl)) (mvT hZ (ow hw 13 rfl)) (mvT hZ (ow hw 14 rfl)) (by decide) (StrChars.Road.backV (W := 1) hZ (fun d hd => hw d (own_wNew d hd)) (kI := 4) (ow hw 10 rfl) (cs := xs_90) (bs := (xs_90).map (fun c => c.toInt8.toInt32)) (n := 7) g_b82 (own_oldsz O86) c95 c96 c97 q86_1 (S_CS.ext O86.2) nz_CS q86_2.1 rfl (by decide) (by decide) hp94 rfl (by decide) (by decide)) (g := (mkF m 165 #[lI p0, lI p1, lI p2, lI jb, lI jm, lI jc, lI jf, lU, lU, lR w_C, lR ob_5, lU] [(.ref ob_88), (.ref b82), (.ref b82)])) rfl (by rw [hml]; rfl) (Steps.refl _) (a := b82) (argsL := [(.ref ob_88)]) (rest := [(.ref b82)]) (lenOf own_pd18 rfl) rfl (by show 2 * 0 + _ ≤ _; exact Nat.le_of_eq rfl) (hb hby at_165) (fun _ _ => ⟨rfl, rfl, (by decide : 3 + 1 ≤ _), (by decide : 19 + 7 ≤ _)⟩)
      dsimp only [Pt.U, Pt.locs, Pt.cells, Pt.slots] at X94 l94 y94 z94 st94 hQ94
      subst y94 z94
      refine Go.tr st94 ?_
      obtain ⟨rfl, N94q, K94q, E94x, C94x, t94, kb94, gt94, szt94, net94, V94x, A94x⟩ := hQ94
      have N94 : Fr n0 L94 := by rw [l94]; exact Fr.app N86 N94q
      have O94 := O86.keep K94q (allS g_b82 all0)
      have K94 : Keep h0 T94.heap [] := K86.trans K94q (allS (Or.inr sz_b82) all0)
      have sf99 := Safe.keep K94q (sfS sf92 sf0) CR86.1 sf91
      have sf100 := Safe.keep K94q (sfS sf92 sf0) CR86.1 sf92
      have sf101 := Safe.keep K94q (sfS sf92 sf0) CR86.1 sf93
      have CR94 := CR86.trans (CHr.keep K94q (sfS sf92 sf0) CR86.1)
      have sz_t94 : h0.size ≤ t94 := Nat.le_trans K86.1 szt94
      show Go _ _ _ _ (T94.setTop (mkF m 168 #[lI p0, lI p1, lI p2, lI jb, lI jm, lI jc, lI jf, lU, lU, lR w_C, lR ob_5, lU] [(.ref b82)]))
      refine Go.st (fun _ => XS.goto X94.here hx rfl (pc0 := 168) (pc' := 183) rfl (hb hby at_168) (by decide) (by decide)) ?_
      show Go _ _ _ _ (T94.setTop (mkF m 183 #[lI p0, lI p1, lI p2, lI jb, lI jm, lI jc, lI jf, lU, lU, lR w_C, lR ob_5, lU] [(.ref b82)]))
      refine Go.st (fun _ => XS.astore X94.here hx rfl (hb hby at_183) rfl rfl (l' := #[lI p0, lI p1, lI p2, lI jb, lI jm, lI jc, lI jf, lR b82, lU, lR w_C, lR ob_5, lU]) rfl) ?_
      show Go _ _ _ _ (T94.setTop (mkF m 185 #[lI p0, lI p1, lI p2, lI jb, lI jm, lI jc, lI jf, lR b82, lU, lR w_C, lR ob_5, lU] []))
      refine Go.st (fun _ => XS.iconst X94.here hx rfl (hb hby at_185)) ?_
      show Go _ _ _ _ (T94.setTop (mkF m 186 #[lI p0, lI p1, lI p2, lI jb, lI jm, lI jc, lI jf, lR b82, lU, lR w_C, lR ob_5, lU] [(.int 0)]))
      refine Go.st (fun _ => XS.istore X94.here hx rfl (hb hby at_186) rfl (l' := #[lI p0, lI p1, lI p2, lI jb, lI jm, lI jc, lI jf, lR b82, lI (0 : Int32), lR w_C, lR ob_5, lU]) rfl) ?_
      show Go _ _ _ _ (T94.setTop (mkF m 188 #[lI p0, lI p1, lI p2, lI jb, lI jm, lI jc, lI jf, lR b82, lI (0 : Int32), lR w_C, lR ob_5, lU] []))
      refine Go.st (fun _ => XS.goto X94.here hx rfl (pc0 := 188) (pc' := 231) rfl (hb hby at_188) (by decide) (by decide)) ?_
      show Go _ _ _ _ (T94.setTop (mkF m 231 #[lI p0, lI p1, lI p2, lI jb, lI jm, lI jc, lI jf, lR b82, lI (0 : Int32), lR w_C, lR ob_5, lU] []))
      refine Go.st (fun _ => XS.goto X94.here hx rfl (pc0 := 231) (pc' := 282) rfl (hb hby at_231) (by decide) (by decide)) ?_
      show Go _ _ _ _ (T94.setTop (mkF m 282 #[lI p0, lI p1, lI p2, lI jb, lI jm, lI jc, lI jf, lR b82, lI (0 : Int32), lR w_C, lR ob_5, lU] []))
      refine Go.st (fun _ => XS.aload X94.here hx rfl (hb hby at_282) rfl rfl) ?_
      show Go _ _ _ _ (T94.setTop (mkF m 284 #[lI p0, lI p1, lI p2, lI jb, lI jm, lI jc, lI jf, lR b82, lI (0 : Int32), lR w_C, lR ob_5, lU] [(.ref b82)]))
      have c103 := (c98.keep K94q (ninS (Nat.ne_of_lt (Nat.lt_of_lt_of_le q4_1.lt (Nat.le_of_eq g82.symm))) nin0))
      have c104 := (q86_1.keep K94q (ninS (Ne.symm (Nat.ne_of_lt (Nat.lt_of_lt_of_le A82.lt q86_0))) nin0))
      obtain ⟨_, _, ⟨T102, L102, k102, n102⟩, -, X102, ⟨Lc102, hQ102, l102, y102, z102⟩, st102⟩ := Jvm.LawKit.callS X94 hx (y := (⟨"com/example/tidewall/tidewall/ledger/AccountClass", "byId", "(Ljava/lang/String;)Ljava/util/Optional;"⟩ : MethodName)) hown (mvT hZ (ow hw 38 rfl)) (mvT hZ (ow hw 39 rfl)) (mvT hZ (ow hw 7 rfl)) (mvT hZ (ow hw 40 rfl)) (by decide) (backOf (W := 0) (rm_byo l Z a0 hw [] w_C S_C X_C w_P S_P X_P w_V k_V S_V X_V V_V w_CS F_CS X_CS I_CS_coder w_CB k_CB F_CB V_CB w_PS F_PS X_PS I_PS_coder w_PB k_PB F_PB V_PB S_AD S_HI S_LO w_OE S_OE X_OE I_OE_value g_CS S_CS nz_CS g_SF S_SF r_SF b82 xs_90 t94 kb94 T94.heap n0 O94 E94x C94x V94x (own_arvN q86_2.1 A94x) hp94 (by rw [show xs_90.length = 7 from q86_2.1]; decide) (own_lenne (by rw [q86_2.1]; decide)) (own_lenne (by rw [q86_2.1]; decide))) hZ (ow hw 40 rfl) (ow hw 7 rfl) (by decide) (by decide)) (g := (mkF m 284 #[lI p0, lI p1, lI p2, lI jb, lI jm, lI jc, lI jf, lR b82, lI (0 : Int32), lR w_C, lR ob_5, lU] [(.ref b82)])) rfl (by rw [hml]; rfl) (argsL := [(.ref b82)]) (rest := []) (lenOf own_pd19 rfl) rfl (by show 2 * 0 + _ ≤ _; exact Nat.le_of_eq rfl) (hb hby at_284) (fun _ _ => ⟨rfl, rfl, (by decide : 4 + 1 ≤ _), (by decide : 26 + 2 ≤ _)⟩)
      dsimp only [Pt.U, Pt.locs, Pt.cells, Pt.slots] at X102 l102 y102 z102 st102 hQ102
      subst y102 z102
      refine Go.st st102 ?_
      obtain ⟨rfl, N102q, K102q⟩ := hQ102
      have N102 : Fr n0 L102 := by rw [l102]; exact Fr.app N94 N102q
      have O102 := O94.keep K102q all0
      have K102 : Keep h0 T102.heap [] := K94.trans K102q all0
      have sf105 := Safe.keep K102q sf0 CR94.1 sf99
      have sf106 := Safe.keep K102q sf0 CR94.1 sf100
      have sf107 := Safe.keep K102q sf0 CR94.1 sf101
      have CR102 := CR94.trans (CHr.keep K102q sf0 CR94.1)
      show Go _ _ _ _ (T102.setTop (mkF m 287 #[lI p0, lI p1, lI p2, lI jb, lI jm, lI jc, lI jf, lR b82, lI (0 : Int32), lR w_C, lR ob_5, lU] [(.ref w_OE)]))
      refine Go.st (fun _ => XS.astore X102.here hx rfl (hb hby at_287) rfl rfl (l' := #[lI p0, lI p1, lI p2, lI jb, lI jm, lI jc, lI jf, lR b82, lI (0 : Int32), lR w_C, lR w_OE, lU]) rfl) ?_
      show Go _ _ _ _ (T102.setTop (mkF m 289 #[lI p0, lI p1, lI p2, lI jb, lI jm, lI jc, lI jf, lR b82, lI (0 : Int32), lR w_C, lR w_OE, lU] []))
      refine Go.st (fun _ => XS.iload X102.here hx rfl (hb hby at_289) rfl) ?_
      show Go _ _ _ _ (T102.setTop (mkF m 291 #[lI p0, lI p1, lI p2, lI jb, lI jm, lI jc, lI jf, lR b82, lI (0 : Int32), lR w_C, lR w_OE, lU] [(.int 0)]))
      refine Go.st (fun _ => XS.ifYes X102.here hx rfl (pc0 := 291) (pc' := 318) rfl (hb hby at_291) rfl ((if0 _ _).trans (teq (by decide)).1) (by decide) (by decide)) ?_
      show Go _ _ _ _ (T102.setTop (mkF m 318 #[lI p0, lI p1, lI p2, lI jb, lI jm, lI jc, lI jf, lR b82, lI (0 : Int32), lR w_C, lR w_OE, lU] []))
      refine Go.st (fun _ => XS.aload X102.here hx rfl (hb hby at_318) rfl rfl) ?_
      show Go _ _ _ _ (T102.setTop (mkF m 320 #[lI p0, lI p1, lI p2, lI jb, lI jm, lI jc, lI jf, lR b82, lI (0 : Int32), lR w_C, lR w_OE, lU] [(.ref w_OE)]))
      obtain ⟨cq108, kq108, q108a, q108b, q108c⟩ := isOf hZ rfl (X_OE.ext O102.2)
      obtain ⟨_, _, ⟨T108, L108, k108, n108⟩, -, X108, ⟨Lc108, hQ108, l108, y108, z108⟩, st108⟩ := X102.virtualBack hx (y := (⟨"java/util/Optional", "isPresent", "()Z"⟩ : MethodName)) (z := (⟨"java/util/Optional", "isPresent", "()Z"⟩ : MethodName)) hown (mvT hZ (ow hw 86 rfl)) (mvT hZ (ow hw 87 rfl)) (notFace_of_selects (args := #[]) (mvT hZ (ow hw 89 rfl))) (mvT hZ (ow hw 89 rfl)) (mvT hZ (ow hw 88 rfl)) (by decide) (backOf (W := 0) (rm_ip0 l Z a0 hw [] w_OE T102.heap n0 O102 (I_OE_value.ext O102.2)) hZ (ow hw 90 rfl) (ow hw 71 rfl) (by decide) (by decide)) q108a q108c (g := (mkF m 320 #[lI p0, lI p1, lI p2, lI jb, lI jm, lI jc, lI jf, lR b82, lI (0 : Int32), lR w_C, lR w_OE, lU] [(.ref w_OE)])) rfl (by rw [hml]; rfl) (Steps.refl _) (argsL := []) (rest := []) (lenOf own_pd20 rfl) rfl (by show 2 * 0 + _ ≤ _; exact Nat.le_of_eq rfl) (hb hby at_320) (fun _ _ => ⟨rfl, rfl, (by decide : 5 + 0 ≤ _), (by decide : 28 + 0 ≤ _)⟩)
      dsimp only [Pt.U, Pt.locs, Pt.cells, Pt.slots] at X108 l108 y108 z108 st108 hQ108
      subst y108 z108
      refine Go.tr st108 ?_
      obtain ⟨rfl, N108q, e108⟩ := hQ108
      have N108 : Fr n0 L108 := by rw [l108]; exact Fr.app N102 N108q
      show Go _ _ _ _ (T108.setTop (mkF m 323 #[lI p0, lI p1, lI p2, lI jb, lI jm, lI jc, lI jf, lR b82, lI (0 : Int32), lR w_C, lR w_OE, lU] [(.int 0)]))
      refine Go.st (fun _ => XS.ifNo X108.here hx rfl (hb hby at_323) rfl ((if0 _ _).trans (teq (by decide)).2)) ?_
      show Go _ _ _ _ (T108.setTop (mkF m 326 #[lI p0, lI p1, lI p2, lI jb, lI jm, lI jc, lI jf, lR b82, lI (0 : Int32), lR w_C, lR w_OE, lU] []))
      refine Go.st (fun _ => XS.iconst X108.here hx rfl (hb hby at_326)) ?_
      show Go _ _ _ _ (T108.setTop (mkF m 327 #[lI p0, lI p1, lI p2, lI jb, lI jm, lI jc, lI jf, lR b82, lI (0 : Int32), lR w_C, lR w_OE, lU] [(.int 1)]))
      refine Go.st (fun _ => XS.goto X108.here hx rfl (pc0 := 327) (pc' := 331) rfl (hb hby at_327) (by decide) (by decide)) ?_
      show Go _ _ _ _ (T108.setTop (mkF m 331 #[lI p0, lI p1, lI p2, lI jb, lI jm, lI jc, lI jf, lR b82, lI (0 : Int32), lR w_C, lR w_OE, lU] [(.int 1)]))
      obtain ⟨fs, hr, hrun, hended, -, hW, hpair, hsame⟩ := X108.leaveW hS0 (by rw [e108]; exact (Nat.le_trans (Nat.le_trans (Nat.le_trans (Nat.le_trans (Nat.le_trans hk0 K4q.1) E82.1) K86q.1) K94q.1) K102q.1)) (v := some (.int 1)) (fun h => by rw [Bd.returns] at h; cases h)
      have hCRe := CR102.trans (CHv.at X108 hZ hEL CR102.1)
      refine ⟨_, ?_, hPend _ _ hrun hended ⟨_, _, rfl, ?_, ?_, ⟨_, rfl⟩, hW, hpair, hsame.mono (by decide) (by decide)⟩⟩
      ·exact retN X108 hx (t := .boolean) Bd.returns (by simp) (hb hby at_331) hr
      ·show Q_rm_law Z _ _ _ _ _ _ _ _ _ _ _ _ _ _ _ _ h0 n0 _ T108.heap _
       rw [e108]
       exact ⟨rfl, N108, K102⟩
      ·show CHr Z consts_1 s.vm s.heap T108.vm T108.heap
       rw [hh, e108]
       exact hCRe
     ·skip
      refine Go.st (fun _ => XS.icmpYes X9.here hx rfl (pc0 := 149) (pc' := 191) rfl (hb hby at_149) rfl (feq hc80).2 (by decide) (by decide)) ?_
      show Go _ _ _ _ (T9.setTop (mkF m 191 #[lI p0, lI p1, lI p2, lI jb, lI jm, lI jc, lI jf, lU, lU, lR w_C, lR ob_5, lU] []))
      by_cases hcw : (255 : Int32) < jc
      ·skip
       show Go _ _ _ _ (T9.setTop (mkF m 191 #[lI p0, lI p1, lI p2, lI jb, lI jm, lI jc, lI jf, lU, lU, lR w_C, lR ob_5, lU] []))
       refine Go.st (fun _ => XS.iloadN X9.here hx rfl (hb hby at_191) rfl) ?_
       show Go _ _ _ _ (T9.setTop (mkF m 192 #[lI p0, lI p1, lI p2, lI jb, lI jm, lI jc, lI jf, lU, lU, lR w_C, lR ob_5, lU] [(.int jb)]))
       have hb109 : jb = (0 : Int32) := by assumption
       refine Go.st (fun _ => XS.ifNo X9.here hx rfl (hb hby at_192) rfl ((if0 _ _).trans (teq hb109).2)) ?_
       show Go _ _ _ _ (T9.setTop (mkF m 195 #[lI p0, lI p1, lI p2, lI jb, lI jm, lI jc, lI jf, lU, lU, lR w_C, lR ob_5, lU] []))
       obtain ⟨T110, h110, X110, e110, E110, A110, D110, -, st110⟩ := newO X9 hx hZ hown (ow hw 9 rfl) (ow hw 10 rfl) (ow hw 11 rfl) e9 (g := (mkF m 195 #[lI p0, lI p1, lI p2, lI jb, lI jm, lI jc, lI jf, lU, lU, lR w_C, lR ob_5, lU] [])) rfl (hb hby at_195) (by decide) (by decide)
       obtain ⟨b110, g110⟩ : ∃ z, z = T4.heap.size := ⟨_, rfl⟩
       rw [← g110] at A110 D110 st110
       refine Go.st st110 ?_
       have g_b110 : n0 ≤ b110 := Nat.le_trans (own_oldsz O4) (Nat.le_of_eq g110.symm)
       have sz_b110 : h0.size ≤ b110 := Nat.le_trans K4.1 (Nat.le_of_eq g110.symm)
       have K110 : Keep h0 h110 [] := K4.ext E110
       have O110 := O4.ext E110
       have sf111 := Safe.ext E110 CR4.1 sf7
       have SF_b110 : Safe Z consts_1 s.vm h110 b110 := Safe.ext E110 CR4.1 (Safe.new (Nat.le_of_eq g110.symm))
       have CR110 := CR4.trans (CHr.ext E110 CR4.1)
       have F112 : Fld Z h110 b110 "java/lang/String" "coder" "B" (.int 0) := D110 (Or.inr (ow hw 35 rfl)) (ty := .byte) (by decide)
       have F113 : Fld Z h110 b110 "java/lang/String" "value" "[B" .null := D110 (Or.inr (ow hw 37 rfl)) (ty := (.array .byte)) (by decide)
       show Go _ _ _ _ (T110.setTop (mkF m 198 #[lI p0, lI p1, lI p2, lI jb, lI jm, lI jc, lI jf, lU, lU, lR w_C, lR ob_5, lU] [(.ref b110)]))
       refine Go.st (fun _ => XS.dup X110.here hx rfl (hb hby at_198) rfl rfl) ?_
       refine Go.st (fun _ => XS.iload X110.here hx rfl (hb hby at_199) rfl) ?_
       refine Go.st (fun _ => XS.iload X110.here hx rfl (hb hby at_201) rfl) ?_
       show Go _ _ _ _ (T110.setTop (mkF m 203 #[lI p0, lI p1, lI p2, lI jb, lI jm, lI jc, lI jf, lU, lU, lR w_C, lR ob_5, lU] [(.int jf), (.int jc), (.ref b110), (.ref b110)]))
       have c115 := (q4_1.ext E110)
       obtain ⟨_, _, ⟨T114, L114, k114, n114⟩, -, X114, ⟨Lc114, hQ114, l114, y114, z114⟩, st114⟩ := Jvm.LawKit.callS X110 hx (y := (⟨"com/example/tidewall/tidewall/ledger/AccountClassByIdPinLaw", "custLong", "(CZ)[C"⟩ : MethodName)) hown (mvT hZ (ow hw 151 rfl)) (mvT hZ (ow hw 152 rfl)) (mvT hZ (ow hw 3 rfl)) (mvT hZ (ow hw 153 rfl)) (by decide) (backOf (W := 2) (rm_mcl l Z a0 hw [] jc jf h110 n0 O110 hjc) hZ (ow hw 153 rfl) (ow hw 3 rfl) (by decide) (by decide)) (g := (mkF m 203 #[lI p0, lI p1, lI p2, lI jb, lI jm, lI jc, lI jf, lU, lU, lR w_C, lR ob_5, lU] [(.int jf), (.int jc), (.ref b110), (.ref b110)])) rfl (by rw [hml]; rfl) (argsL := [(.int jc), (.int jf)]) (rest := [(.ref b110), (.ref b110)]) (lenOf own_pd23 rfl) rfl (by show 2 * 0 + _ ≤ _; exact Nat.le_of_eq rfl) (hb hby at_203) (fun _ _ => ⟨rfl, e110, (by decide : 2 + 1 ≤ _), (by decide : 12 + 9 ≤ _)⟩)
       dsimp only [Pt.U, Pt.locs, Pt.cells, Pt.slots] at X114 l114 y114 z114 st114 hQ114
       subst y114 z114
       refine Go.st st114 ?_
       obtain ⟨ob_116, kb_117, xs_118, rfl, N114q, K114q, q114_0, q114_1, q114_2, q114_3, q114_4, q114_5⟩ := hQ114
       have N114 : Fr n0 L114 := by rw [l114]; exact Fr.app N4 N114q
       have SN114_0 : Safe Z consts_1 s.vm h110 ob_116 := Safe.new q114_0
       have O114 := O110.keep K114q all0
       have K114 : Keep h0 T114.heap [] := K110.trans K114q all0
       have sf119 := Safe.keep K114q sf0 CR110.1 sf111
       have sf120 := Safe.keep K114q sf0 CR110.1 SF_b110
       have sf121 := Safe.keep K114q sf0 CR110.1 SN114_0
       have CR114 := CR110.trans (CHr.keep K114q sf0 CR110.1)
       have sz_ob_116 : h0.size ≤ ob_116 := Nat.le_trans K110.1 q114_0
       have g_ob_116 : n0 ≤ ob_116 := Nat.le_trans (own_oldsz X00) sz_ob_116
       show Go _ _ _ _ (T114.setTop (mkF m 206 #[lI p0, lI p1, lI p2, lI jb, lI jm, lI jc, lI jf, lU, lU, lR w_C, lR ob_5, lU] [(.ref ob_116), (.ref b110), (.ref b110)]))
       obtain ⟨jj, hjj⟩ := q114_4 hcw
       have c123 := (A110.keep K114q)
       have c124 := (F113.keep K114q nin0)
       have c125 := (F112.keep K114q nin0)
       have c126 := (c115.keep K114q nin0)
       obtain ⟨_, _, ⟨T122, L122, k122, n122⟩, -, X122, ⟨Lc122, hQ122, l122, y122, z122⟩, st122⟩ := X114.specialBack hx (y := (⟨"java/lang/String", "<init>", "([C)V"⟩ : MethodName)) rfl hown (mvT hZ (ow hw 12 rfl)) (mvT hZ (ow hw 13 rfl)) (mvT hZ (ow hw 14 rfl)) (by decide) (backOf (W := 1) (rm_wid1 l Z a0 hw [] S_AD S_HI S_LO g_CS S_CS nz_CS b110 ob_116 xs_118 kb_117 9 jj T114.heap n0 O114 c123 c124 c125 g_b110 q114_1 (by decide) q114_2 hjj q114_5) hZ (ow hw 14 rfl) (ow hw 11 rfl) (by decide) (by decide)) (g := (mkF m 206 #[lI p0, lI p1, lI p2, lI jb, lI jm, lI jc, lI jf, lU, lU, lR w_C, lR ob_5, lU] [(.ref ob_116), (.ref b110), (.ref b110)])) rfl (by rw [hml]; rfl) (Steps.refl _) (a := b110) (argsL := [(.ref ob_116)]) (rest := [(.ref b110)]) (lenOf own_pd18 rfl) rfl (by show 2 * 0 + _ ≤ _; exact Nat.le_of_eq rfl) (hb hby at_206) (fun _ _ => ⟨rfl, rfl, (by decide : 3 + 2 ≤ _), (by decide : 21 + 96 ≤ _)⟩)
       dsimp only [Pt.U, Pt.locs, Pt.cells, Pt.slots] at X122 l122 y122 z122 st122 hQ122
       subst y122 z122
       refine Go.tr st122 ?_
       obtain ⟨rfl, N122q, K122q, q122_0, q122_1⟩ := hQ122
       have N122 : Fr n0 L122 := by rw [l122]; exact Fr.app N114 N122q
       have O122 := O114.keep K122q (allS g_b110 all0)
       have K122 : Keep h0 T122.heap [] := K114.trans K122q (allS (Or.inr sz_b110) all0)
       have sf127 := Safe.keep K122q (sfS sf120 sf0) CR114.1 sf119
       have sf128 := Safe.keep K122q (sfS sf120 sf0) CR114.1 sf120
       have sf129 := Safe.keep K122q (sfS sf120 sf0) CR114.1 sf121
       have CR122 := CR114.trans (CHr.keep K122q (sfS sf120 sf0) CR114.1)
       show Go _ _ _ _ (T122.setTop (mkF m 209 #[lI p0, lI p1, lI p2, lI jb, lI jm, lI jc, lI jf, lU, lU, lR w_C, lR ob_5, lU] [(.ref b110)]))
       refine Go.st (fun _ => XS.goto X122.here hx rfl (pc0 := 209) (pc' := 226) rfl (hb hby at_209) (by decide) (by decide)) ?_
       show Go _ _ _ _ (T122.setTop (mkF m 226 #[lI p0, lI p1, lI p2, lI jb, lI jm, lI jc, lI jf, lU, lU, lR w_C, lR ob_5, lU] [(.ref b110)]))
       refine Go.st (fun _ => XS.astore X122.here hx rfl (hb hby at_226) rfl rfl (l' := #[lI p0, lI p1, lI p2, lI jb, lI jm, lI jc, lI jf, lR b110, lU, lR w_C, lR ob_5, lU]) rfl) ?_
       show Go _ _ _ _ (T122.setTop (mkF m 228 #[lI p0, lI p1, lI p2, lI jb, lI jm, lI jc, lI jf, lR b110, lU, lR w_C, lR ob_5, lU] []))
       refine Go.st (fun _ => XS.iconst X122.here hx rfl (hb hby at_228)) ?_
       show Go _ _ _ _ (T122.setTop (mkF m 229 #[lI p0, lI p1, lI p2, lI jb, lI jm, lI jc, lI jf, lR b110, lU, lR w_C, lR ob_5, lU] [(.int 0)]))
       refine Go.st (fun _ => XS.istore X122.here hx rfl (hb hby at_229) rfl (l' := #[lI p0, lI p1, lI p2, lI jb, lI jm, lI jc, lI jf, lR b110, lI (0 : Int32), lR w_C, lR ob_5, lU]) rfl) ?_
       show Go _ _ _ _ (T122.setTop (mkF m 231 #[lI p0, lI p1, lI p2, lI jb, lI jm, lI jc, lI jf, lR b110, lI (0 : Int32), lR w_C, lR ob_5, lU] []))
       refine Go.st (fun _ => XS.goto X122.here hx rfl (pc0 := 231) (pc' := 282) rfl (hb hby at_231) (by decide) (by decide)) ?_
       show Go _ _ _ _ (T122.setTop (mkF m 282 #[lI p0, lI p1, lI p2, lI jb, lI jm, lI jc, lI jf, lR b110, lI (0 : Int32), lR w_C, lR ob_5, lU] []))
       refine Go.st (fun _ => XS.aload X122.here hx rfl (hb hby at_282) rfl rfl) ?_
       show Go _ _ _ _ (T122.setTop (mkF m 284 #[lI p0, lI p1, lI p2, lI jb, lI jm, lI jc, lI jf, lR b110, lI (0 : Int32), lR w_C, lR ob_5, lU] [(.ref b110)]))
       have c131 := (c126.keep K122q (ninS (Nat.ne_of_lt (Nat.lt_of_lt_of_le q4_1.lt (Nat.le_of_eq g110.symm))) nin0))
       have c132 := (q114_1.keep K122q (ninS (Ne.symm (Nat.ne_of_lt (Nat.lt_of_lt_of_le A110.lt q114_0))) nin0))
       obtain ⟨_, _, ⟨T130, L130, k130, n130⟩, -, X130, ⟨Lc130, hQ130, l130, y130, z130⟩, st130⟩ := Jvm.LawKit.callS X122 hx (y := (⟨"com/example/tidewall/tidewall/ledger/AccountClass", "byId", "(Ljava/lang/String;)Ljava/util/Optional;"⟩ : MethodName)) hown (mvT hZ (ow hw 38 rfl)) (mvT hZ (ow hw 39 rfl)) (mvT hZ (ow hw 7 rfl)) (mvT hZ (ow hw 40 rfl)) (by decide) (backOf (W := 0) (rm_byW l Z a0 hw [] w_C S_C X_C w_P S_P X_P w_V k_V S_V X_V V_V w_CS F_CS X_CS I_CS_coder w_CB k_CB F_CB V_CB w_PS F_PS X_PS I_PS_coder w_PB k_PB F_PB V_PB S_AD S_HI S_LO w_OE S_OE X_OE I_OE_value g_CS S_CS nz_CS g_SF S_SF r_SF b110 T122.heap n0 O122 q122_0 q122_1) hZ (ow hw 40 rfl) (ow hw 7 rfl) (by decide) (by decide)) (g := (mkF m 284 #[lI p0, lI p1, lI p2, lI jb, lI jm, lI jc, lI jf, lR b110, lI (0 : Int32), lR w_C, lR ob_5, lU] [(.ref b110)])) rfl (by rw [hml]; rfl) (argsL := [(.ref b110)]) (rest := []) (lenOf own_pd19 rfl) rfl (by show 2 * 0 + _ ≤ _; exact Nat.le_of_eq rfl) (hb hby at_284) (fun _ _ => ⟨rfl, rfl, (by decide : 5 + 1 ≤ _), (by decide : 117 + 2 ≤ _)⟩)
       dsimp only [Pt.U, Pt.locs, Pt.cells, Pt.slots] at X130 l130 y130 z130 st130 hQ130
       subst y130 z130
       refine Go.st st130 ?_
       obtain ⟨rfl, N130q, K130q⟩ := hQ130
       have N130 : Fr n0 L130 := by rw [l130]; exact Fr.app N122 N130q
       have O130 := O122.keep K130q all0
       have K130 : Keep h0 T130.heap [] := K122.trans K130q all0
       have sf133 := Safe.keep K130q sf0 CR122.1 sf127
       have sf134 := Safe.keep K130q sf0 CR122.1 sf128
       have sf135 := Safe.keep K130q sf0 CR122.1 sf129
       have CR130 := CR122.trans (CHr.keep K130q sf0 CR122.1)
       show Go _ _ _ _ (T130.setTop (mkF m 287 #[lI p0, lI p1, lI p2, lI jb, lI jm, lI jc, lI jf, lR b110, lI (0 : Int32), lR w_C, lR ob_5, lU] [(.ref w_OE)]))
       refine Go.st (fun _ => XS.astore X130.here hx rfl (hb hby at_287) rfl rfl (l' := #[lI p0, lI p1, lI p2, lI jb, lI jm, lI jc, lI jf, lR b110, lI (0 : Int32), lR w_C, lR w_OE, lU]) rfl) ?_
       show Go _ _ _ _ (T130.setTop (mkF m 289 #[lI p0, lI p1, lI p2, lI jb, lI jm, lI jc, lI jf, lR b110, lI (0 : Int32), lR w_C, lR w_OE, lU] []))
       refine Go.st (fun _ => XS.iload X130.here hx rfl (hb hby at_289) rfl) ?_
       show Go _ _ _ _ (T130.setTop (mkF m 291 #[lI p0, lI p1, lI p2, lI jb, lI jm, lI jc, lI jf, lR b110, lI (0 : Int32), lR w_C, lR w_OE, lU] [(.int 0)]))
       refine Go.st (fun _ => XS.ifYes X130.here hx rfl (pc0 := 291) (pc' := 318) rfl (hb hby at_291) rfl ((if0 _ _).trans (teq (by decide)).1) (by decide) (by decide)) ?_
       show Go _ _ _ _ (T130.setTop (mkF m 318 #[lI p0, lI p1, lI p2, lI jb, lI jm, lI jc, lI jf, lR b110, lI (0 : Int32), lR w_C, lR w_OE, lU] []))
       refine Go.st (fun _ => XS.aload X130.here hx rfl (hb hby at_318) rfl rfl) ?_
       show Go _ _ _ _ (T130.setTop (mkF m 320 #[lI p0, lI p1, lI p2, lI jb, lI jm, lI jc, lI jf, lR b110, lI (0 : Int32), lR w_C, lR w_OE, lU] [(.ref w_OE)]))
       obtain ⟨cq136, kq136, q136a, q136b, q136c⟩ := isOf hZ rfl (X_OE.ext O130.2)
       obtain ⟨_, _, ⟨T136, L136, k136, n136⟩, -, X136, ⟨Lc136, hQ136, l136, y136, z136⟩, st136⟩ := X130.virtualBack hx (y := (⟨"java/util/Optional", "isPresent", "()Z"⟩ : MethodName)) (z := (⟨"java/util/Optional", "isPresent", "()Z"⟩ : MethodName)) hown (mvT hZ (ow hw 86 rfl)) (mvT hZ (ow hw 87 rfl)) (notFace_of_selects (args := #[]) (mvT hZ (ow hw 89 rfl))) (mvT hZ (ow hw 89 rfl)) (mvT hZ (ow hw 88 rfl)) (by decide) (backOf (W := 0) (rm_ip0 l Z a0 hw [] w_OE T130.heap n0 O130 (I_OE_value.ext O130.2)) hZ (ow hw 90 rfl) (ow hw 71 rfl) (by decide) (by decide)) q136a q136c (g := (mkF m 320 #[lI p0, lI p1, lI p2, lI jb, lI jm, lI jc, lI jf, lR b110, lI (0 : Int32), lR w_C, lR w_OE, lU] [(.ref w_OE)])) rfl (by rw [hml]; rfl) (Steps.refl _) (argsL := []) (rest := []) (lenOf own_pd20 rfl) rfl (by show 2 * 0 + _ ≤ _; exact Nat.le_of_eq rfl) (hb hby at_320) (fun _ _ => ⟨rfl, rfl, (by decide : 6 + 0 ≤ _), (by decide : 119 + 0 ≤ _)⟩)
       dsimp only [Pt.U, Pt.locs, Pt.cells, Pt.slots] at X136 l136 y136 z136 st136 hQ136
       subst y136 z136
       refine Go.tr st136 ?_
       obtain ⟨rfl, N136q, e136⟩ := hQ136
       have N136 : Fr n0 L136 := by rw [l136]; exact Fr.app N130 N136q
       show Go _ _ _ _ (T136.setTop (mkF m 323 #[lI p0, lI p1, lI p2, lI jb, lI jm, lI jc, lI jf, lR b110, lI (0 : Int32), lR w_C, lR w_OE, lU] [(.int 0)]))
       refine Go.st (fun _ => XS.ifNo X136.here hx rfl (hb hby at_323) rfl ((if0 _ _).trans (teq (by decide)).2)) ?_
       show Go _ _ _ _ (T136.setTop (mkF m 326 #[lI p0, lI p1, lI p2, lI jb, lI jm, lI jc, lI jf, lR b110, lI (0 : Int32), lR w_C, lR w_OE, lU] []))
       refine Go.st (fun _ => XS.iconst X136.here hx rfl (hb hby at_326)) ?_
       show Go _ _ _ _ (T136.setTop (mkF m 327 #[lI p0, lI p1, lI p2, lI jb, lI jm, lI jc, lI jf, lR b110, lI (0 : Int32), lR w_C, lR w_OE, lU] [(.int 1)]))
       refine Go.st (fun _ => XS.goto X136.here hx rfl (pc0 := 327) (pc' := 331) rfl (hb hby at_327) (by decide) (by decide)) ?_
       show Go _ _ _ _ (T136.setTop (mkF m 331 #[lI p0, lI p1, lI p2, lI jb, lI jm, lI jc, lI jf, lR b110, lI (0 : Int32), lR w_C, lR w_OE, lU] [(.int 1)]))
       obtain ⟨fs, hr, hrun, hended, -, hW, hpair, hsame⟩ := X136.leaveW hS0 (by rw [e136]; exact (Nat.le_trans (Nat.le_trans (Nat.le_trans (Nat.le_trans (Nat.le_trans hk0 K4q.1) E110.1) K114q.1) K122q.1) K130q.1)) (v := some (.int 1)) (fun h => by rw [Bd.returns] at h; cases h)
       have hCRe := CR130.trans (CHv.at X136 hZ hEL CR130.1)
       refine ⟨_, ?_, hPend _ _ hrun hended ⟨_, _, rfl, ?_, ?_, ⟨_, rfl⟩, hW, hpair, hsame.mono (by decide) (by decide)⟩⟩
       ·exact retN X136 hx (t := .boolean) Bd.returns (by simp) (hb hby at_331) hr
       ·show Q_rm_law Z _ _ _ _ _ _ _ _ _ _ _ _ _ _ _ _ h0 n0 _ T136.heap _
        rw [e136]
        exact ⟨rfl, N136, K130⟩
       ·show CHr Z consts_1 s.vm s.heap T136.vm T136.heap
        rw [hh, e136]
        exact hCRe
      ·skip
       show Go _ _ _ _ (T9.setTop (mkF m 191 #[lI p0, lI p1, lI p2, lI jb, lI jm, lI jc, lI jf, lU, lU, lR w_C, lR ob_5, lU] []))
       refine Go.st (fun _ => XS.iloadN X9.here hx rfl (hb hby at_191) rfl) ?_
       show Go _ _ _ _ (T9.setTop (mkF m 192 #[lI p0, lI p1, lI p2, lI jb, lI jm, lI jc, lI jf, lU, lU, lR w_C, lR ob_5, lU] [(.int jb)]))
       have hb137 : jb = (0 : Int32) := by assumption
       refine Go.st (fun _ => XS.ifNo X9.here hx rfl (hb hby at_192) rfl ((if0 _ _).trans (teq hb137).2)) ?_
       show Go _ _ _ _ (T9.setTop (mkF m 195 #[lI p0, lI p1, lI p2, lI jb, lI jm, lI jc, lI jf, lU, lU, lR w_C, lR ob_5, lU] []))
       obtain ⟨T138, h138, X138, e138, E138, A138, D138, -, st138⟩ := newO X9 hx hZ hown (ow hw 9 rfl) (ow hw 10 rfl) (ow hw 11 rfl) e9 (g := (mkF m 195 #[lI p0, lI p1, lI p2, lI jb, lI jm, lI jc, lI jf, lU, lU, lR w_C, lR ob_5, lU] [])) rfl (hb hby at_195) (by decide) (by decide)
       obtain ⟨b138, g138⟩ : ∃ z, z = T4.heap.size := ⟨_, rfl⟩
       rw [← g138] at A138 D138 st138
       refine Go.st st138 ?_
       have g_b138 : n0 ≤ b138 := Nat.le_trans (own_oldsz O4) (Nat.le_of_eq g138.symm)
       have sz_b138 : h0.size ≤ b138 := Nat.le_trans K4.1 (Nat.le_of_eq g138.symm)
       have K138 : Keep h0 h138 [] := K4.ext E138
       have O138 := O4.ext E138
       have sf139 := Safe.ext E138 CR4.1 sf7
       have SF_b138 : Safe Z consts_1 s.vm h138 b138 := Safe.ext E138 CR4.1 (Safe.new (Nat.le_of_eq g138.symm))
       have CR138 := CR4.trans (CHr.ext E138 CR4.1)
       have F140 : Fld Z h138 b138 "java/lang/String" "coder" "B" (.int 0) := D138 (Or.inr (ow hw 35 rfl)) (ty := .byte) (by decide)
       have F141 : Fld Z h138 b138 "java/lang/String" "value" "[B" .null := D138 (Or.inr (ow hw 37 rfl)) (ty := (.array .byte)) (by decide)
       show Go _ _ _ _ (T138.setTop (mkF m 198 #[lI p0, lI p1, lI p2, lI jb, lI jm, lI jc, lI jf, lU, lU, lR w_C, lR ob_5, lU] [(.ref b138)]))
       refine Go.st (fun _ => XS.dup X138.here hx rfl (hb hby at_198) rfl rfl) ?_
       refine Go.st (fun _ => XS.iload X138.here hx rfl (hb hby at_199) rfl) ?_
       refine Go.st (fun _ => XS.iload X138.here hx rfl (hb hby at_201) rfl) ?_
       show Go _ _ _ _ (T138.setTop (mkF m 203 #[lI p0, lI p1, lI p2, lI jb, lI jm, lI jc, lI jf, lU, lU, lR w_C, lR ob_5, lU] [(.int jf), (.int jc), (.ref b138), (.ref b138)]))
       have c143 := (q4_1.ext E138)
       obtain ⟨_, _, ⟨T142, L142, k142, n142⟩, -, X142, ⟨Lc142, hQ142, l142, y142, z142⟩, st142⟩ := Jvm.LawKit.callS X138 hx (y := (⟨"com/example/tidewall/tidewall/ledger/AccountClassByIdPinLaw", "custLong", "(CZ)[C"⟩ : MethodName)) hown (mvT hZ (ow hw 151 rfl)) (mvT hZ (ow hw 152 rfl)) (mvT hZ (ow hw 3 rfl)) (mvT hZ (ow hw 153 rfl)) (by decide) (backOf (W := 2) (rm_mcl l Z a0 hw [] jc jf h138 n0 O138 hjc) hZ (ow hw 153 rfl) (ow hw 3 rfl) (by decide) (by decide)) (g := (mkF m 203 #[lI p0, lI p1, lI p2, lI jb, lI jm, lI jc, lI jf, lU, lU, lR w_C, lR ob_5, lU] [(.int jf), (.int jc), (.ref b138), (.ref b138)])) rfl (by rw [hml]; rfl) (argsL := [(.int jc), (.int jf)]) (rest := [(.ref b138), (.ref b138)]) (lenOf own_pd23 rfl) rfl (by show 2 * 0 + _ ≤ _; exact Nat.le_of_eq rfl) (hb hby at_203) (fun _ _ => ⟨rfl, e138, (by decide : 2 + 1 ≤ _), (by decide : 12 + 9 ≤ _)⟩)
       dsimp only [Pt.U, Pt.locs, Pt.cells, Pt.slots] at X142 l142 y142 z142 st142 hQ142
       subst y142 z142
       refine Go.st st142 ?_
       obtain ⟨ob_144, kb_145, xs_146, rfl, N142q, K142q, q142_0, q142_1, q142_2, q142_3, q142_4, q142_5⟩ := hQ142
       have N142 : Fr n0 L142 := by rw [l142]; exact Fr.app N4 N142q
       have SN142_0 : Safe Z consts_1 s.vm h138 ob_144 := Safe.new q142_0
       have O142 := O138.keep K142q all0
       have K142 : Keep h0 T142.heap [] := K138.trans K142q all0
       have sf147 := Safe.keep K142q sf0 CR138.1 sf139
       have sf148 := Safe.keep K142q sf0 CR138.1 SF_b138
       have sf149 := Safe.keep K142q sf0 CR138.1 SN142_0
       have CR142 := CR138.trans (CHr.keep K142q sf0 CR138.1)
       have sz_ob_144 : h0.size ≤ ob_144 := Nat.le_trans K138.1 q142_0
       have g_ob_144 : n0 ≤ ob_144 := Nat.le_trans (own_oldsz X00) sz_ob_144
       show Go _ _ _ _ (T142.setTop (mkF m 206 #[lI p0, lI p1, lI p2, lI jb, lI jm, lI jc, lI jf, lU, lU, lR w_C, lR ob_5, lU] [(.ref ob_144), (.ref b138), (.ref b138)]))
       have c151 := (A138.keep K142q)
       have c152 := (F141.keep K142q nin0)
       have c153 := (F140.keep K142q nin0)
       have hp150 : ∀ c ∈ xs_146, ¬ c < 0 ∧ ¬ (255 : Int32) < c := by
        exact q142_3 hcw
       have c154 := (c143.keep K142q nin0)
       obtain ⟨_, _, ⟨T150, L150, k150, n150⟩, -, X150, ⟨Lc150, hQ150, l150, y150, z150⟩, st150⟩ := X142.specialBack hx (y := (⟨"java/lang/String", "<init>", "([C)V"⟩ : MethodName)) rfl hown (mvT hZ (ow hw 12 rfl)) (mvT hZ (ow hw 13 rfl)) (mvT hZ (ow hw 14 rfl)) (by decide) (StrChars.Road.backV (W := 1) hZ (fun d hd => hw d (own_wNew d hd)) (kI := 4) (ow hw 10 rfl) (cs := xs_146) (bs := (xs_146).map (fun c => c.toInt8.toInt32)) (n := 9) g_b138 (own_oldsz O142) c151 c152 c153 q142_1 (S_CS.ext O142.2) nz_CS q142_2 rfl (by decide) (by decide) hp150 rfl (by decide) (by decide)) (g := (mkF m 206 #[lI p0, lI p1, lI p2, lI jb, lI jm, lI jc, lI jf, lU, lU, lR w_C, lR ob_5, lU] [(.ref ob_144), (.ref b138), (.ref b138)])) rfl (by rw [hml]; rfl) (Steps.refl _) (a := b138) (argsL := [(.ref ob_144)]) (rest := [(.ref b138)]) (lenOf own_pd18 rfl) rfl (by show 2 * 0 + _ ≤ _; exact Nat.le_of_eq rfl) (hb hby at_206) (fun _ _ => ⟨rfl, rfl, (by decide : 3 + 1 ≤ _), (by decide : 21 + 9 ≤ _)⟩)
       dsimp only [Pt.U, Pt.locs, Pt.cells, Pt.slots] at X150 l150 y150 z150 st150 hQ150
       subst y150 z150
       refine Go.tr st150 ?_
       obtain ⟨rfl, N150q, K150q, E150x, C150x, t150, kb150, gt150, szt150, net150, V150x, A150x⟩ := hQ150
       have N150 : Fr n0 L150 := by rw [l150]; exact Fr.app N142 N150q
       have O150 := O142.keep K150q (allS g_b138 all0)
       have K150 : Keep h0 T150.heap [] := K142.trans K150q (allS (Or.inr sz_b138) all0)
       have sf155 := Safe.keep K150q (sfS sf148 sf0) CR142.1 sf147
       have sf156 := Safe.keep K150q (sfS sf148 sf0) CR142.1 sf148
       have sf157 := Safe.keep K150q (sfS sf148 sf0) CR142.1 sf149
       have CR150 := CR142.trans (CHr.keep K150q (sfS sf148 sf0) CR142.1)
       have sz_t150 : h0.size ≤ t150 := Nat.le_trans K142.1 szt150
       show Go _ _ _ _ (T150.setTop (mkF m 209 #[lI p0, lI p1, lI p2, lI jb, lI jm, lI jc, lI jf, lU, lU, lR w_C, lR ob_5, lU] [(.ref b138)]))
       refine Go.st (fun _ => XS.goto X150.here hx rfl (pc0 := 209) (pc' := 226) rfl (hb hby at_209) (by decide) (by decide)) ?_
       show Go _ _ _ _ (T150.setTop (mkF m 226 #[lI p0, lI p1, lI p2, lI jb, lI jm, lI jc, lI jf, lU, lU, lR w_C, lR ob_5, lU] [(.ref b138)]))
       refine Go.st (fun _ => XS.astore X150.here hx rfl (hb hby at_226) rfl rfl (l' := #[lI p0, lI p1, lI p2, lI jb, lI jm, lI jc, lI jf, lR b138, lU, lR w_C, lR ob_5, lU]) rfl) ?_
       show Go _ _ _ _ (T150.setTop (mkF m 228 #[lI p0, lI p1, lI p2, lI jb, lI jm, lI jc, lI jf, lR b138, lU, lR w_C, lR ob_5, lU] []))
       refine Go.st (fun _ => XS.iconst X150.here hx rfl (hb hby at_228)) ?_
       show Go _ _ _ _ (T150.setTop (mkF m 229 #[lI p0, lI p1, lI p2, lI jb, lI jm, lI jc, lI jf, lR b138, lU, lR w_C, lR ob_5, lU] [(.int 0)]))
       refine Go.st (fun _ => XS.istore X150.here hx rfl (hb hby at_229) rfl (l' := #[lI p0, lI p1, lI p2, lI jb, lI jm, lI jc, lI jf, lR b138, lI (0 : Int32), lR w_C, lR ob_5, lU]) rfl) ?_
       show Go _ _ _ _ (T150.setTop (mkF m 231 #[lI p0, lI p1, lI p2, lI jb, lI jm, lI jc, lI jf, lR b138, lI (0 : Int32), lR w_C, lR ob_5, lU] []))
       refine Go.st (fun _ => XS.goto X150.here hx rfl (pc0 := 231) (pc' := 282) rfl (hb hby at_231) (by decide) (by decide)) ?_
       show Go _ _ _ _ (T150.setTop (mkF m 282 #[lI p0, lI p1, lI p2, lI jb, lI jm, lI jc, lI jf, lR b138, lI (0 : Int32), lR w_C, lR ob_5, lU] []))
       refine Go.st (fun _ => XS.aload X150.here hx rfl (hb hby at_282) rfl rfl) ?_
       show Go _ _ _ _ (T150.setTop (mkF m 284 #[lI p0, lI p1, lI p2, lI jb, lI jm, lI jc, lI jf, lR b138, lI (0 : Int32), lR w_C, lR ob_5, lU] [(.ref b138)]))
       have c159 := (c154.keep K150q (ninS (Nat.ne_of_lt (Nat.lt_of_lt_of_le q4_1.lt (Nat.le_of_eq g138.symm))) nin0))
       have c160 := (q142_1.keep K150q (ninS (Ne.symm (Nat.ne_of_lt (Nat.lt_of_lt_of_le A138.lt q142_0))) nin0))
       obtain ⟨_, _, ⟨T158, L158, k158, n158⟩, -, X158, ⟨Lc158, hQ158, l158, y158, z158⟩, st158⟩ := Jvm.LawKit.callS X150 hx (y := (⟨"com/example/tidewall/tidewall/ledger/AccountClass", "byId", "(Ljava/lang/String;)Ljava/util/Optional;"⟩ : MethodName)) hown (mvT hZ (ow hw 38 rfl)) (mvT hZ (ow hw 39 rfl)) (mvT hZ (ow hw 7 rfl)) (mvT hZ (ow hw 40 rfl)) (by decide) (backOf (W := 0) (rm_byo l Z a0 hw [] w_C S_C X_C w_P S_P X_P w_V k_V S_V X_V V_V w_CS F_CS X_CS I_CS_coder w_CB k_CB F_CB V_CB w_PS F_PS X_PS I_PS_coder w_PB k_PB F_PB V_PB S_AD S_HI S_LO w_OE S_OE X_OE I_OE_value g_CS S_CS nz_CS g_SF S_SF r_SF b138 xs_146 t150 kb150 T150.heap n0 O150 E150x C150x V150x (own_arvN q142_2 A150x) hp150 (by rw [show xs_146.length = 9 from q142_2]; decide) (own_lenne (by rw [q142_2]; decide)) (own_lenne (by rw [q142_2]; decide))) hZ (ow hw 40 rfl) (ow hw 7 rfl) (by decide) (by decide)) (g := (mkF m 284 #[lI p0, lI p1, lI p2, lI jb, lI jm, lI jc, lI jf, lR b138, lI (0 : Int32), lR w_C, lR ob_5, lU] [(.ref b138)])) rfl (by rw [hml]; rfl) (argsL := [(.ref b138)]) (rest := []) (lenOf own_pd19 rfl) rfl (by show 2 * 0 + _ ≤ _; exact Nat.le_of_eq rfl) (hb hby at_284) (fun _ _ => ⟨rfl, rfl, (by decide : 4 + 1 ≤ _), (by decide : 30 + 2 ≤ _)⟩)
       dsimp only [Pt.U, Pt.locs, Pt.cells, Pt.slots] at X158 l158 y158 z158 st158 hQ158
       subst y158 z158
       refine Go.st st158 ?_
       obtain ⟨rfl, N158q, K158q⟩ := hQ158
       have N158 : Fr n0 L158 := by rw [l158]; exact Fr.app N150 N158q
       have O158 := O150.keep K158q all0
       have K158 : Keep h0 T158.heap [] := K150.trans K158q all0
       have sf161 := Safe.keep K158q sf0 CR150.1 sf155
       have sf162 := Safe.keep K158q sf0 CR150.1 sf156
       have sf163 := Safe.keep K158q sf0 CR150.1 sf157
       have CR158 := CR150.trans (CHr.keep K158q sf0 CR150.1)
       show Go _ _ _ _ (T158.setTop (mkF m 287 #[lI p0, lI p1, lI p2, lI jb, lI jm, lI jc, lI jf, lR b138, lI (0 : Int32), lR w_C, lR ob_5, lU] [(.ref w_OE)]))
       refine Go.st (fun _ => XS.astore X158.here hx rfl (hb hby at_287) rfl rfl (l' := #[lI p0, lI p1, lI p2, lI jb, lI jm, lI jc, lI jf, lR b138, lI (0 : Int32), lR w_C, lR w_OE, lU]) rfl) ?_
       show Go _ _ _ _ (T158.setTop (mkF m 289 #[lI p0, lI p1, lI p2, lI jb, lI jm, lI jc, lI jf, lR b138, lI (0 : Int32), lR w_C, lR w_OE, lU] []))
       refine Go.st (fun _ => XS.iload X158.here hx rfl (hb hby at_289) rfl) ?_
       show Go _ _ _ _ (T158.setTop (mkF m 291 #[lI p0, lI p1, lI p2, lI jb, lI jm, lI jc, lI jf, lR b138, lI (0 : Int32), lR w_C, lR w_OE, lU] [(.int 0)]))
       refine Go.st (fun _ => XS.ifYes X158.here hx rfl (pc0 := 291) (pc' := 318) rfl (hb hby at_291) rfl ((if0 _ _).trans (teq (by decide)).1) (by decide) (by decide)) ?_
       show Go _ _ _ _ (T158.setTop (mkF m 318 #[lI p0, lI p1, lI p2, lI jb, lI jm, lI jc, lI jf, lR b138, lI (0 : Int32), lR w_C, lR w_OE, lU] []))
       refine Go.st (fun _ => XS.aload X158.here hx rfl (hb hby at_318) rfl rfl) ?_
       show Go _ _ _ _ (T158.setTop (mkF m 320 #[lI p0, lI p1, lI p2, lI jb, lI jm, lI jc, lI jf, lR b138, lI (0 : Int32), lR w_C, lR w_OE, lU] [(.ref w_OE)]))
       obtain ⟨cq164, kq164, q164a, q164b, q164c⟩ := isOf hZ rfl (X_OE.ext O158.2)
       obtain ⟨_, _, ⟨T164, L164, k164, n164⟩, -, X164, ⟨Lc164, hQ164, l164, y164, z164⟩, st164⟩ := X158.virtualBack hx (y := (⟨"java/util/Optional", "isPresent", "()Z"⟩ : MethodName)) (z := (⟨"java/util/Optional", "isPresent", "()Z"⟩ : MethodName)) hown (mvT hZ (ow hw 86 rfl)) (mvT hZ (ow hw 87 rfl)) (notFace_of_selects (args := #[]) (mvT hZ (ow hw 89 rfl))) (mvT hZ (ow hw 89 rfl)) (mvT hZ (ow hw 88 rfl)) (by decide) (backOf (W := 0) (rm_ip0 l Z a0 hw [] w_OE T158.heap n0 O158 (I_OE_value.ext O158.2)) hZ (ow hw 90 rfl) (ow hw 71 rfl) (by decide) (by decide)) q164a q164c (g := (mkF m 320 #[lI p0, lI p1, lI p2, lI jb, lI jm, lI jc, lI jf, lR b138, lI (0 : Int32), lR w_C, lR w_OE, lU] [(.ref w_OE)])) rfl (by rw [hml]; rfl) (Steps.refl _) (argsL := []) (rest := []) (lenOf own_pd20 rfl) rfl (by show 2 * 0 + _ ≤ _; exact Nat.le_of_eq rfl) (hb hby at_320) (fun _ _ => ⟨rfl, rfl, (by decide : 5 + 0 ≤ _), (by decide : 32 + 0 ≤ _)⟩)
       dsimp only [Pt.U, Pt.locs, Pt.cells, Pt.slots] at X164 l164 y164 z164 st164 hQ164
       subst y164 z164
       refine Go.tr st164 ?_
       obtain ⟨rfl, N164q, e164⟩ := hQ164
       have N164 : Fr n0 L164 := by rw [l164]; exact Fr.app N158 N164q
       show Go _ _ _ _ (T164.setTop (mkF m 323 #[lI p0, lI p1, lI p2, lI jb, lI jm, lI jc, lI jf, lR b138, lI (0 : Int32), lR w_C, lR w_OE, lU] [(.int 0)]))
       refine Go.st (fun _ => XS.ifNo X164.here hx rfl (hb hby at_323) rfl ((if0 _ _).trans (teq (by decide)).2)) ?_
       show Go _ _ _ _ (T164.setTop (mkF m 326 #[lI p0, lI p1, lI p2, lI jb, lI jm, lI jc, lI jf, lR b138, lI (0 : Int32), lR w_C, lR w_OE, lU] []))
       refine Go.st (fun _ => XS.iconst X164.here hx rfl (hb hby at_326)) ?_
       show Go _ _ _ _ (T164.setTop (mkF m 327 #[lI p0, lI p1, lI p2, lI jb, lI jm, lI jc, lI jf, lR b138, lI (0 : Int32), lR w_C, lR w_OE, lU] [(.int 1)]))
       refine Go.st (fun _ => XS.goto X164.here hx rfl (pc0 := 327) (pc' := 331) rfl (hb hby at_327) (by decide) (by decide)) ?_
       show Go _ _ _ _ (T164.setTop (mkF m 331 #[lI p0, lI p1, lI p2, lI jb, lI jm, lI jc, lI jf, lR b138, lI (0 : Int32), lR w_C, lR w_OE, lU] [(.int 1)]))
       obtain ⟨fs, hr, hrun, hended, -, hW, hpair, hsame⟩ := X164.leaveW hS0 (by rw [e164]; exact (Nat.le_trans (Nat.le_trans (Nat.le_trans (Nat.le_trans (Nat.le_trans hk0 K4q.1) E138.1) K142q.1) K150q.1) K158q.1)) (v := some (.int 1)) (fun h => by rw [Bd.returns] at h; cases h)
       have hCRe := CR158.trans (CHv.at X164 hZ hEL CR158.1)
       refine ⟨_, ?_, hPend _ _ hrun hended ⟨_, _, rfl, ?_, ?_, ⟨_, rfl⟩, hW, hpair, hsame.mono (by decide) (by decide)⟩⟩
       ·exact retN X164 hx (t := .boolean) Bd.returns (by simp) (hb hby at_331) hr
       ·show Q_rm_law Z _ _ _ _ _ _ _ _ _ _ _ _ _ _ _ _ h0 n0 _ T164.heap _
        rw [e164]
        exact ⟨rfl, N164, K158⟩
       ·show CHr Z consts_1 s.vm s.heap T164.vm T164.heap
        rw [hh, e164]
        exact hCRe
  ·skip
   refine Go.st (fun _ => XS.ifNo X0.here hx rfl (hb hby at_32) rfl ((if0 _ _).trans (feq hc2).1)) ?_
   show Go _ _ _ _ (s₁.setTop (mkF m 35 #[lI p0, lI p1, lI p2, lI jb, lI jm, lI jc, lI jf, lU, lU, lU, lU, lU] []))
   refine Go.st (fun _ => XS.iloadN X0.here hx rfl (hb hby at_35) rfl) ?_
   refine Go.st (fun _ => XS.iconst X0.here hx rfl (hb hby at_36)) ?_
   show Go _ _ _ _ (s₁.setTop (mkF m 37 #[lI p0, lI p1, lI p2, lI jb, lI jm, lI jc, lI jf, lU, lU, lU, lU, lU] [(.int 1), (.int jb)]))
   by_cases hc165 : jb = (1 : Int32)
   ·skip
    refine Go.st (fun _ => XS.icmpNo X0.here hx rfl (hb hby at_37) rfl (teq hc165).2) ?_
    show Go _ _ _ _ (s₁.setTop (mkF m 40 #[lI p0, lI p1, lI p2, lI jb, lI jm, lI jc, lI jf, lU, lU, lU, lU, lU] []))
    refine Go.st (fun _ => XS.iloadN X0.here hx rfl (hb hby at_40) rfl) ?_
    show Go _ _ _ _ (s₁.setTop (mkF m 41 #[lI p0, lI p1, lI p2, lI jb, lI jm, lI jc, lI jf, lU, lU, lU, lU, lU] [(.int jb)]))
    have hb166 : ¬ (jb = (0 : Int32)) := by assumption
    refine Go.st (fun _ => XS.ifYes X0.here hx rfl (pc0 := 41) (pc' := 50) rfl (hb hby at_41) rfl ((if0 _ _).trans (feq hb166).2) (by decide) (by decide)) ?_
    show Go _ _ _ _ (s₁.setTop (mkF m 50 #[lI p0, lI p1, lI p2, lI jb, lI jm, lI jc, lI jf, lU, lU, lU, lU, lU] []))
    obtain ⟨_, _, ⟨T167, L167, k167, n167⟩, -, X167, ⟨Lc167, hQ167, l167, y167, z167⟩, st167⟩ := Jvm.LawKit.callS X0 hx (y := (⟨"com/example/tidewall/tidewall/ledger/AccountClassByIdPinLaw", "prop", "()[C"⟩ : MethodName)) hown (mvT hZ (ow hw 96 rfl)) (mvT hZ (ow hw 97 rfl)) (mvT hZ (ow hw 3 rfl)) (mvT hZ (ow hw 98 rfl)) (by decide) (backOf (W := 0) (rm_mpr l Z a0 hw []  h0 n0 X00 ) hZ (ow hw 98 rfl) (ow hw 3 rfl) (by decide) (by decide)) (g := (mkF m 50 #[lI p0, lI p1, lI p2, lI jb, lI jm, lI jc, lI jf, lU, lU, lU, lU, lU] [])) rfl (by rw [hml]; rfl) (argsL := []) (rest := []) (lenOf own_pd17 rfl) rfl (by show 2 * 0 + _ ≤ _; exact Nat.le_of_eq rfl) (hb hby at_50) (fun _ _ => ⟨rfl, e0, (by decide : 0 + 1 ≤ _), (by decide : 0 + 11 ≤ _)⟩)
    dsimp only [Pt.U, Pt.locs, Pt.cells, Pt.slots] at X167 l167 y167 z167 st167 hQ167
    subst y167 z167
    refine Go.st st167 ?_
    obtain ⟨ob_168, kb_169, rfl, N167q, K167q, q167_0, q167_1⟩ := hQ167
    have N167 : Fr n0 L167 := by rw [l167]; exact Fr.app N0 N167q
    have SN167_0 : Safe Z consts_1 s.vm h0 ob_168 := Safe.new q167_0
    have O167 := X00.keep K167q all0
    have K167 : Keep h0 T167.heap [] := (Keep.refl h0 []).trans K167q all0
    have sf170 := Safe.keep K167q sf0 CR0.1 SN167_0
    have CR167 := CR0.trans (CHr.keep K167q sf0 CR0.1)
    have sz_ob_168 : h0.size ≤ ob_168 := Nat.le_trans (Keep.refl h0 []).1 q167_0
    have g_ob_168 : n0 ≤ ob_168 := Nat.le_trans (own_oldsz X00) sz_ob_168
    show Go _ _ _ _ (T167.setTop (mkF m 53 #[lI p0, lI p1, lI p2, lI jb, lI jm, lI jc, lI jf, lU, lU, lU, lU, lU] [(.ref ob_168)]))
    refine Go.st (fun _ => XS.astore X167.here hx rfl (hb hby at_53) rfl rfl (l' := #[lI p0, lI p1, lI p2, lI jb, lI jm, lI jc, lI jf, lU, lU, lU, lR ob_168, lU]) rfl) ?_
    show Go _ _ _ _ (T167.setTop (mkF m 55 #[lI p0, lI p1, lI p2, lI jb, lI jm, lI jc, lI jf, lU, lU, lU, lR ob_168, lU] []))
    refine Go.st (fun _ => XS.iloadN X167.here hx rfl (hb hby at_55) rfl) ?_
    show Go _ _ _ _ (T167.setTop (mkF m 56 #[lI p0, lI p1, lI p2, lI jb, lI jm, lI jc, lI jf, lU, lU, lU, lR ob_168, lU] [(.int jb)]))
    have hb171 : ¬ (jb = (0 : Int32)) := by assumption
    refine Go.st (fun _ => XS.ifYes X167.here hx rfl (pc0 := 56) (pc' := 65) rfl (hb hby at_56) rfl ((if0 _ _).trans (feq hb171).2) (by decide) (by decide)) ?_
    show Go _ _ _ _ (T167.setTop (mkF m 65 #[lI p0, lI p1, lI p2, lI jb, lI jm, lI jc, lI jf, lU, lU, lU, lR ob_168, lU] []))
    obtain ⟨T172, X172, e172, st172⟩ := getS2 X167 hx hZ hown (host := "") (Or.inl (ow hw 99 rfl)) Via.refl rfl (S_P.ext O167.2) (g := (mkF m 65 #[lI p0, lI p1, lI p2, lI jb, lI jm, lI jc, lI jf, lU, lU, lU, lR ob_168, lU] [])) rfl (hb hby at_65)
    refine Go.st st172 ?_
    show Go _ _ _ _ (T172.setTop (mkF m 68 #[lI p0, lI p1, lI p2, lI jb, lI jm, lI jc, lI jf, lU, lU, lU, lR ob_168, lU] [(.ref w_P)]))
    refine Go.st (fun _ => XS.astore X172.here hx rfl (hb hby at_68) rfl rfl (l' := #[lI p0, lI p1, lI p2, lI jb, lI jm, lI jc, lI jf, lU, lU, lR w_P, lR ob_168, lU]) rfl) ?_
    show Go _ _ _ _ (T172.setTop (mkF m 70 #[lI p0, lI p1, lI p2, lI jb, lI jm, lI jc, lI jf, lU, lU, lR w_P, lR ob_168, lU] []))
    refine Go.st (fun _ => XS.iload X172.here hx rfl (hb hby at_70) rfl) ?_
    show Go _ _ _ _ (T172.setTop (mkF m 72 #[lI p0, lI p1, lI p2, lI jb, lI jm, lI jc, lI jf, lU, lU, lR w_P, lR ob_168, lU] [(.int jm)]))
    by_cases hc173 : jm = (0 : Int32)
    ·skip
     refine Go.st (fun _ => XS.ifNo X172.here hx rfl (hb hby at_72) rfl ((if0 _ _).trans (teq hc173).2)) ?_
     show Go _ _ _ _ (T172.setTop (mkF m 75 #[lI p0, lI p1, lI p2, lI jb, lI jm, lI jc, lI jf, lU, lU, lR w_P, lR ob_168, lU] []))
     obtain ⟨T174, h174, X174, e174, E174, A174, D174, -, st174⟩ := newO X172 hx hZ hown (ow hw 9 rfl) (ow hw 10 rfl) (ow hw 11 rfl) e172 (g := (mkF m 75 #[lI p0, lI p1, lI p2, lI jb, lI jm, lI jc, lI jf, lU, lU, lR w_P, lR ob_168, lU] [])) rfl (hb hby at_75) (by decide) (by decide)
     obtain ⟨b174, g174⟩ : ∃ z, z = T167.heap.size := ⟨_, rfl⟩
     rw [← g174] at A174 D174 st174
     refine Go.st st174 ?_
     have g_b174 : n0 ≤ b174 := Nat.le_trans (own_oldsz O167) (Nat.le_of_eq g174.symm)
     have sz_b174 : h0.size ≤ b174 := Nat.le_trans K167.1 (Nat.le_of_eq g174.symm)
     have K174 : Keep h0 h174 [] := K167.ext E174
     have O174 := O167.ext E174
     have sf175 := Safe.ext E174 CR167.1 sf170
     have SF_b174 : Safe Z consts_1 s.vm h174 b174 := Safe.ext E174 CR167.1 (Safe.new (Nat.le_of_eq g174.symm))
     have CR174 := CR167.trans (CHr.ext E174 CR167.1)
     have F176 : Fld Z h174 b174 "java/lang/String" "coder" "B" (.int 0) := D174 (Or.inr (ow hw 35 rfl)) (ty := .byte) (by decide)
     have F177 : Fld Z h174 b174 "java/lang/String" "value" "[B" .null := D174 (Or.inr (ow hw 37 rfl)) (ty := (.array .byte)) (by decide)
     show Go _ _ _ _ (T174.setTop (mkF m 78 #[lI p0, lI p1, lI p2, lI jb, lI jm, lI jc, lI jf, lU, lU, lR w_P, lR ob_168, lU] [(.ref b174)]))
     refine Go.st (fun _ => XS.dup X174.here hx rfl (hb hby at_78) rfl rfl) ?_
     refine Go.st (fun _ => XS.aload X174.here hx rfl (hb hby at_79) rfl rfl) ?_
     show Go _ _ _ _ (T174.setTop (mkF m 81 #[lI p0, lI p1, lI p2, lI jb, lI jm, lI jc, lI jf, lU, lU, lR w_P, lR ob_168, lU] [(.ref ob_168), (.ref b174), (.ref b174)]))
     have c179 := (q167_1.ext E174)
     have hp178 : ∀ c ∈ ([112, 114, 111, 112, 114, 105, 101, 116, 97, 114, 121] : List Int32), ¬ c < 0 ∧ ¬ (255 : Int32) < c := by
      intro c hc
      simp only [List.mem_cons, List.not_mem_nil, or_false] at hc
      rcases hc with rfl | rfl | rfl | rfl | rfl | rfl | rfl | rfl | rfl | rfl | rfl
      ·decide
      ·decide
      ·decide
      ·decide
      ·decide
      ·decide
      ·decide
      ·decide
      ·decide
      ·decide
      ·decide
     obtain ⟨_, _, ⟨T178, L178, k178, n178⟩, -, X178, ⟨Lc178, hQ178, l178, y178, z178⟩, st178⟩ := X174.specialBack hx (y := (⟨"java/lang/String", "<init>", "([C)V"⟩ : MethodName)) rfl hown (mvT hZ (ow hw 12 rfl)) (mvT hZ (ow hw 13 rfl)) (mvT hZ (ow hw 14 rfl)) (by decide) (StrChars.Road.backV (W := 1) hZ (fun d hd => hw d (own_wNew d hd)) (kI := 4) (ow hw 10 rfl) (cs := ([112, 114, 111, 112, 114, 105, 101, 116, 97, 114, 121] : List Int32)) (bs := (([112, 114, 111, 112, 114, 105, 101, 116, 97, 114, 121] : List Int32)).map (fun c => c.toInt8.toInt32)) (n := 11) g_b174 (own_oldsz O174) A174 F177 F176 c179 (S_CS.ext O174.2) nz_CS rfl rfl (by decide) (by decide) hp178 rfl (by decide) (by decide)) (g := (mkF m 81 #[lI p0, lI p1, lI p2, lI jb, lI jm, lI jc, lI jf, lU, lU, lR w_P, lR ob_168, lU] [(.ref ob_168), (.ref b174), (.ref b174)])) rfl (by rw [hml]; rfl) (Steps.refl _) (a := b174) (argsL := [(.ref ob_168)]) (rest := [(.ref b174)]) (lenOf own_pd18 rfl) rfl (by show 2 * 0 + _ ≤ _; exact Nat.le_of_eq rfl) (hb hby at_81) (fun _ _ => ⟨rfl, e174, (by decide : 2 + 1 ≤ _), (by decide : 15 + 11 ≤ _)⟩)
     dsimp only [Pt.U, Pt.locs, Pt.cells, Pt.slots] at X178 l178 y178 z178 st178 hQ178
     subst y178 z178
     refine Go.tr st178 ?_
     obtain ⟨rfl, N178q, K178q, E178x, C178x, t178, kb178, gt178, szt178, net178, V178x, A178x⟩ := hQ178
     have N178 : Fr n0 L178 := by rw [l178]; exact Fr.app N167 N178q
     have O178 := O174.keep K178q (allS g_b174 all0)
     have K178 : Keep h0 T178.heap [] := K174.trans K178q (allS (Or.inr sz_b174) all0)
     have sf180 := Safe.keep K178q (sfS SF_b174 sf0) CR174.1 sf175
     have sf181 := Safe.keep K178q (sfS SF_b174 sf0) CR174.1 SF_b174
     have CR178 := CR174.trans (CHr.keep K178q (sfS SF_b174 sf0) CR174.1)
     have sz_t178 : h0.size ≤ t178 := Nat.le_trans K174.1 szt178
     show Go _ _ _ _ (T178.setTop (mkF m 84 #[lI p0, lI p1, lI p2, lI jb, lI jm, lI jc, lI jf, lU, lU, lR w_P, lR ob_168, lU] [(.ref b174)]))
     refine Go.st (fun _ => XS.astore X178.here hx rfl (hb hby at_84) rfl rfl (l' := #[lI p0, lI p1, lI p2, lI jb, lI jm, lI jc, lI jf, lR b174, lU, lR w_P, lR ob_168, lU]) rfl) ?_
     show Go _ _ _ _ (T178.setTop (mkF m 86 #[lI p0, lI p1, lI p2, lI jb, lI jm, lI jc, lI jf, lR b174, lU, lR w_P, lR ob_168, lU] []))
     refine Go.st (fun _ => XS.iconst X178.here hx rfl (hb hby at_86)) ?_
     show Go _ _ _ _ (T178.setTop (mkF m 87 #[lI p0, lI p1, lI p2, lI jb, lI jm, lI jc, lI jf, lR b174, lU, lR w_P, lR ob_168, lU] [(.int 1)]))
     refine Go.st (fun _ => XS.istore X178.here hx rfl (hb hby at_87) rfl (l' := #[lI p0, lI p1, lI p2, lI jb, lI jm, lI jc, lI jf, lR b174, lI (1 : Int32), lR w_P, lR ob_168, lU]) rfl) ?_
     show Go _ _ _ _ (T178.setTop (mkF m 89 #[lI p0, lI p1, lI p2, lI jb, lI jm, lI jc, lI jf, lR b174, lI (1 : Int32), lR w_P, lR ob_168, lU] []))
     refine Go.st (fun _ => XS.goto X178.here hx rfl (pc0 := 89) (pc' := 231) rfl (hb hby at_89) (by decide) (by decide)) ?_
     show Go _ _ _ _ (T178.setTop (mkF m 231 #[lI p0, lI p1, lI p2, lI jb, lI jm, lI jc, lI jf, lR b174, lI (1 : Int32), lR w_P, lR ob_168, lU] []))
     refine Go.st (fun _ => XS.goto X178.here hx rfl (pc0 := 231) (pc' := 282) rfl (hb hby at_231) (by decide) (by decide)) ?_
     show Go _ _ _ _ (T178.setTop (mkF m 282 #[lI p0, lI p1, lI p2, lI jb, lI jm, lI jc, lI jf, lR b174, lI (1 : Int32), lR w_P, lR ob_168, lU] []))
     refine Go.st (fun _ => XS.aload X178.here hx rfl (hb hby at_282) rfl rfl) ?_
     show Go _ _ _ _ (T178.setTop (mkF m 284 #[lI p0, lI p1, lI p2, lI jb, lI jm, lI jc, lI jf, lR b174, lI (1 : Int32), lR w_P, lR ob_168, lU] [(.ref b174)]))
     have c183 := (c179.keep K178q (ninS (Nat.ne_of_lt (Nat.lt_of_lt_of_le q167_1.lt (Nat.le_of_eq g174.symm))) nin0))
     obtain ⟨_, _, ⟨T182, L182, k182, n182⟩, -, X182, ⟨Lc182, hQ182, l182, y182, z182⟩, st182⟩ := Jvm.LawKit.callS X178 hx (y := (⟨"com/example/tidewall/tidewall/ledger/AccountClass", "byId", "(Ljava/lang/String;)Ljava/util/Optional;"⟩ : MethodName)) hown (mvT hZ (ow hw 38 rfl)) (mvT hZ (ow hw 39 rfl)) (mvT hZ (ow hw 7 rfl)) (mvT hZ (ow hw 40 rfl)) (by decide) (backOf (W := 0) (rm_byp l Z a0 hw [] w_C S_C X_C w_P S_P X_P w_V k_V S_V X_V V_V w_CS F_CS X_CS I_CS_coder w_CB k_CB F_CB V_CB w_PS F_PS X_PS I_PS_coder w_PB k_PB F_PB V_PB S_AD S_HI S_LO w_OE S_OE X_OE I_OE_value g_CS S_CS nz_CS g_SF S_SF r_SF b174 ([112, 114, 111, 112, 114, 105, 101, 116, 97, 114, 121] : List Int32) t178 kb178 T178.heap n0 O178 E178x C178x V178x (own_arvN rfl A178x) hp178 (Nat.le_of_ble_eq_true rfl) (own_lenne (by simp)) rfl) hZ (ow hw 40 rfl) (ow hw 7 rfl) (by decide) (by decide)) (g := (mkF m 284 #[lI p0, lI p1, lI p2, lI jb, lI jm, lI jc, lI jf, lR b174, lI (1 : Int32), lR w_P, lR ob_168, lU] [(.ref b174)])) rfl (by rw [hml]; rfl) (argsL := [(.ref b174)]) (rest := []) (lenOf own_pd19 rfl) rfl (by show 2 * 0 + _ ≤ _; exact Nat.le_of_eq rfl) (hb hby at_284) (fun _ _ => ⟨rfl, rfl, (by decide : 3 + 2 ≤ _), (by decide : 26 + 3 ≤ _)⟩)
     dsimp only [Pt.U, Pt.locs, Pt.cells, Pt.slots] at X182 l182 y182 z182 st182 hQ182
     subst y182 z182
     refine Go.st st182 ?_
     obtain ⟨ob_184, rfl, N182q, K182q, q182_0, q182_1, q182_2⟩ := hQ182
     have N182 : Fr n0 L182 := by rw [l182]; exact Fr.app N178 N182q
     have SN182_0 : Safe Z consts_1 s.vm T178.heap ob_184 := Safe.new q182_0
     have O182 := O178.keep K182q all0
     have K182 : Keep h0 T182.heap [] := K178.trans K182q all0
     have sf185 := Safe.keep K182q sf0 CR178.1 sf180
     have sf186 := Safe.keep K182q sf0 CR178.1 sf181
     have sf187 := Safe.keep K182q sf0 CR178.1 SN182_0
     have CR182 := CR178.trans (CHr.keep K182q sf0 CR178.1)
     have sz_ob_184 : h0.size ≤ ob_184 := Nat.le_trans K178.1 q182_0
     have g_ob_184 : n0 ≤ ob_184 := Nat.le_trans (own_oldsz X00) sz_ob_184
     show Go _ _ _ _ (T182.setTop (mkF m 287 #[lI p0, lI p1, lI p2, lI jb, lI jm, lI jc, lI jf, lR b174, lI (1 : Int32), lR w_P, lR ob_168, lU] [(.ref ob_184)]))
     refine Go.st (fun _ => XS.astore X182.here hx rfl (hb hby at_287) rfl rfl (l' := #[lI p0, lI p1, lI p2, lI jb, lI jm, lI jc, lI jf, lR b174, lI (1 : Int32), lR w_P, lR ob_184, lU]) rfl) ?_
     show Go _ _ _ _ (T182.setTop (mkF m 289 #[lI p0, lI p1, lI p2, lI jb, lI jm, lI jc, lI jf, lR b174, lI (1 : Int32), lR w_P, lR ob_184, lU] []))
     refine Go.st (fun _ => XS.iload X182.here hx rfl (hb hby at_289) rfl) ?_
     show Go _ _ _ _ (T182.setTop (mkF m 291 #[lI p0, lI p1, lI p2, lI jb, lI jm, lI jc, lI jf, lR b174, lI (1 : Int32), lR w_P, lR ob_184, lU] [(.int 1)]))
     refine Go.st (fun _ => XS.ifNo X182.here hx rfl (hb hby at_291) rfl ((if0 _ _).trans (feq (by decide)).1)) ?_
     show Go _ _ _ _ (T182.setTop (mkF m 294 #[lI p0, lI p1, lI p2, lI jb, lI jm, lI jc, lI jf, lR b174, lI (1 : Int32), lR w_P, lR ob_184, lU] []))
     refine Go.st (fun _ => XS.aload X182.here hx rfl (hb hby at_294) rfl rfl) ?_
     show Go _ _ _ _ (T182.setTop (mkF m 296 #[lI p0, lI p1, lI p2, lI jb, lI jm, lI jc, lI jf, lR b174, lI (1 : Int32), lR w_P, lR ob_184, lU] [(.ref ob_184)]))
     obtain ⟨cq188, kq188, q188a, q188b, q188c⟩ := isOf hZ rfl q182_1
     obtain ⟨_, _, ⟨T188, L188, k188, n188⟩, -, X188, ⟨Lc188, hQ188, l188, y188, z188⟩, st188⟩ := X182.virtualBack hx (y := (⟨"java/util/Optional", "isPresent", "()Z"⟩ : MethodName)) (z := (⟨"java/util/Optional", "isPresent", "()Z"⟩ : MethodName)) hown (mvT hZ (ow hw 86 rfl)) (mvT hZ (ow hw 87 rfl)) (notFace_of_selects (args := #[]) (mvT hZ (ow hw 89 rfl))) (mvT hZ (ow hw 89 rfl)) (mvT hZ (ow hw 88 rfl)) (by decide) (backOf (W := 0) (rm_ip1 l Z a0 hw [] ob_184 w_P T182.heap n0 O182 q182_2) hZ (ow hw 90 rfl) (ow hw 71 rfl) (by decide) (by decide)) q188a q188c (g := (mkF m 296 #[lI p0, lI p1, lI p2, lI jb, lI jm, lI jc, lI jf, lR b174, lI (1 : Int32), lR w_P, lR ob_184, lU] [(.ref ob_184)])) rfl (by rw [hml]; rfl) (Steps.refl _) (argsL := []) (rest := []) (lenOf own_pd20 rfl) rfl (by show 2 * 0 + _ ≤ _; exact Nat.le_of_eq rfl) (hb hby at_296) (fun _ _ => ⟨rfl, rfl, (by decide : 5 + 0 ≤ _), (by decide : 29 + 0 ≤ _)⟩)
     dsimp only [Pt.U, Pt.locs, Pt.cells, Pt.slots] at X188 l188 y188 z188 st188 hQ188
     subst y188 z188
     refine Go.tr st188 ?_
     obtain ⟨rfl, N188q, e188⟩ := hQ188
     have N188 : Fr n0 L188 := by rw [l188]; exact Fr.app N182 N188q
     show Go _ _ _ _ (T188.setTop (mkF m 299 #[lI p0, lI p1, lI p2, lI jb, lI jm, lI jc, lI jf, lR b174, lI (1 : Int32), lR w_P, lR ob_184, lU] [(.int 1)]))
     refine Go.st (fun _ => XS.ifNo X188.here hx rfl (hb hby at_299) rfl ((if0 _ _).trans (feq (by decide)).1)) ?_
     show Go _ _ _ _ (T188.setTop (mkF m 302 #[lI p0, lI p1, lI p2, lI jb, lI jm, lI jc, lI jf, lR b174, lI (1 : Int32), lR w_P, lR ob_184, lU] []))
     refine Go.st (fun _ => XS.aload X188.here hx rfl (hb hby at_302) rfl rfl) ?_
     show Go _ _ _ _ (T188.setTop (mkF m 304 #[lI p0, lI p1, lI p2, lI jb, lI jm, lI jc, lI jf, lR b174, lI (1 : Int32), lR w_P, lR ob_184, lU] [(.ref ob_184)]))
     obtain ⟨cq189, kq189, q189a, q189b, q189c⟩ := isOf hZ e188 q182_1
     obtain ⟨_, _, ⟨T189, L189, k189, n189⟩, -, X189, ⟨Lc189, hQ189, l189, y189, z189⟩, st189⟩ := X188.virtualBack hx (y := (⟨"java/util/Optional", "get", "()Ljava/lang/Object;"⟩ : MethodName)) (z := (⟨"java/util/Optional", "get", "()Ljava/lang/Object;"⟩ : MethodName)) hown (mvT hZ (ow hw 91 rfl)) (mvT hZ (ow hw 92 rfl)) (notFace_of_selects (args := #[]) (mvT hZ (ow hw 94 rfl))) (mvT hZ (ow hw 94 rfl)) (mvT hZ (ow hw 93 rfl)) (by decide) (backOf (W := 0) (rm_oget l Z a0 hw [] ob_184 w_P T182.heap n0 O182 q182_2) hZ (ow hw 95 rfl) (ow hw 71 rfl) (by decide) (by decide)) q189a q189c (g := (mkF m 304 #[lI p0, lI p1, lI p2, lI jb, lI jm, lI jc, lI jf, lR b174, lI (1 : Int32), lR w_P, lR ob_184, lU] [(.ref ob_184)])) rfl (by rw [hml]; rfl) (Steps.refl _) (argsL := []) (rest := []) (lenOf own_pd21 rfl) rfl (by show 2 * 0 + _ ≤ _; exact Nat.le_of_eq rfl) (hb hby at_304) (fun _ _ => ⟨rfl, e188, (by decide : 5 + 0 ≤ _), (by decide : 29 + 0 ≤ _)⟩)
     dsimp only [Pt.U, Pt.locs, Pt.cells, Pt.slots] at X189 l189 y189 z189 st189 hQ189
     subst y189 z189
     refine Go.tr st189 ?_
     obtain ⟨rfl, N189q, e189⟩ := hQ189
     have N189 : Fr n0 L189 := by rw [l189]; exact Fr.app N188 N189q
     show Go _ _ _ _ (T189.setTop (mkF m 307 #[lI p0, lI p1, lI p2, lI jb, lI jm, lI jc, lI jf, lR b174, lI (1 : Int32), lR w_P, lR ob_184, lU] [(.ref w_P)]))
     refine Go.st (fun _ => XS.aload X189.here hx rfl (hb hby at_307) rfl rfl) ?_
     show Go _ _ _ _ (T189.setTop (mkF m 309 #[lI p0, lI p1, lI p2, lI jb, lI jm, lI jc, lI jf, lR b174, lI (1 : Int32), lR w_P, lR ob_184, lU] [(.ref w_P), (.ref w_P)]))
     refine Go.st (fun _ => Jvm.RoadKit.acmp (g := (mkF m 309 #[lI p0, lI p1, lI p2, lI jb, lI jm, lI jc, lI jf, lR b174, lI (1 : Int32), lR w_P, lR ob_184, lU] [(.ref w_P), (.ref w_P)])) X189 hx rfl rfl rfl (pc0 := 309) (pc' := 312) (same := true) rfl (hb hby at_309) rfl (decide_eq_true rfl) (by decide) (by decide)) ?_
     show Go _ _ _ _ (T189.setTop (mkF m 312 #[lI p0, lI p1, lI p2, lI jb, lI jm, lI jc, lI jf, lR b174, lI (1 : Int32), lR w_P, lR ob_184, lU] []))
     refine Go.st (fun _ => XS.iconst X189.here hx rfl (hb hby at_312)) ?_
     show Go _ _ _ _ (T189.setTop (mkF m 313 #[lI p0, lI p1, lI p2, lI jb, lI jm, lI jc, lI jf, lR b174, lI (1 : Int32), lR w_P, lR ob_184, lU] [(.int 1)]))
     refine Go.st (fun _ => XS.goto X189.here hx rfl (pc0 := 313) (pc' := 317) rfl (hb hby at_313) (by decide) (by decide)) ?_
     show Go _ _ _ _ (T189.setTop (mkF m 317 #[lI p0, lI p1, lI p2, lI jb, lI jm, lI jc, lI jf, lR b174, lI (1 : Int32), lR w_P, lR ob_184, lU] [(.int 1)]))
     obtain ⟨fs, hr, hrun, hended, -, hW, hpair, hsame⟩ := X189.leaveW hS0 (by rw [e189]; exact (Nat.le_trans (Nat.le_trans (Nat.le_trans (Nat.le_trans hk0 K167q.1) E174.1) K178q.1) K182q.1)) (v := some (.int 1)) (fun h => by rw [Bd.returns] at h; cases h)
     have hCRe := CR182.trans (CHv.at X189 hZ hEL CR182.1)
     refine ⟨_, ?_, hPend _ _ hrun hended ⟨_, _, rfl, ?_, ?_, ⟨_, rfl⟩, hW, hpair, hsame.mono (by decide) (by decide)⟩⟩
     ·exact retN X189 hx (t := .boolean) Bd.returns (by simp) (hb hby at_317) hr
     ·show Q_rm_law Z _ _ _ _ _ _ _ _ _ _ _ _ _ _ _ _ h0 n0 _ T189.heap _
      rw [e189]
      exact ⟨rfl, N189, K182⟩
     ·show CHr Z consts_1 s.vm s.heap T189.vm T189.heap
      rw [hh, e189]
      exact hCRe
    ·skip
     refine Go.st (fun _ => XS.ifYes X172.here hx rfl (pc0 := 72) (pc' := 92) rfl (hb hby at_72) rfl ((if0 _ _).trans (feq hc173).2) (by decide) (by decide)) ?_
     show Go _ _ _ _ (T172.setTop (mkF m 92 #[lI p0, lI p1, lI p2, lI jb, lI jm, lI jc, lI jf, lU, lU, lR w_P, lR ob_168, lU] []))
     refine Go.st (fun _ => XS.iload X172.here hx rfl (hb hby at_92) rfl) ?_
     refine Go.st (fun _ => XS.iconst X172.here hx rfl (hb hby at_94)) ?_
     show Go _ _ _ _ (T172.setTop (mkF m 95 #[lI p0, lI p1, lI p2, lI jb, lI jm, lI jc, lI jf, lU, lU, lR w_P, lR ob_168, lU] [(.int 1), (.int jm)]))
     by_cases hc190 : jm = (1 : Int32)
     ·skip
      refine Go.st (fun _ => XS.icmpNo X172.here hx rfl (hb hby at_95) rfl (teq hc190).2) ?_
      show Go _ _ _ _ (T172.setTop (mkF m 98 #[lI p0, lI p1, lI p2, lI jb, lI jm, lI jc, lI jf, lU, lU, lR w_P, lR ob_168, lU] []))
      by_cases hcw : (255 : Int32) < jc
      ·skip
       show Go _ _ _ _ (T172.setTop (mkF m 98 #[lI p0, lI p1, lI p2, lI jb, lI jm, lI jc, lI jf, lU, lU, lR w_P, lR ob_168, lU] []))
       refine Go.st (fun _ => XS.iloadN X172.here hx rfl (hb hby at_98) rfl) ?_
       show Go _ _ _ _ (T172.setTop (mkF m 99 #[lI p0, lI p1, lI p2, lI jb, lI jm, lI jc, lI jf, lU, lU, lR w_P, lR ob_168, lU] [(.int p1)]))
       refine Go.st (fun _ => X172.ldcInt hx hown (mvT hZ (ow hw 100 rfl)) (g := (mkF m 99 #[lI p0, lI p1, lI p2, lI jb, lI jm, lI jc, lI jf, lU, lU, lR w_P, lR ob_168, lU] [(.int p1)])) rfl (hb hby at_99) _) ?_
       show Go _ _ _ _ (T172.setTop (mkF m 101 #[lI p0, lI p1, lI p2, lI jb, lI jm, lI jc, lI jf, lU, lU, lR w_P, lR ob_168, lU] [(.int 2147483647), (.int p1)]))
       refine Go.st (fun _ => XS.iand X172.here hx rfl (hb hby at_101) rfl) ?_
       show Go _ _ _ _ (T172.setTop (mkF m 102 #[lI p0, lI p1, lI p2, lI jb, lI jm, lI jc, lI jf, lU, lU, lR w_P, lR ob_168, lU] [(.int (p1 &&& (2147483647 : Int32)))]))
       refine Go.st (fun _ => XS.aload X172.here hx rfl (hb hby at_102) rfl rfl) ?_
       show Go _ _ _ _ (T172.setTop (mkF m 104 #[lI p0, lI p1, lI p2, lI jb, lI jm, lI jc, lI jf, lU, lU, lR w_P, lR ob_168, lU] [(.ref ob_168), (.int (p1 &&& (2147483647 : Int32)))]))
       refine Go.st (fun _ => own_len X172 hx hZ e172 q167_1 (g := (mkF m 104 #[lI p0, lI p1, lI p2, lI jb, lI jm, lI jc, lI jf, lU, lU, lR w_P, lR ob_168, lU] [(.ref ob_168), (.int (p1 &&& (2147483647 : Int32)))])) rfl rfl (hb hby at_104) _) ?_
       show Go _ _ _ _ (T172.setTop (mkF m 105 #[lI p0, lI p1, lI p2, lI jb, lI jm, lI jc, lI jf, lU, lU, lR w_P, lR ob_168, lU] [(.int 11), (.int (p1 &&& (2147483647 : Int32)))]))
       refine Go.st (fun _ => iremM (g := (mkF m 105 #[lI p0, lI p1, lI p2, lI jb, lI jm, lI jc, lI jf, lU, lU, lR w_P, lR ob_168, lU] [(.int 11), (.int (p1 &&& (2147483647 : Int32)))])) X172 hx rfl (hb hby at_105) rfl (by decide)) ?_
       show Go _ _ _ _ (T172.setTop (mkF m 106 #[lI p0, lI p1, lI p2, lI jb, lI jm, lI jc, lI jf, lU, lU, lR w_P, lR ob_168, lU] [(.int ((p1 &&& (2147483647 : Int32)) % (11 : Int32)))]))
       have hjp0 := own_rem11 p1
       obtain ⟨jp, he_jp⟩ : ∃ z : Int32, z = ((p1 &&& (2147483647 : Int32)) % (11 : Int32)) := ⟨_, rfl⟩
       rw [← he_jp]
       show Go _ _ _ _ (T172.setTop (mkF m 106 #[lI p0, lI p1, lI p2, lI jb, lI jm, lI jc, lI jf, lU, lU, lR w_P, lR ob_168, lU] [(.int jp)]))
       have hjp : (¬ jp < 0 ∧ jp < 11) ∧ jp.toNatClampNeg < 11 := by rw [he_jp]; exact hjp0
       refine Go.st (fun _ => XS.istore X172.here hx rfl (hb hby at_106) rfl (l' := #[lI p0, lI p1, lI p2, lI jb, lI jm, lI jc, lI jf, lU, lU, lR w_P, lR ob_168, lI jp]) rfl) ?_
       show Go _ _ _ _ (T172.setTop (mkF m 108 #[lI p0, lI p1, lI p2, lI jb, lI jm, lI jc, lI jf, lU, lU, lR w_P, lR ob_168, lI jp] []))
       refine Go.st (fun _ => XS.aload X172.here hx rfl (hb hby at_108) rfl rfl) ?_
       refine Go.st (fun _ => XS.iload X172.here hx rfl (hb hby at_110) rfl) ?_
       show Go _ _ _ _ (T172.setTop (mkF m 112 #[lI p0, lI p1, lI p2, lI jb, lI jm, lI jc, lI jf, lU, lU, lR w_P, lR ob_168, lI jp] [(.int jp), (.ref ob_168)]))
       refine Go.st (fun _ => own_ldC X172 hx hZ e172 q167_1 (j := jp) (i := (jp).toNatClampNeg) (v := (.int (([112, 114, 111, 112, 114, 105, 101, 116, 97, 114, 121] : List Int32).getD jp.toNatClampNeg 0))) hjp.1 rfl (own_getD_int ([112, 114, 111, 112, 114, 105, 101, 116, 97, 114, 121] : List Int32) _) (g := (mkF m 112 #[lI p0, lI p1, lI p2, lI jb, lI jm, lI jc, lI jf, lU, lU, lR w_P, lR ob_168, lI jp] [(.int jp), (.ref ob_168)])) rfl rfl (hb hby at_112) _) ?_
       show Go _ _ _ _ (T172.setTop (mkF m 113 #[lI p0, lI p1, lI p2, lI jb, lI jm, lI jc, lI jf, lU, lU, lR w_P, lR ob_168, lI jp] [(.int (([112, 114, 111, 112, 114, 105, 101, 116, 97, 114, 121] : List Int32).getD jp.toNatClampNeg 0))]))
       refine Go.st (fun _ => XS.iload X172.here hx rfl (hb hby at_113) rfl) ?_
       show Go _ _ _ _ (T172.setTop (mkF m 115 #[lI p0, lI p1, lI p2, lI jb, lI jm, lI jc, lI jf, lU, lU, lR w_P, lR ob_168, lI jp] [(.int jc), (.int (([112, 114, 111, 112, 114, 105, 101, 116, 97, 114, 121] : List Int32).getD jp.toNatClampNeg 0))]))
       have hb192 : ¬ ((([112, 114, 111, 112, 114, 105, 101, 116, 97, 114, 121] : List Int32).getD jp.toNatClampNeg 0) = jc) := fun q => absurd hcw (by rw [← q]; exact (own_getS (xs := ([112, 114, 111, 112, 114, 105, 101, 116, 97, 114, 121] : List Int32)) (by decide) hjp.2).2)
       refine Go.st (fun _ => XS.icmpYes X172.here hx rfl (pc0 := 115) (pc' := 122) rfl (hb hby at_115) rfl (feq hb192).2 (by decide) (by decide)) ?_
       show Go _ _ _ _ (T172.setTop (mkF m 122 #[lI p0, lI p1, lI p2, lI jb, lI jm, lI jc, lI jf, lU, lU, lR w_P, lR ob_168, lI jp] []))
       refine Go.st (fun _ => XS.iconst X172.here hx rfl (hb hby at_122)) ?_
       show Go _ _ _ _ (T172.setTop (mkF m 123 #[lI p0, lI p1, lI p2, lI jb, lI jm, lI jc, lI jf, lU, lU, lR w_P, lR ob_168, lI jp] [(.int 0)]))
       refine Go.st (fun _ => XS.istore X172.here hx rfl (hb hby at_123) rfl (l' := #[lI p0, lI p1, lI p2, lI jb, lI jm, lI jc, lI jf, lU, lI (0 : Int32), lR w_P, lR ob_168, lI jp]) rfl) ?_
       show Go _ _ _ _ (T172.setTop (mkF m 125 #[lI p0, lI p1, lI p2, lI jb, lI jm, lI jc, lI jf, lU, lI (0 : Int32), lR w_P, lR ob_168, lI jp] []))
       refine Go.st (fun _ => XS.aload X172.here hx rfl (hb hby at_125) rfl rfl) ?_
       refine Go.st (fun _ => XS.iload X172.here hx rfl (hb hby at_127) rfl) ?_
       refine Go.st (fun _ => XS.iload X172.here hx rfl (hb hby at_129) rfl) ?_
       show Go _ _ _ _ (T172.setTop (mkF m 131 #[lI p0, lI p1, lI p2, lI jb, lI jm, lI jc, lI jf, lU, lI (0 : Int32), lR w_P, lR ob_168, lI jp] [(.int jc), (.int jp), (.ref ob_168)]))
       obtain ⟨T193, h193, X193, e193, W193, V193, st193⟩ := own_stC X172 hx hZ e172 q167_1 (j := jp) (i := (jp).toNatClampNeg) hjp.1 rfl hjp.2 (g := (mkF m 131 #[lI p0, lI p1, lI p2, lI jb, lI jm, lI jc, lI jf, lU, lI (0 : Int32), lR w_P, lR ob_168, lI jp] [(.int jc), (.int jp), (.ref ob_168)])) rfl rfl (hb hby at_131)
       refine Go.st st193 ?_
       rw [own_nar16 hjc] at V193
       have sf194 := Safe.wr W193 sf170 CR167.1 sf170
       have CR193 := CR167.trans (CHr.wr W193 sf170 CR167.1)
       have K193 : Keep h0 h193 [] := K167.wr W193 (Or.inr sz_ob_168)
       have O193 := O167.wr W193 g_ob_168
       have N193 := Fr.snoc X193 N167 g_ob_168
       have V193' : Arv Z h193 ob_168 kb_169 .char (11 : Int32) ((([112, 114, 111, 112, 114, 105, 101, 116, 97, 114, 121] : List Int32).set jp.toNatClampNeg jc).map Value.int) (.int 0) := own_arv_set V193
       show Go _ _ _ _ (T193.setTop (mkF m 132 #[lI p0, lI p1, lI p2, lI jb, lI jm, lI jc, lI jf, lU, lI (0 : Int32), lR w_P, lR ob_168, lI jp] []))
       obtain ⟨T195, h195, X195, e195, E195, A195, D195, -, st195⟩ := newO X193 hx hZ hown (ow hw 9 rfl) (ow hw 10 rfl) (ow hw 11 rfl) e193 (g := (mkF m 132 #[lI p0, lI p1, lI p2, lI jb, lI jm, lI jc, lI jf, lU, lI (0 : Int32), lR w_P, lR ob_168, lI jp] [])) rfl (hb hby at_132) (by decide) (by decide)
       obtain ⟨b195, g195⟩ : ∃ z, z = h193.size := ⟨_, rfl⟩
       rw [← g195] at A195 D195 st195
       refine Go.st st195 ?_
       have g_b195 : n0 ≤ b195 := Nat.le_trans (own_oldsz O193) (Nat.le_of_eq g195.symm)
       have sz_b195 : h0.size ≤ b195 := Nat.le_trans K193.1 (Nat.le_of_eq g195.symm)
       have K195 : Keep h0 h195 [] := K193.ext E195
       have O195 := O193.ext E195
       have sf196 := Safe.ext E195 CR193.1 sf194
       have SF_b195 : Safe Z consts_1 s.vm h195 b195 := Safe.ext E195 CR193.1 (Safe.new (Nat.le_of_eq g195.symm))
       have CR195 := CR193.trans (CHr.ext E195 CR193.1)
       have F197 : Fld Z h195 b195 "java/lang/String" "coder" "B" (.int 0) := D195 (Or.inr (ow hw 35 rfl)) (ty := .byte) (by decide)
       have F198 : Fld Z h195 b195 "java/lang/String" "value" "[B" .null := D195 (Or.inr (ow hw 37 rfl)) (ty := (.array .byte)) (by decide)
       show Go _ _ _ _ (T195.setTop (mkF m 135 #[lI p0, lI p1, lI p2, lI jb, lI jm, lI jc, lI jf, lU, lI (0 : Int32), lR w_P, lR ob_168, lI jp] [(.ref b195)]))
       refine Go.st (fun _ => XS.dup X195.here hx rfl (hb hby at_135) rfl rfl) ?_
       refine Go.st (fun _ => XS.aload X195.here hx rfl (hb hby at_136) rfl rfl) ?_
       show Go _ _ _ _ (T195.setTop (mkF m 138 #[lI p0, lI p1, lI p2, lI jb, lI jm, lI jc, lI jf, lU, lI (0 : Int32), lR w_P, lR ob_168, lI jp] [(.ref ob_168), (.ref b195), (.ref b195)]))
       have c200 := (V193'.ext E195)
       obtain ⟨_, _, ⟨T199, L199, k199, n199⟩, -, X199, ⟨Lc199, hQ199, l199, y199, z199⟩, st199⟩ := X195.specialBack hx (y := (⟨"java/lang/String", "<init>", "([C)V"⟩ : MethodName)) rfl hown (mvT hZ (ow hw 12 rfl)) (mvT hZ (ow hw 13 rfl)) (mvT hZ (ow hw 14 rfl)) (by decide) (backOf (W := 1) (rm_wid1 l Z a0 hw [] S_AD S_HI S_LO g_CS S_CS nz_CS b195 ob_168 (([112, 114, 111, 112, 114, 105, 101, 116, 97, 114, 121] : List Int32).set jp.toNatClampNeg jc) kb_169 11 jp.toNatClampNeg h195 n0 O195 A195 F198 F197 g_b195 c200 (by decide) (by rw [List.length_set]; rfl) (own_setW (by decide) hjp.2 hcw) (own_setC (by decide) hjc)) hZ (ow hw 14 rfl) (ow hw 11 rfl) (by decide) (by decide)) (g := (mkF m 138 #[lI p0, lI p1, lI p2, lI jb, lI jm, lI jc, lI jf, lU, lI (0 : Int32), lR w_P, lR ob_168, lI jp] [(.ref ob_168), (.ref b195), (.ref b195)])) rfl (by rw [hml]; rfl) (Steps.refl _) (a := b195) (argsL := [(.ref ob_168)]) (rest := [(.ref b195)]) (lenOf own_pd18 rfl) rfl (by show 2 * 0 + _ ≤ _; exact Nat.le_of_eq rfl) (hb hby at_138) (fun _ _ => ⟨rfl, e195, (by decide : 2 + 2 ≤ _), (by decide : 15 + 96 ≤ _)⟩)
       dsimp only [Pt.U, Pt.locs, Pt.cells, Pt.slots] at X199 l199 y199 z199 st199 hQ199
       subst y199 z199
       refine Go.tr st199 ?_
       obtain ⟨rfl, N199q, K199q, q199_0, q199_1⟩ := hQ199
       have N199 : Fr n0 L199 := by rw [l199]; exact Fr.app N193 N199q
       have O199 := O195.keep K199q (allS g_b195 all0)
       have K199 : Keep h0 T199.heap [] := K195.trans K199q (allS (Or.inr sz_b195) all0)
       have sf201 := Safe.keep K199q (sfS SF_b195 sf0) CR195.1 sf196
       have sf202 := Safe.keep K199q (sfS SF_b195 sf0) CR195.1 SF_b195
       have CR199 := CR195.trans (CHr.keep K199q (sfS SF_b195 sf0) CR195.1)
       show Go _ _ _ _ (T199.setTop (mkF m 141 #[lI p0, lI p1, lI p2, lI jb, lI jm, lI jc, lI jf, lU, lI (0 : Int32), lR w_P, lR ob_168, lI jp] [(.ref b195)]))
       refine Go.st (fun _ => XS.astore X199.here hx rfl (hb hby at_141) rfl rfl (l' := #[lI p0, lI p1, lI p2, lI jb, lI jm, lI jc, lI jf, lR b195, lI (0 : Int32), lR w_P, lR ob_168, lI jp]) rfl) ?_
       show Go _ _ _ _ (T199.setTop (mkF m 143 #[lI p0, lI p1, lI p2, lI jb, lI jm, lI jc, lI jf, lR b195, lI (0 : Int32), lR w_P, lR ob_168, lI jp] []))
       refine Go.st (fun _ => XS.goto X199.here hx rfl (pc0 := 143) (pc' := 231) rfl (hb hby at_143) (by decide) (by decide)) ?_
       show Go _ _ _ _ (T199.setTop (mkF m 231 #[lI p0, lI p1, lI p2, lI jb, lI jm, lI jc, lI jf, lR b195, lI (0 : Int32), lR w_P, lR ob_168, lI jp] []))
       refine Go.st (fun _ => XS.goto X199.here hx rfl (pc0 := 231) (pc' := 282) rfl (hb hby at_231) (by decide) (by decide)) ?_
       show Go _ _ _ _ (T199.setTop (mkF m 282 #[lI p0, lI p1, lI p2, lI jb, lI jm, lI jc, lI jf, lR b195, lI (0 : Int32), lR w_P, lR ob_168, lI jp] []))
       refine Go.st (fun _ => XS.aload X199.here hx rfl (hb hby at_282) rfl rfl) ?_
       show Go _ _ _ _ (T199.setTop (mkF m 284 #[lI p0, lI p1, lI p2, lI jb, lI jm, lI jc, lI jf, lR b195, lI (0 : Int32), lR w_P, lR ob_168, lI jp] [(.ref b195)]))
       have c204 := (c200.keep K199q (ninS (Nat.ne_of_lt (Nat.lt_of_lt_of_le V193'.lt (Nat.le_of_eq g195.symm))) nin0))
       obtain ⟨_, _, ⟨T203, L203, k203, n203⟩, -, X203, ⟨Lc203, hQ203, l203, y203, z203⟩, st203⟩ := Jvm.LawKit.callS X199 hx (y := (⟨"com/example/tidewall/tidewall/ledger/AccountClass", "byId", "(Ljava/lang/String;)Ljava/util/Optional;"⟩ : MethodName)) hown (mvT hZ (ow hw 38 rfl)) (mvT hZ (ow hw 39 rfl)) (mvT hZ (ow hw 7 rfl)) (mvT hZ (ow hw 40 rfl)) (by decide) (backOf (W := 0) (rm_byW l Z a0 hw [] w_C S_C X_C w_P S_P X_P w_V k_V S_V X_V V_V w_CS F_CS X_CS I_CS_coder w_CB k_CB F_CB V_CB w_PS F_PS X_PS I_PS_coder w_PB k_PB F_PB V_PB S_AD S_HI S_LO w_OE S_OE X_OE I_OE_value g_CS S_CS nz_CS g_SF S_SF r_SF b195 T199.heap n0 O199 q199_0 q199_1) hZ (ow hw 40 rfl) (ow hw 7 rfl) (by decide) (by decide)) (g := (mkF m 284 #[lI p0, lI p1, lI p2, lI jb, lI jm, lI jc, lI jf, lR b195, lI (0 : Int32), lR w_P, lR ob_168, lI jp] [(.ref b195)])) rfl (by rw [hml]; rfl) (argsL := [(.ref b195)]) (rest := []) (lenOf own_pd19 rfl) rfl (by show 2 * 0 + _ ≤ _; exact Nat.le_of_eq rfl) (hb hby at_284) (fun _ _ => ⟨rfl, rfl, (by decide : 4 + 1 ≤ _), (by decide : 111 + 2 ≤ _)⟩)
       dsimp only [Pt.U, Pt.locs, Pt.cells, Pt.slots] at X203 l203 y203 z203 st203 hQ203
       subst y203 z203
       refine Go.st st203 ?_
       obtain ⟨rfl, N203q, K203q⟩ := hQ203
       have N203 : Fr n0 L203 := by rw [l203]; exact Fr.app N199 N203q
       have O203 := O199.keep K203q all0
       have K203 : Keep h0 T203.heap [] := K199.trans K203q all0
       have sf205 := Safe.keep K203q sf0 CR199.1 sf201
       have sf206 := Safe.keep K203q sf0 CR199.1 sf202
       have CR203 := CR199.trans (CHr.keep K203q sf0 CR199.1)
       show Go _ _ _ _ (T203.setTop (mkF m 287 #[lI p0, lI p1, lI p2, lI jb, lI jm, lI jc, lI jf, lR b195, lI (0 : Int32), lR w_P, lR ob_168, lI jp] [(.ref w_OE)]))
       refine Go.st (fun _ => XS.astore X203.here hx rfl (hb hby at_287) rfl rfl (l' := #[lI p0, lI p1, lI p2, lI jb, lI jm, lI jc, lI jf, lR b195, lI (0 : Int32), lR w_P, lR w_OE, lI jp]) rfl) ?_
       show Go _ _ _ _ (T203.setTop (mkF m 289 #[lI p0, lI p1, lI p2, lI jb, lI jm, lI jc, lI jf, lR b195, lI (0 : Int32), lR w_P, lR w_OE, lI jp] []))
       refine Go.st (fun _ => XS.iload X203.here hx rfl (hb hby at_289) rfl) ?_
       show Go _ _ _ _ (T203.setTop (mkF m 291 #[lI p0, lI p1, lI p2, lI jb, lI jm, lI jc, lI jf, lR b195, lI (0 : Int32), lR w_P, lR w_OE, lI jp] [(.int 0)]))
       refine Go.st (fun _ => XS.ifYes X203.here hx rfl (pc0 := 291) (pc' := 318) rfl (hb hby at_291) rfl ((if0 _ _).trans (teq (by decide)).1) (by decide) (by decide)) ?_
       show Go _ _ _ _ (T203.setTop (mkF m 318 #[lI p0, lI p1, lI p2, lI jb, lI jm, lI jc, lI jf, lR b195, lI (0 : Int32), lR w_P, lR w_OE, lI jp] []))
       refine Go.st (fun _ => XS.aload X203.here hx rfl (hb hby at_318) rfl rfl) ?_
       show Go _ _ _ _ (T203.setTop (mkF m 320 #[lI p0, lI p1, lI p2, lI jb, lI jm, lI jc, lI jf, lR b195, lI (0 : Int32), lR w_P, lR w_OE, lI jp] [(.ref w_OE)]))
       obtain ⟨cq207, kq207, q207a, q207b, q207c⟩ := isOf hZ rfl (X_OE.ext O203.2)
       obtain ⟨_, _, ⟨T207, L207, k207, n207⟩, -, X207, ⟨Lc207, hQ207, l207, y207, z207⟩, st207⟩ := X203.virtualBack hx (y := (⟨"java/util/Optional", "isPresent", "()Z"⟩ : MethodName)) (z := (⟨"java/util/Optional", "isPresent", "()Z"⟩ : MethodName)) hown (mvT hZ (ow hw 86 rfl)) (mvT hZ (ow hw 87 rfl)) (notFace_of_selects (args := #[]) (mvT hZ (ow hw 89 rfl))) (mvT hZ (ow hw 89 rfl)) (mvT hZ (ow hw 88 rfl)) (by decide) (backOf (W := 0) (rm_ip0 l Z a0 hw [] w_OE T203.heap n0 O203 (I_OE_value.ext O203.2)) hZ (ow hw 90 rfl) (ow hw 71 rfl) (by decide) (by decide)) q207a q207c (g := (mkF m 320 #[lI p0, lI p1, lI p2, lI jb, lI jm, lI jc, lI jf, lR b195, lI (0 : Int32), lR w_P, lR w_OE, lI jp] [(.ref w_OE)])) rfl (by rw [hml]; rfl) (Steps.refl _) (argsL := []) (rest := []) (lenOf own_pd20 rfl) rfl (by show 2 * 0 + _ ≤ _; exact Nat.le_of_eq rfl) (hb hby at_320) (fun _ _ => ⟨rfl, rfl, (by decide : 5 + 0 ≤ _), (by decide : 113 + 0 ≤ _)⟩)
       dsimp only [Pt.U, Pt.locs, Pt.cells, Pt.slots] at X207 l207 y207 z207 st207 hQ207
       subst y207 z207
       refine Go.tr st207 ?_
       obtain ⟨rfl, N207q, e207⟩ := hQ207
       have N207 : Fr n0 L207 := by rw [l207]; exact Fr.app N203 N207q
       show Go _ _ _ _ (T207.setTop (mkF m 323 #[lI p0, lI p1, lI p2, lI jb, lI jm, lI jc, lI jf, lR b195, lI (0 : Int32), lR w_P, lR w_OE, lI jp] [(.int 0)]))
       refine Go.st (fun _ => XS.ifNo X207.here hx rfl (hb hby at_323) rfl ((if0 _ _).trans (teq (by decide)).2)) ?_
       show Go _ _ _ _ (T207.setTop (mkF m 326 #[lI p0, lI p1, lI p2, lI jb, lI jm, lI jc, lI jf, lR b195, lI (0 : Int32), lR w_P, lR w_OE, lI jp] []))
       refine Go.st (fun _ => XS.iconst X207.here hx rfl (hb hby at_326)) ?_
       show Go _ _ _ _ (T207.setTop (mkF m 327 #[lI p0, lI p1, lI p2, lI jb, lI jm, lI jc, lI jf, lR b195, lI (0 : Int32), lR w_P, lR w_OE, lI jp] [(.int 1)]))
       refine Go.st (fun _ => XS.goto X207.here hx rfl (pc0 := 327) (pc' := 331) rfl (hb hby at_327) (by decide) (by decide)) ?_
       show Go _ _ _ _ (T207.setTop (mkF m 331 #[lI p0, lI p1, lI p2, lI jb, lI jm, lI jc, lI jf, lR b195, lI (0 : Int32), lR w_P, lR w_OE, lI jp] [(.int 1)]))
       obtain ⟨fs, hr, hrun, hended, -, hW, hpair, hsame⟩ := X207.leaveW hS0 (by rw [e207]; exact (Nat.le_trans (Nat.le_trans (Nat.le_trans (Nat.le_trans (Nat.le_trans hk0 K167q.1) (Keep.of_wr W193).1) E195.1) K199q.1) K203q.1)) (v := some (.int 1)) (fun h => by rw [Bd.returns] at h; cases h)
       have hCRe := CR203.trans (CHv.at X207 hZ hEL CR203.1)
       refine ⟨_, ?_, hPend _ _ hrun hended ⟨_, _, rfl, ?_, ?_, ⟨_, rfl⟩, hW, hpair, hsame.mono (by decide) (by decide)⟩⟩
       ·exact retN X207 hx (t := .boolean) Bd.returns (by simp) (hb hby at_331) hr
       ·show Q_rm_law Z _ _ _ _ _ _ _ _ _ _ _ _ _ _ _ _ h0 n0 _ T207.heap _
        rw [e207]
        exact ⟨rfl, N207, K203⟩
       ·show CHr Z consts_1 s.vm s.heap T207.vm T207.heap
        rw [hh, e207]
        exact hCRe
      ·skip
       show Go _ _ _ _ (T172.setTop (mkF m 98 #[lI p0, lI p1, lI p2, lI jb, lI jm, lI jc, lI jf, lU, lU, lR w_P, lR ob_168, lU] []))
       refine Go.st (fun _ => XS.iloadN X172.here hx rfl (hb hby at_98) rfl) ?_
       show Go _ _ _ _ (T172.setTop (mkF m 99 #[lI p0, lI p1, lI p2, lI jb, lI jm, lI jc, lI jf, lU, lU, lR w_P, lR ob_168, lU] [(.int p1)]))
       refine Go.st (fun _ => X172.ldcInt hx hown (mvT hZ (ow hw 100 rfl)) (g := (mkF m 99 #[lI p0, lI p1, lI p2, lI jb, lI jm, lI jc, lI jf, lU, lU, lR w_P, lR ob_168, lU] [(.int p1)])) rfl (hb hby at_99) _) ?_
       show Go _ _ _ _ (T172.setTop (mkF m 101 #[lI p0, lI p1, lI p2, lI jb, lI jm, lI jc, lI jf, lU, lU, lR w_P, lR ob_168, lU] [(.int 2147483647), (.int p1)]))
       refine Go.st (fun _ => XS.iand X172.here hx rfl (hb hby at_101) rfl) ?_
       show Go _ _ _ _ (T172.setTop (mkF m 102 #[lI p0, lI p1, lI p2, lI jb, lI jm, lI jc, lI jf, lU, lU, lR w_P, lR ob_168, lU] [(.int (p1 &&& (2147483647 : Int32)))]))
       refine Go.st (fun _ => XS.aload X172.here hx rfl (hb hby at_102) rfl rfl) ?_
       show Go _ _ _ _ (T172.setTop (mkF m 104 #[lI p0, lI p1, lI p2, lI jb, lI jm, lI jc, lI jf, lU, lU, lR w_P, lR ob_168, lU] [(.ref ob_168), (.int (p1 &&& (2147483647 : Int32)))]))
       refine Go.st (fun _ => own_len X172 hx hZ e172 q167_1 (g := (mkF m 104 #[lI p0, lI p1, lI p2, lI jb, lI jm, lI jc, lI jf, lU, lU, lR w_P, lR ob_168, lU] [(.ref ob_168), (.int (p1 &&& (2147483647 : Int32)))])) rfl rfl (hb hby at_104) _) ?_
       show Go _ _ _ _ (T172.setTop (mkF m 105 #[lI p0, lI p1, lI p2, lI jb, lI jm, lI jc, lI jf, lU, lU, lR w_P, lR ob_168, lU] [(.int 11), (.int (p1 &&& (2147483647 : Int32)))]))
       refine Go.st (fun _ => iremM (g := (mkF m 105 #[lI p0, lI p1, lI p2, lI jb, lI jm, lI jc, lI jf, lU, lU, lR w_P, lR ob_168, lU] [(.int 11), (.int (p1 &&& (2147483647 : Int32)))])) X172 hx rfl (hb hby at_105) rfl (by decide)) ?_
       show Go _ _ _ _ (T172.setTop (mkF m 106 #[lI p0, lI p1, lI p2, lI jb, lI jm, lI jc, lI jf, lU, lU, lR w_P, lR ob_168, lU] [(.int ((p1 &&& (2147483647 : Int32)) % (11 : Int32)))]))
       have hjp0 := own_rem11 p1
       obtain ⟨jp, he_jp⟩ : ∃ z : Int32, z = ((p1 &&& (2147483647 : Int32)) % (11 : Int32)) := ⟨_, rfl⟩
       rw [← he_jp]
       show Go _ _ _ _ (T172.setTop (mkF m 106 #[lI p0, lI p1, lI p2, lI jb, lI jm, lI jc, lI jf, lU, lU, lR w_P, lR ob_168, lU] [(.int jp)]))
       have hjp : (¬ jp < 0 ∧ jp < 11) ∧ jp.toNatClampNeg < 11 := by rw [he_jp]; exact hjp0
       refine Go.st (fun _ => XS.istore X172.here hx rfl (hb hby at_106) rfl (l' := #[lI p0, lI p1, lI p2, lI jb, lI jm, lI jc, lI jf, lU, lU, lR w_P, lR ob_168, lI jp]) rfl) ?_
       show Go _ _ _ _ (T172.setTop (mkF m 108 #[lI p0, lI p1, lI p2, lI jb, lI jm, lI jc, lI jf, lU, lU, lR w_P, lR ob_168, lI jp] []))
       refine Go.st (fun _ => XS.aload X172.here hx rfl (hb hby at_108) rfl rfl) ?_
       refine Go.st (fun _ => XS.iload X172.here hx rfl (hb hby at_110) rfl) ?_
       show Go _ _ _ _ (T172.setTop (mkF m 112 #[lI p0, lI p1, lI p2, lI jb, lI jm, lI jc, lI jf, lU, lU, lR w_P, lR ob_168, lI jp] [(.int jp), (.ref ob_168)]))
       refine Go.st (fun _ => own_ldC X172 hx hZ e172 q167_1 (j := jp) (i := (jp).toNatClampNeg) (v := (.int (([112, 114, 111, 112, 114, 105, 101, 116, 97, 114, 121] : List Int32).getD jp.toNatClampNeg 0))) hjp.1 rfl (own_getD_int ([112, 114, 111, 112, 114, 105, 101, 116, 97, 114, 121] : List Int32) _) (g := (mkF m 112 #[lI p0, lI p1, lI p2, lI jb, lI jm, lI jc, lI jf, lU, lU, lR w_P, lR ob_168, lI jp] [(.int jp), (.ref ob_168)])) rfl rfl (hb hby at_112) _) ?_
       show Go _ _ _ _ (T172.setTop (mkF m 113 #[lI p0, lI p1, lI p2, lI jb, lI jm, lI jc, lI jf, lU, lU, lR w_P, lR ob_168, lI jp] [(.int (([112, 114, 111, 112, 114, 105, 101, 116, 97, 114, 121] : List Int32).getD jp.toNatClampNeg 0))]))
       refine Go.st (fun _ => XS.iload X172.here hx rfl (hb hby at_113) rfl) ?_
       show Go _ _ _ _ (T172.setTop (mkF m 115 #[lI p0, lI p1, lI p2, lI jb, lI jm, lI jc, lI jf, lU, lU, lR w_P, lR ob_168, lI jp] [(.int jc), (.int (([112, 114, 111, 112, 114, 105, 101, 116, 97, 114, 121] : List Int32).getD jp.toNatClampNeg 0))]))
       by_cases hc209 : (([112, 114, 111, 112, 114, 105, 101, 116, 97, 114, 121] : List Int32).getD jp.toNatClampNeg 0) = jc
       ·skip
        have heq1 : jc = (([112, 114, 111, 112, 114, 105, 101, 116, 97, 114, 121] : List Int32).getD jp.toNatClampNeg 0) := (hc209).symm
        refine Go.st (fun _ => XS.icmpNo X172.here hx rfl (hb hby at_115) rfl (teq hc209).2) ?_
        show Go _ _ _ _ (T172.setTop (mkF m 118 #[lI p0, lI p1, lI p2, lI jb, lI jm, lI jc, lI jf, lU, lU, lR w_P, lR ob_168, lI jp] []))
        refine Go.st (fun _ => XS.iconst X172.here hx rfl (hb hby at_118)) ?_
        show Go _ _ _ _ (T172.setTop (mkF m 119 #[lI p0, lI p1, lI p2, lI jb, lI jm, lI jc, lI jf, lU, lU, lR w_P, lR ob_168, lI jp] [(.int 1)]))
        refine Go.st (fun _ => XS.goto X172.here hx rfl (pc0 := 119) (pc' := 123) rfl (hb hby at_119) (by decide) (by decide)) ?_
        show Go _ _ _ _ (T172.setTop (mkF m 123 #[lI p0, lI p1, lI p2, lI jb, lI jm, lI jc, lI jf, lU, lU, lR w_P, lR ob_168, lI jp] [(.int 1)]))
        refine Go.st (fun _ => XS.istore X172.here hx rfl (hb hby at_123) rfl (l' := #[lI p0, lI p1, lI p2, lI jb, lI jm, lI jc, lI jf, lU, lI (1 : Int32), lR w_P, lR ob_168, lI jp]) rfl) ?_
        show Go _ _ _ _ (T172.setTop (mkF m 125 #[lI p0, lI p1, lI p2, lI jb, lI jm, lI jc, lI jf, lU, lI (1 : Int32), lR w_P, lR ob_168, lI jp] []))
        refine Go.st (fun _ => XS.aload X172.here hx rfl (hb hby at_125) rfl rfl) ?_
        refine Go.st (fun _ => XS.iload X172.here hx rfl (hb hby at_127) rfl) ?_
        refine Go.st (fun _ => XS.iload X172.here hx rfl (hb hby at_129) rfl) ?_
        show Go _ _ _ _ (T172.setTop (mkF m 131 #[lI p0, lI p1, lI p2, lI jb, lI jm, lI jc, lI jf, lU, lI (1 : Int32), lR w_P, lR ob_168, lI jp] [(.int jc), (.int jp), (.ref ob_168)]))
        obtain ⟨T210, h210, X210, e210, W210, V210, st210⟩ := own_stC X172 hx hZ e172 q167_1 (j := jp) (i := (jp).toNatClampNeg) hjp.1 rfl hjp.2 (g := (mkF m 131 #[lI p0, lI p1, lI p2, lI jb, lI jm, lI jc, lI jf, lU, lI (1 : Int32), lR w_P, lR ob_168, lI jp] [(.int jc), (.int jp), (.ref ob_168)])) rfl rfl (hb hby at_131)
        refine Go.st st210 ?_
        rw [own_nar16 hjc] at V210
        have sf211 := Safe.wr W210 sf170 CR167.1 sf170
        have CR210 := CR167.trans (CHr.wr W210 sf170 CR167.1)
        have K210 : Keep h0 h210 [] := K167.wr W210 (Or.inr sz_ob_168)
        have O210 := O167.wr W210 g_ob_168
        have N210 := Fr.snoc X210 N167 g_ob_168
        have V210' : Arv Z h210 ob_168 kb_169 .char (11 : Int32) ((([112, 114, 111, 112, 114, 105, 101, 116, 97, 114, 121] : List Int32).set jp.toNatClampNeg jc).map Value.int) (.int 0) := own_arv_set V210
        show Go _ _ _ _ (T210.setTop (mkF m 132 #[lI p0, lI p1, lI p2, lI jb, lI jm, lI jc, lI jf, lU, lI (1 : Int32), lR w_P, lR ob_168, lI jp] []))
        obtain ⟨T212, h212, X212, e212, E212, A212, D212, -, st212⟩ := newO X210 hx hZ hown (ow hw 9 rfl) (ow hw 10 rfl) (ow hw 11 rfl) e210 (g := (mkF m 132 #[lI p0, lI p1, lI p2, lI jb, lI jm, lI jc, lI jf, lU, lI (1 : Int32), lR w_P, lR ob_168, lI jp] [])) rfl (hb hby at_132) (by decide) (by decide)
        obtain ⟨b212, g212⟩ : ∃ z, z = h210.size := ⟨_, rfl⟩
        rw [← g212] at A212 D212 st212
        refine Go.st st212 ?_
        have g_b212 : n0 ≤ b212 := Nat.le_trans (own_oldsz O210) (Nat.le_of_eq g212.symm)
        have sz_b212 : h0.size ≤ b212 := Nat.le_trans K210.1 (Nat.le_of_eq g212.symm)
        have K212 : Keep h0 h212 [] := K210.ext E212
        have O212 := O210.ext E212
        have sf213 := Safe.ext E212 CR210.1 sf211
        have SF_b212 : Safe Z consts_1 s.vm h212 b212 := Safe.ext E212 CR210.1 (Safe.new (Nat.le_of_eq g212.symm))
        have CR212 := CR210.trans (CHr.ext E212 CR210.1)
        have F214 : Fld Z h212 b212 "java/lang/String" "coder" "B" (.int 0) := D212 (Or.inr (ow hw 35 rfl)) (ty := .byte) (by decide)
        have F215 : Fld Z h212 b212 "java/lang/String" "value" "[B" .null := D212 (Or.inr (ow hw 37 rfl)) (ty := (.array .byte)) (by decide)
        show Go _ _ _ _ (T212.setTop (mkF m 135 #[lI p0, lI p1, lI p2, lI jb, lI jm, lI jc, lI jf, lU, lI (1 : Int32), lR w_P, lR ob_168, lI jp] [(.ref b212)]))
        refine Go.st (fun _ => XS.dup X212.here hx rfl (hb hby at_135) rfl rfl) ?_
        refine Go.st (fun _ => XS.aload X212.here hx rfl (hb hby at_136) rfl rfl) ?_
        show Go _ _ _ _ (T212.setTop (mkF m 138 #[lI p0, lI p1, lI p2, lI jb, lI jm, lI jc, lI jf, lU, lI (1 : Int32), lR w_P, lR ob_168, lI jp] [(.ref ob_168), (.ref b212), (.ref b212)]))
        have c217 := (V210'.ext E212)
        have hp216 : ∀ c ∈ (([112, 114, 111, 112, 114, 105, 101, 116, 97, 114, 121] : List Int32).set jp.toNatClampNeg jc), ¬ c < 0 ∧ ¬ (255 : Int32) < c := by
         exact own_set_small (by decide) ⟨hjc.1, hcw⟩
        obtain ⟨_, _, ⟨T216, L216, k216, n216⟩, -, X216, ⟨Lc216, hQ216, l216, y216, z216⟩, st216⟩ := X212.specialBack hx (y := (⟨"java/lang/String", "<init>", "([C)V"⟩ : MethodName)) rfl hown (mvT hZ (ow hw 12 rfl)) (mvT hZ (ow hw 13 rfl)) (mvT hZ (ow hw 14 rfl)) (by decide) (StrChars.Road.backV (W := 1) hZ (fun d hd => hw d (own_wNew d hd)) (kI := 4) (ow hw 10 rfl) (cs := (([112, 114, 111, 112, 114, 105, 101, 116, 97, 114, 121] : List Int32).set jp.toNatClampNeg jc)) (bs := ((([112, 114, 111, 112, 114, 105, 101, 116, 97, 114, 121] : List Int32).set jp.toNatClampNeg jc)).map (fun c => c.toInt8.toInt32)) (n := 11) g_b212 (own_oldsz O212) A212 F215 F214 c217 (S_CS.ext O212.2) nz_CS (by rw [List.length_set]; rfl) rfl (by decide) (by decide) hp216 rfl (by decide) (by decide)) (g := (mkF m 138 #[lI p0, lI p1, lI p2, lI jb, lI jm, lI jc, lI jf, lU, lI (1 : Int32), lR w_P, lR ob_168, lI jp] [(.ref ob_168), (.ref b212), (.ref b212)])) rfl (by rw [hml]; rfl) (Steps.refl _) (a := b212) (argsL := [(.ref ob_168)]) (rest := [(.ref b212)]) (lenOf own_pd18 rfl) rfl (by show 2 * 0 + _ ≤ _; exact Nat.le_of_eq rfl) (hb hby at_138) (fun _ _ => ⟨rfl, e212, (by decide : 2 + 1 ≤ _), (by decide : 15 + 11 ≤ _)⟩)
        dsimp only [Pt.U, Pt.locs, Pt.cells, Pt.slots] at X216 l216 y216 z216 st216 hQ216
        subst y216 z216
        refine Go.tr st216 ?_
        obtain ⟨rfl, N216q, K216q, E216x, C216x, t216, kb216, gt216, szt216, net216, V216x, A216x⟩ := hQ216
        have N216 : Fr n0 L216 := by rw [l216]; exact Fr.app N210 N216q
        have O216 := O212.keep K216q (allS g_b212 all0)
        have K216 : Keep h0 T216.heap [] := K212.trans K216q (allS (Or.inr sz_b212) all0)
        have sf218 := Safe.keep K216q (sfS SF_b212 sf0) CR212.1 sf213
        have sf219 := Safe.keep K216q (sfS SF_b212 sf0) CR212.1 SF_b212
        have CR216 := CR212.trans (CHr.keep K216q (sfS SF_b212 sf0) CR212.1)
        have sz_t216 : h0.size ≤ t216 := Nat.le_trans K212.1 szt216
        show Go _ _ _ _ (T216.setTop (mkF m 141 #[lI p0, lI p1, lI p2, lI jb, lI jm, lI jc, lI jf, lU, lI (1 : Int32), lR w_P, lR ob_168, lI jp] [(.ref b212)]))
        refine Go.st (fun _ => XS.astore X216.here hx rfl (hb hby at_141) rfl rfl (l' := #[lI p0, lI p1, lI p2, lI jb, lI jm, lI jc, lI jf, lR b212, lI (1 : Int32), lR w_P, lR ob_168, lI jp]) rfl) ?_
        show Go _ _ _ _ (T216.setTop (mkF m 143 #[lI p0, lI p1, lI p2, lI jb, lI jm, lI jc, lI jf, lR b212, lI (1 : Int32), lR w_P, lR ob_168, lI jp] []))
        refine Go.st (fun _ => XS.goto X216.here hx rfl (pc0 := 143) (pc' := 231) rfl (hb hby at_143) (by decide) (by decide)) ?_
        show Go _ _ _ _ (T216.setTop (mkF m 231 #[lI p0, lI p1, lI p2, lI jb, lI jm, lI jc, lI jf, lR b212, lI (1 : Int32), lR w_P, lR ob_168, lI jp] []))
        refine Go.st (fun _ => XS.goto X216.here hx rfl (pc0 := 231) (pc' := 282) rfl (hb hby at_231) (by decide) (by decide)) ?_
        show Go _ _ _ _ (T216.setTop (mkF m 282 #[lI p0, lI p1, lI p2, lI jb, lI jm, lI jc, lI jf, lR b212, lI (1 : Int32), lR w_P, lR ob_168, lI jp] []))
        refine Go.st (fun _ => XS.aload X216.here hx rfl (hb hby at_282) rfl rfl) ?_
        show Go _ _ _ _ (T216.setTop (mkF m 284 #[lI p0, lI p1, lI p2, lI jb, lI jm, lI jc, lI jf, lR b212, lI (1 : Int32), lR w_P, lR ob_168, lI jp] [(.ref b212)]))
        have c221 := (c217.keep K216q (ninS (Nat.ne_of_lt (Nat.lt_of_lt_of_le V210'.lt (Nat.le_of_eq g212.symm))) nin0))
        obtain ⟨_, _, ⟨T220, L220, k220, n220⟩, -, X220, ⟨Lc220, hQ220, l220, y220, z220⟩, st220⟩ := Jvm.LawKit.callS X216 hx (y := (⟨"com/example/tidewall/tidewall/ledger/AccountClass", "byId", "(Ljava/lang/String;)Ljava/util/Optional;"⟩ : MethodName)) hown (mvT hZ (ow hw 38 rfl)) (mvT hZ (ow hw 39 rfl)) (mvT hZ (ow hw 7 rfl)) (mvT hZ (ow hw 40 rfl)) (by decide) (backOf (W := 0) (rm_byp l Z a0 hw [] w_C S_C X_C w_P S_P X_P w_V k_V S_V X_V V_V w_CS F_CS X_CS I_CS_coder w_CB k_CB F_CB V_CB w_PS F_PS X_PS I_PS_coder w_PB k_PB F_PB V_PB S_AD S_HI S_LO w_OE S_OE X_OE I_OE_value g_CS S_CS nz_CS g_SF S_SF r_SF b212 (([112, 114, 111, 112, 114, 105, 101, 116, 97, 114, 121] : List Int32).set jp.toNatClampNeg jc) t216 kb216 T216.heap n0 O216 E216x C216x V216x (own_arvN (by rw [List.length_set]; rfl) A216x) hp216 (by rw [show (([112, 114, 111, 112, 114, 105, 101, 116, 97, 114, 121] : List Int32).set jp.toNatClampNeg jc).length = 11 from (by rw [List.length_set]; rfl)]; decide) (own_lenne (by rw [List.length_set]; decide)) ((own_set_eq (xs := ([112, 114, 111, 112, 114, 105, 101, 116, 97, 114, 121] : List Int32)) hjp.2).mpr heq1).symm) hZ (ow hw 40 rfl) (ow hw 7 rfl) (by decide) (by decide)) (g := (mkF m 284 #[lI p0, lI p1, lI p2, lI jb, lI jm, lI jc, lI jf, lR b212, lI (1 : Int32), lR w_P, lR ob_168, lI jp] [(.ref b212)])) rfl (by rw [hml]; rfl) (argsL := [(.ref b212)]) (rest := []) (lenOf own_pd19 rfl) rfl (by show 2 * 0 + _ ≤ _; exact Nat.le_of_eq rfl) (hb hby at_284) (fun _ _ => ⟨rfl, rfl, (by decide : 3 + 2 ≤ _), (by decide : 26 + 3 ≤ _)⟩)
        dsimp only [Pt.U, Pt.locs, Pt.cells, Pt.slots] at X220 l220 y220 z220 st220 hQ220
        subst y220 z220
        refine Go.st st220 ?_
        obtain ⟨ob_222, rfl, N220q, K220q, q220_0, q220_1, q220_2⟩ := hQ220
        have N220 : Fr n0 L220 := by rw [l220]; exact Fr.app N216 N220q
        have SN220_0 : Safe Z consts_1 s.vm T216.heap ob_222 := Safe.new q220_0
        have O220 := O216.keep K220q all0
        have K220 : Keep h0 T220.heap [] := K216.trans K220q all0
        have sf223 := Safe.keep K220q sf0 CR216.1 sf218
        have sf224 := Safe.keep K220q sf0 CR216.1 sf219
        have sf225 := Safe.keep K220q sf0 CR216.1 SN220_0
        have CR220 := CR216.trans (CHr.keep K220q sf0 CR216.1)
        have sz_ob_222 : h0.size ≤ ob_222 := Nat.le_trans K216.1 q220_0
        have g_ob_222 : n0 ≤ ob_222 := Nat.le_trans (own_oldsz X00) sz_ob_222
        show Go _ _ _ _ (T220.setTop (mkF m 287 #[lI p0, lI p1, lI p2, lI jb, lI jm, lI jc, lI jf, lR b212, lI (1 : Int32), lR w_P, lR ob_168, lI jp] [(.ref ob_222)]))
        refine Go.st (fun _ => XS.astore X220.here hx rfl (hb hby at_287) rfl rfl (l' := #[lI p0, lI p1, lI p2, lI jb, lI jm, lI jc, lI jf, lR b212, lI (1 : Int32), lR w_P, lR ob_222, lI jp]) rfl) ?_
        show Go _ _ _ _ (T220.setTop (mkF m 289 #[lI p0, lI p1, lI p2, lI jb, lI jm, lI jc, lI jf, lR b212, lI (1 : Int32), lR w_P, lR ob_222, lI jp] []))
        refine Go.st (fun _ => XS.iload X220.here hx rfl (hb hby at_289) rfl) ?_
        show Go _ _ _ _ (T220.setTop (mkF m 291 #[lI p0, lI p1, lI p2, lI jb, lI jm, lI jc, lI jf, lR b212, lI (1 : Int32), lR w_P, lR ob_222, lI jp] [(.int 1)]))
        refine Go.st (fun _ => XS.ifNo X220.here hx rfl (hb hby at_291) rfl ((if0 _ _).trans (feq (by decide)).1)) ?_
        show Go _ _ _ _ (T220.setTop (mkF m 294 #[lI p0, lI p1, lI p2, lI jb, lI jm, lI jc, lI jf, lR b212, lI (1 : Int32), lR w_P, lR ob_222, lI jp] []))
        refine Go.st (fun _ => XS.aload X220.here hx rfl (hb hby at_294) rfl rfl) ?_
        show Go _ _ _ _ (T220.setTop (mkF m 296 #[lI p0, lI p1, lI p2, lI jb, lI jm, lI jc, lI jf, lR b212, lI (1 : Int32), lR w_P, lR ob_222, lI jp] [(.ref ob_222)]))
        obtain ⟨cq226, kq226, q226a, q226b, q226c⟩ := isOf hZ rfl q220_1
        obtain ⟨_, _, ⟨T226, L226, k226, n226⟩, -, X226, ⟨Lc226, hQ226, l226, y226, z226⟩, st226⟩ := X220.virtualBack hx (y := (⟨"java/util/Optional", "isPresent", "()Z"⟩ : MethodName)) (z := (⟨"java/util/Optional", "isPresent", "()Z"⟩ : MethodName)) hown (mvT hZ (ow hw 86 rfl)) (mvT hZ (ow hw 87 rfl)) (notFace_of_selects (args := #[]) (mvT hZ (ow hw 89 rfl))) (mvT hZ (ow hw 89 rfl)) (mvT hZ (ow hw 88 rfl)) (by decide) (backOf (W := 0) (rm_ip1 l Z a0 hw [] ob_222 w_P T220.heap n0 O220 q220_2) hZ (ow hw 90 rfl) (ow hw 71 rfl) (by decide) (by decide)) q226a q226c (g := (mkF m 296 #[lI p0, lI p1, lI p2, lI jb, lI jm, lI jc, lI jf, lR b212, lI (1 : Int32), lR w_P, lR ob_222, lI jp] [(.ref ob_222)])) rfl (by rw [hml]; rfl) (Steps.refl _) (argsL := []) (rest := []) (lenOf own_pd20 rfl) rfl (by show 2 * 0 + _ ≤ _; exact Nat.le_of_eq rfl) (hb hby at_296) (fun _ _ => ⟨rfl, rfl, (by decide : 5 + 0 ≤ _), (by decide : 29 + 0 ≤ _)⟩)
        dsimp only [Pt.U, Pt.locs, Pt.cells, Pt.slots] at X226 l226 y226 z226 st226 hQ226
        subst y226 z226
        refine Go.tr st226 ?_
        obtain ⟨rfl, N226q, e226⟩ := hQ226
        have N226 : Fr n0 L226 := by rw [l226]; exact Fr.app N220 N226q
        show Go _ _ _ _ (T226.setTop (mkF m 299 #[lI p0, lI p1, lI p2, lI jb, lI jm, lI jc, lI jf, lR b212, lI (1 : Int32), lR w_P, lR ob_222, lI jp] [(.int 1)]))
        refine Go.st (fun _ => XS.ifNo X226.here hx rfl (hb hby at_299) rfl ((if0 _ _).trans (feq (by decide)).1)) ?_
        show Go _ _ _ _ (T226.setTop (mkF m 302 #[lI p0, lI p1, lI p2, lI jb, lI jm, lI jc, lI jf, lR b212, lI (1 : Int32), lR w_P, lR ob_222, lI jp] []))
        refine Go.st (fun _ => XS.aload X226.here hx rfl (hb hby at_302) rfl rfl) ?_
        show Go _ _ _ _ (T226.setTop (mkF m 304 #[lI p0, lI p1, lI p2, lI jb, lI jm, lI jc, lI jf, lR b212, lI (1 : Int32), lR w_P, lR ob_222, lI jp] [(.ref ob_222)]))
        obtain ⟨cq227, kq227, q227a, q227b, q227c⟩ := isOf hZ e226 q220_1
        obtain ⟨_, _, ⟨T227, L227, k227, n227⟩, -, X227, ⟨Lc227, hQ227, l227, y227, z227⟩, st227⟩ := X226.virtualBack hx (y := (⟨"java/util/Optional", "get", "()Ljava/lang/Object;"⟩ : MethodName)) (z := (⟨"java/util/Optional", "get", "()Ljava/lang/Object;"⟩ : MethodName)) hown (mvT hZ (ow hw 91 rfl)) (mvT hZ (ow hw 92 rfl)) (notFace_of_selects (args := #[]) (mvT hZ (ow hw 94 rfl))) (mvT hZ (ow hw 94 rfl)) (mvT hZ (ow hw 93 rfl)) (by decide) (backOf (W := 0) (rm_oget l Z a0 hw [] ob_222 w_P T220.heap n0 O220 q220_2) hZ (ow hw 95 rfl) (ow hw 71 rfl) (by decide) (by decide)) q227a q227c (g := (mkF m 304 #[lI p0, lI p1, lI p2, lI jb, lI jm, lI jc, lI jf, lR b212, lI (1 : Int32), lR w_P, lR ob_222, lI jp] [(.ref ob_222)])) rfl (by rw [hml]; rfl) (Steps.refl _) (argsL := []) (rest := []) (lenOf own_pd21 rfl) rfl (by show 2 * 0 + _ ≤ _; exact Nat.le_of_eq rfl) (hb hby at_304) (fun _ _ => ⟨rfl, e226, (by decide : 5 + 0 ≤ _), (by decide : 29 + 0 ≤ _)⟩)
        dsimp only [Pt.U, Pt.locs, Pt.cells, Pt.slots] at X227 l227 y227 z227 st227 hQ227
        subst y227 z227
        refine Go.tr st227 ?_
        obtain ⟨rfl, N227q, e227⟩ := hQ227
        have N227 : Fr n0 L227 := by rw [l227]; exact Fr.app N226 N227q
        show Go _ _ _ _ (T227.setTop (mkF m 307 #[lI p0, lI p1, lI p2, lI jb, lI jm, lI jc, lI jf, lR b212, lI (1 : Int32), lR w_P, lR ob_222, lI jp] [(.ref w_P)]))
        refine Go.st (fun _ => XS.aload X227.here hx rfl (hb hby at_307) rfl rfl) ?_
        show Go _ _ _ _ (T227.setTop (mkF m 309 #[lI p0, lI p1, lI p2, lI jb, lI jm, lI jc, lI jf, lR b212, lI (1 : Int32), lR w_P, lR ob_222, lI jp] [(.ref w_P), (.ref w_P)]))
        refine Go.st (fun _ => Jvm.RoadKit.acmp (g := (mkF m 309 #[lI p0, lI p1, lI p2, lI jb, lI jm, lI jc, lI jf, lR b212, lI (1 : Int32), lR w_P, lR ob_222, lI jp] [(.ref w_P), (.ref w_P)])) X227 hx rfl rfl rfl (pc0 := 309) (pc' := 312) (same := true) rfl (hb hby at_309) rfl (decide_eq_true rfl) (by decide) (by decide)) ?_
        show Go _ _ _ _ (T227.setTop (mkF m 312 #[lI p0, lI p1, lI p2, lI jb, lI jm, lI jc, lI jf, lR b212, lI (1 : Int32), lR w_P, lR ob_222, lI jp] []))
        refine Go.st (fun _ => XS.iconst X227.here hx rfl (hb hby at_312)) ?_
        show Go _ _ _ _ (T227.setTop (mkF m 313 #[lI p0, lI p1, lI p2, lI jb, lI jm, lI jc, lI jf, lR b212, lI (1 : Int32), lR w_P, lR ob_222, lI jp] [(.int 1)]))
        refine Go.st (fun _ => XS.goto X227.here hx rfl (pc0 := 313) (pc' := 317) rfl (hb hby at_313) (by decide) (by decide)) ?_
        show Go _ _ _ _ (T227.setTop (mkF m 317 #[lI p0, lI p1, lI p2, lI jb, lI jm, lI jc, lI jf, lR b212, lI (1 : Int32), lR w_P, lR ob_222, lI jp] [(.int 1)]))
        obtain ⟨fs, hr, hrun, hended, -, hW, hpair, hsame⟩ := X227.leaveW hS0 (by rw [e227]; exact (Nat.le_trans (Nat.le_trans (Nat.le_trans (Nat.le_trans (Nat.le_trans hk0 K167q.1) (Keep.of_wr W210).1) E212.1) K216q.1) K220q.1)) (v := some (.int 1)) (fun h => by rw [Bd.returns] at h; cases h)
        have hCRe := CR220.trans (CHv.at X227 hZ hEL CR220.1)
        refine ⟨_, ?_, hPend _ _ hrun hended ⟨_, _, rfl, ?_, ?_, ⟨_, rfl⟩, hW, hpair, hsame.mono (by decide) (by decide)⟩⟩
        ·exact retN X227 hx (t := .boolean) Bd.returns (by simp) (hb hby at_317) hr
        ·show Q_rm_law Z _ _ _ _ _ _ _ _ _ _ _ _ _ _ _ _ h0 n0 _ T227.heap _
         rw [e227]
         exact ⟨rfl, N227, K220⟩
        ·show CHr Z consts_1 s.vm s.heap T227.vm T227.heap
         rw [hh, e227]
         exact hCRe
       ·skip
        have hne1 : ¬ (jc = (([112, 114, 111, 112, 114, 105, 101, 116, 97, 114, 121] : List Int32).getD jp.toNatClampNeg 0)) := fun q => hc209 q.symm
        refine Go.st (fun _ => XS.icmpYes X172.here hx rfl (pc0 := 115) (pc' := 122) rfl (hb hby at_115) rfl (feq hc209).2 (by decide) (by decide)) ?_
        show Go _ _ _ _ (T172.setTop (mkF m 122 #[lI p0, lI p1, lI p2, lI jb, lI jm, lI jc, lI jf, lU, lU, lR w_P, lR ob_168, lI jp] []))
        refine Go.st (fun _ => XS.iconst X172.here hx rfl (hb hby at_122)) ?_
        show Go _ _ _ _ (T172.setTop (mkF m 123 #[lI p0, lI p1, lI p2, lI jb, lI jm, lI jc, lI jf, lU, lU, lR w_P, lR ob_168, lI jp] [(.int 0)]))
        refine Go.st (fun _ => XS.istore X172.here hx rfl (hb hby at_123) rfl (l' := #[lI p0, lI p1, lI p2, lI jb, lI jm, lI jc, lI jf, lU, lI (0 : Int32), lR w_P, lR ob_168, lI jp]) rfl) ?_
        show Go _ _ _ _ (T172.setTop (mkF m 125 #[lI p0, lI p1, lI p2, lI jb, lI jm, lI jc, lI jf, lU, lI (0 : Int32), lR w_P, lR ob_168, lI jp] []))
        refine Go.st (fun _ => XS.aload X172.here hx rfl (hb hby at_125) rfl rfl) ?_
        refine Go.st (fun _ => XS.iload X172.here hx rfl (hb hby at_127) rfl) ?_
        refine Go.st (fun _ => XS.iload X172.here hx rfl (hb hby at_129) rfl) ?_
        show Go _ _ _ _ (T172.setTop (mkF m 131 #[lI p0, lI p1, lI p2, lI jb, lI jm, lI jc, lI jf, lU, lI (0 : Int32), lR w_P, lR ob_168, lI jp] [(.int jc), (.int jp), (.ref ob_168)]))
        obtain ⟨T228, h228, X228, e228, W228, V228, st228⟩ := own_stC X172 hx hZ e172 q167_1 (j := jp) (i := (jp).toNatClampNeg) hjp.1 rfl hjp.2 (g := (mkF m 131 #[lI p0, lI p1, lI p2, lI jb, lI jm, lI jc, lI jf, lU, lI (0 : Int32), lR w_P, lR ob_168, lI jp] [(.int jc), (.int jp), (.ref ob_168)])) rfl rfl (hb hby at_131)
        refine Go.st st228 ?_
        rw [own_nar16 hjc] at V228
        have sf229 := Safe.wr W228 sf170 CR167.1 sf170
        have CR228 := CR167.trans (CHr.wr W228 sf170 CR167.1)
        have K228 : Keep h0 h228 [] := K167.wr W228 (Or.inr sz_ob_168)
        have O228 := O167.wr W228 g_ob_168
        have N228 := Fr.snoc X228 N167 g_ob_168
        have V228' : Arv Z h228 ob_168 kb_169 .char (11 : Int32) ((([112, 114, 111, 112, 114, 105, 101, 116, 97, 114, 121] : List Int32).set jp.toNatClampNeg jc).map Value.int) (.int 0) := own_arv_set V228
        show Go _ _ _ _ (T228.setTop (mkF m 132 #[lI p0, lI p1, lI p2, lI jb, lI jm, lI jc, lI jf, lU, lI (0 : Int32), lR w_P, lR ob_168, lI jp] []))
        obtain ⟨T230, h230, X230, e230, E230, A230, D230, -, st230⟩ := newO X228 hx hZ hown (ow hw 9 rfl) (ow hw 10 rfl) (ow hw 11 rfl) e228 (g := (mkF m 132 #[lI p0, lI p1, lI p2, lI jb, lI jm, lI jc, lI jf, lU, lI (0 : Int32), lR w_P, lR ob_168, lI jp] [])) rfl (hb hby at_132) (by decide) (by decide)
        obtain ⟨b230, g230⟩ : ∃ z, z = h228.size := ⟨_, rfl⟩
        rw [← g230] at A230 D230 st230
        refine Go.st st230 ?_
        have g_b230 : n0 ≤ b230 := Nat.le_trans (own_oldsz O228) (Nat.le_of_eq g230.symm)
        have sz_b230 : h0.size ≤ b230 := Nat.le_trans K228.1 (Nat.le_of_eq g230.symm)
        have K230 : Keep h0 h230 [] := K228.ext E230
        have O230 := O228.ext E230
        have sf231 := Safe.ext E230 CR228.1 sf229
        have SF_b230 : Safe Z consts_1 s.vm h230 b230 := Safe.ext E230 CR228.1 (Safe.new (Nat.le_of_eq g230.symm))
        have CR230 := CR228.trans (CHr.ext E230 CR228.1)
        have F232 : Fld Z h230 b230 "java/lang/String" "coder" "B" (.int 0) := D230 (Or.inr (ow hw 35 rfl)) (ty := .byte) (by decide)
        have F233 : Fld Z h230 b230 "java/lang/String" "value" "[B" .null := D230 (Or.inr (ow hw 37 rfl)) (ty := (.array .byte)) (by decide)
        show Go _ _ _ _ (T230.setTop (mkF m 135 #[lI p0, lI p1, lI p2, lI jb, lI jm, lI jc, lI jf, lU, lI (0 : Int32), lR w_P, lR ob_168, lI jp] [(.ref b230)]))
        refine Go.st (fun _ => XS.dup X230.here hx rfl (hb hby at_135) rfl rfl) ?_
        refine Go.st (fun _ => XS.aload X230.here hx rfl (hb hby at_136) rfl rfl) ?_
        show Go _ _ _ _ (T230.setTop (mkF m 138 #[lI p0, lI p1, lI p2, lI jb, lI jm, lI jc, lI jf, lU, lI (0 : Int32), lR w_P, lR ob_168, lI jp] [(.ref ob_168), (.ref b230), (.ref b230)]))
        have c235 := (V228'.ext E230)
        have hp234 : ∀ c ∈ (([112, 114, 111, 112, 114, 105, 101, 116, 97, 114, 121] : List Int32).set jp.toNatClampNeg jc), ¬ c < 0 ∧ ¬ (255 : Int32) < c := by
         exact own_set_small (by decide) ⟨hjc.1, hcw⟩
        obtain ⟨_, _, ⟨T234, L234, k234, n234⟩, -, X234, ⟨Lc234, hQ234, l234, y234, z234⟩, st234⟩ := X230.specialBack hx (y := (⟨"java/lang/String", "<init>", "([C)V"⟩ : MethodName)) rfl hown (mvT hZ (ow hw 12 rfl)) (mvT hZ (ow hw 13 rfl)) (mvT hZ (ow hw 14 rfl)) (by decide) (StrChars.Road.backV (W := 1) hZ (fun d hd => hw d (own_wNew d hd)) (kI := 4) (ow hw 10 rfl) (cs := (([112, 114, 111, 112, 114, 105, 101, 116, 97, 114, 121] : List Int32).set jp.toNatClampNeg jc)) (bs := ((([112, 114, 111, 112, 114, 105, 101, 116, 97, 114, 121] : List Int32).set jp.toNatClampNeg jc)).map (fun c => c.toInt8.toInt32)) (n := 11) g_b230 (own_oldsz O230) A230 F233 F232 c235 (S_CS.ext O230.2) nz_CS (by rw [List.length_set]; rfl) rfl (by decide) (by decide) hp234 rfl (by decide) (by decide)) (g := (mkF m 138 #[lI p0, lI p1, lI p2, lI jb, lI jm, lI jc, lI jf, lU, lI (0 : Int32), lR w_P, lR ob_168, lI jp] [(.ref ob_168), (.ref b230), (.ref b230)])) rfl (by rw [hml]; rfl) (Steps.refl _) (a := b230) (argsL := [(.ref ob_168)]) (rest := [(.ref b230)]) (lenOf own_pd18 rfl) rfl (by show 2 * 0 + _ ≤ _; exact Nat.le_of_eq rfl) (hb hby at_138) (fun _ _ => ⟨rfl, e230, (by decide : 2 + 1 ≤ _), (by decide : 15 + 11 ≤ _)⟩)
        dsimp only [Pt.U, Pt.locs, Pt.cells, Pt.slots] at X234 l234 y234 z234 st234 hQ234
        subst y234 z234
        refine Go.tr st234 ?_
        obtain ⟨rfl, N234q, K234q, E234x, C234x, t234, kb234, gt234, szt234, net234, V234x, A234x⟩ := hQ234
        have N234 : Fr n0 L234 := by rw [l234]; exact Fr.app N228 N234q
        have O234 := O230.keep K234q (allS g_b230 all0)
        have K234 : Keep h0 T234.heap [] := K230.trans K234q (allS (Or.inr sz_b230) all0)
        have sf236 := Safe.keep K234q (sfS SF_b230 sf0) CR230.1 sf231
        have sf237 := Safe.keep K234q (sfS SF_b230 sf0) CR230.1 SF_b230
        have CR234 := CR230.trans (CHr.keep K234q (sfS SF_b230 sf0) CR230.1)
        have sz_t234 : h0.size ≤ t234 := Nat.le_trans K230.1 szt234
        show Go _ _ _ _ (T234.setTop (mkF m 141 #[lI p0, lI p1, lI p2, lI jb, lI jm, lI jc, lI jf, lU, lI (0 : Int32), lR w_P, lR ob_168, lI jp] [(.ref b230)]))
        refine Go.st (fun _ => XS.astore X234.here hx rfl (hb hby at_141) rfl rfl (l' := #[lI p0, lI p1, lI p2, lI jb, lI jm, lI jc, lI jf, lR b230, lI (0 : Int32), lR w_P, lR ob_168, lI jp]) rfl) ?_
        show Go _ _ _ _ (T234.setTop (mkF m 143 #[lI p0, lI p1, lI p2, lI jb, lI jm, lI jc, lI jf, lR b230, lI (0 : Int32), lR w_P, lR ob_168, lI jp] []))
        refine Go.st (fun _ => XS.goto X234.here hx rfl (pc0 := 143) (pc' := 231) rfl (hb hby at_143) (by decide) (by decide)) ?_
        show Go _ _ _ _ (T234.setTop (mkF m 231 #[lI p0, lI p1, lI p2, lI jb, lI jm, lI jc, lI jf, lR b230, lI (0 : Int32), lR w_P, lR ob_168, lI jp] []))
        refine Go.st (fun _ => XS.goto X234.here hx rfl (pc0 := 231) (pc' := 282) rfl (hb hby at_231) (by decide) (by decide)) ?_
        show Go _ _ _ _ (T234.setTop (mkF m 282 #[lI p0, lI p1, lI p2, lI jb, lI jm, lI jc, lI jf, lR b230, lI (0 : Int32), lR w_P, lR ob_168, lI jp] []))
        refine Go.st (fun _ => XS.aload X234.here hx rfl (hb hby at_282) rfl rfl) ?_
        show Go _ _ _ _ (T234.setTop (mkF m 284 #[lI p0, lI p1, lI p2, lI jb, lI jm, lI jc, lI jf, lR b230, lI (0 : Int32), lR w_P, lR ob_168, lI jp] [(.ref b230)]))
        have c239 := (c235.keep K234q (ninS (Nat.ne_of_lt (Nat.lt_of_lt_of_le V228'.lt (Nat.le_of_eq g230.symm))) nin0))
        obtain ⟨_, _, ⟨T238, L238, k238, n238⟩, -, X238, ⟨Lc238, hQ238, l238, y238, z238⟩, st238⟩ := Jvm.LawKit.callS X234 hx (y := (⟨"com/example/tidewall/tidewall/ledger/AccountClass", "byId", "(Ljava/lang/String;)Ljava/util/Optional;"⟩ : MethodName)) hown (mvT hZ (ow hw 38 rfl)) (mvT hZ (ow hw 39 rfl)) (mvT hZ (ow hw 7 rfl)) (mvT hZ (ow hw 40 rfl)) (by decide) (backOf (W := 0) (rm_byo l Z a0 hw [] w_C S_C X_C w_P S_P X_P w_V k_V S_V X_V V_V w_CS F_CS X_CS I_CS_coder w_CB k_CB F_CB V_CB w_PS F_PS X_PS I_PS_coder w_PB k_PB F_PB V_PB S_AD S_HI S_LO w_OE S_OE X_OE I_OE_value g_CS S_CS nz_CS g_SF S_SF r_SF b230 (([112, 114, 111, 112, 114, 105, 101, 116, 97, 114, 121] : List Int32).set jp.toNatClampNeg jc) t234 kb234 T234.heap n0 O234 E234x C234x V234x (own_arvN (by rw [List.length_set]; rfl) A234x) hp234 (by rw [show (([112, 114, 111, 112, 114, 105, 101, 116, 97, 114, 121] : List Int32).set jp.toNatClampNeg jc).length = 11 from (by rw [List.length_set]; rfl)]; decide) (own_lenne (by rw [List.length_set]; decide)) (fun q => hne1 ((own_set_eq (xs := ([112, 114, 111, 112, 114, 105, 101, 116, 97, 114, 121] : List Int32)) hjp.2).mp q.symm))) hZ (ow hw 40 rfl) (ow hw 7 rfl) (by decide) (by decide)) (g := (mkF m 284 #[lI p0, lI p1, lI p2, lI jb, lI jm, lI jc, lI jf, lR b230, lI (0 : Int32), lR w_P, lR ob_168, lI jp] [(.ref b230)])) rfl (by rw [hml]; rfl) (argsL := [(.ref b230)]) (rest := []) (lenOf own_pd19 rfl) rfl (by show 2 * 0 + _ ≤ _; exact Nat.le_of_eq rfl) (hb hby at_284) (fun _ _ => ⟨rfl, rfl, (by decide : 3 + 1 ≤ _), (by decide : 26 + 2 ≤ _)⟩)
        dsimp only [Pt.U, Pt.locs, Pt.cells, Pt.slots] at X238 l238 y238 z238 st238 hQ238
        subst y238 z238
        refine Go.st st238 ?_
        obtain ⟨rfl, N238q, K238q⟩ := hQ238
        have N238 : Fr n0 L238 := by rw [l238]; exact Fr.app N234 N238q
        have O238 := O234.keep K238q all0
        have K238 : Keep h0 T238.heap [] := K234.trans K238q all0
        have sf240 := Safe.keep K238q sf0 CR234.1 sf236
        have sf241 := Safe.keep K238q sf0 CR234.1 sf237
        have CR238 := CR234.trans (CHr.keep K238q sf0 CR234.1)
        show Go _ _ _ _ (T238.setTop (mkF m 287 #[lI p0, lI p1, lI p2, lI jb, lI jm, lI jc, lI jf, lR b230, lI (0 : Int32), lR w_P, lR ob_168, lI jp] [(.ref w_OE)]))
        refine Go.st (fun _ => XS.astore X238.here hx rfl (hb hby at_287) rfl rfl (l' := #[lI p0, lI p1, lI p2, lI jb, lI jm, lI jc, lI jf, lR b230, lI (0 : Int32), lR w_P, lR w_OE, lI jp]) rfl) ?_
        show Go _ _ _ _ (T238.setTop (mkF m 289 #[lI p0, lI p1, lI p2, lI jb, lI jm, lI jc, lI jf, lR b230, lI (0 : Int32), lR w_P, lR w_OE, lI jp] []))
        refine Go.st (fun _ => XS.iload X238.here hx rfl (hb hby at_289) rfl) ?_
        show Go _ _ _ _ (T238.setTop (mkF m 291 #[lI p0, lI p1, lI p2, lI jb, lI jm, lI jc, lI jf, lR b230, lI (0 : Int32), lR w_P, lR w_OE, lI jp] [(.int 0)]))
        refine Go.st (fun _ => XS.ifYes X238.here hx rfl (pc0 := 291) (pc' := 318) rfl (hb hby at_291) rfl ((if0 _ _).trans (teq (by decide)).1) (by decide) (by decide)) ?_
        show Go _ _ _ _ (T238.setTop (mkF m 318 #[lI p0, lI p1, lI p2, lI jb, lI jm, lI jc, lI jf, lR b230, lI (0 : Int32), lR w_P, lR w_OE, lI jp] []))
        refine Go.st (fun _ => XS.aload X238.here hx rfl (hb hby at_318) rfl rfl) ?_
        show Go _ _ _ _ (T238.setTop (mkF m 320 #[lI p0, lI p1, lI p2, lI jb, lI jm, lI jc, lI jf, lR b230, lI (0 : Int32), lR w_P, lR w_OE, lI jp] [(.ref w_OE)]))
        obtain ⟨cq242, kq242, q242a, q242b, q242c⟩ := isOf hZ rfl (X_OE.ext O238.2)
        obtain ⟨_, _, ⟨T242, L242, k242, n242⟩, -, X242, ⟨Lc242, hQ242, l242, y242, z242⟩, st242⟩ := X238.virtualBack hx (y := (⟨"java/util/Optional", "isPresent", "()Z"⟩ : MethodName)) (z := (⟨"java/util/Optional", "isPresent", "()Z"⟩ : MethodName)) hown (mvT hZ (ow hw 86 rfl)) (mvT hZ (ow hw 87 rfl)) (notFace_of_selects (args := #[]) (mvT hZ (ow hw 89 rfl))) (mvT hZ (ow hw 89 rfl)) (mvT hZ (ow hw 88 rfl)) (by decide) (backOf (W := 0) (rm_ip0 l Z a0 hw [] w_OE T238.heap n0 O238 (I_OE_value.ext O238.2)) hZ (ow hw 90 rfl) (ow hw 71 rfl) (by decide) (by decide)) q242a q242c (g := (mkF m 320 #[lI p0, lI p1, lI p2, lI jb, lI jm, lI jc, lI jf, lR b230, lI (0 : Int32), lR w_P, lR w_OE, lI jp] [(.ref w_OE)])) rfl (by rw [hml]; rfl) (Steps.refl _) (argsL := []) (rest := []) (lenOf own_pd20 rfl) rfl (by show 2 * 0 + _ ≤ _; exact Nat.le_of_eq rfl) (hb hby at_320) (fun _ _ => ⟨rfl, rfl, (by decide : 4 + 0 ≤ _), (by decide : 28 + 0 ≤ _)⟩)
        dsimp only [Pt.U, Pt.locs, Pt.cells, Pt.slots] at X242 l242 y242 z242 st242 hQ242
        subst y242 z242
        refine Go.tr st242 ?_
        obtain ⟨rfl, N242q, e242⟩ := hQ242
        have N242 : Fr n0 L242 := by rw [l242]; exact Fr.app N238 N242q
        show Go _ _ _ _ (T242.setTop (mkF m 323 #[lI p0, lI p1, lI p2, lI jb, lI jm, lI jc, lI jf, lR b230, lI (0 : Int32), lR w_P, lR w_OE, lI jp] [(.int 0)]))
        refine Go.st (fun _ => XS.ifNo X242.here hx rfl (hb hby at_323) rfl ((if0 _ _).trans (teq (by decide)).2)) ?_
        show Go _ _ _ _ (T242.setTop (mkF m 326 #[lI p0, lI p1, lI p2, lI jb, lI jm, lI jc, lI jf, lR b230, lI (0 : Int32), lR w_P, lR w_OE, lI jp] []))
        refine Go.st (fun _ => XS.iconst X242.here hx rfl (hb hby at_326)) ?_
        show Go _ _ _ _ (T242.setTop (mkF m 327 #[lI p0, lI p1, lI p2, lI jb, lI jm, lI jc, lI jf, lR b230, lI (0 : Int32), lR w_P, lR w_OE, lI jp] [(.int 1)]))
        refine Go.st (fun _ => XS.goto X242.here hx rfl (pc0 := 327) (pc' := 331) rfl (hb hby at_327) (by decide) (by decide)) ?_
        show Go _ _ _ _ (T242.setTop (mkF m 331 #[lI p0, lI p1, lI p2, lI jb, lI jm, lI jc, lI jf, lR b230, lI (0 : Int32), lR w_P, lR w_OE, lI jp] [(.int 1)]))
        obtain ⟨fs, hr, hrun, hended, -, hW, hpair, hsame⟩ := X242.leaveW hS0 (by rw [e242]; exact (Nat.le_trans (Nat.le_trans (Nat.le_trans (Nat.le_trans (Nat.le_trans hk0 K167q.1) (Keep.of_wr W228).1) E230.1) K234q.1) K238q.1)) (v := some (.int 1)) (fun h => by rw [Bd.returns] at h; cases h)
        have hCRe := CR238.trans (CHv.at X242 hZ hEL CR238.1)
        refine ⟨_, ?_, hPend _ _ hrun hended ⟨_, _, rfl, ?_, ?_, ⟨_, rfl⟩, hW, hpair, hsame.mono (by decide) (by decide)⟩⟩
        ·exact retN X242 hx (t := .boolean) Bd.returns (by simp) (hb hby at_331) hr
        ·show Q_rm_law Z _ _ _ _ _ _ _ _ _ _ _ _ _ _ _ _ h0 n0 _ T242.heap _
         rw [e242]
         exact ⟨rfl, N242, K238⟩
        ·show CHr Z consts_1 s.vm s.heap T242.vm T242.heap
         rw [hh, e242]
         exact hCRe
     ·skip
      refine Go.st (fun _ => XS.icmpYes X172.here hx rfl (pc0 := 95) (pc' := 146) rfl (hb hby at_95) rfl (feq hc190).2 (by decide) (by decide)) ?_
      show Go _ _ _ _ (T172.setTop (mkF m 146 #[lI p0, lI p1, lI p2, lI jb, lI jm, lI jc, lI jf, lU, lU, lR w_P, lR ob_168, lU] []))
      refine Go.st (fun _ => XS.iload X172.here hx rfl (hb hby at_146) rfl) ?_
      refine Go.st (fun _ => XS.iconst X172.here hx rfl (hb hby at_148)) ?_
      show Go _ _ _ _ (T172.setTop (mkF m 149 #[lI p0, lI p1, lI p2, lI jb, lI jm, lI jc, lI jf, lU, lU, lR w_P, lR ob_168, lU] [(.int 2), (.int jm)]))
      by_cases hc243 : jm = (2 : Int32)
      ·skip
       refine Go.st (fun _ => XS.icmpNo X172.here hx rfl (hb hby at_149) rfl (teq hc243).2) ?_
       show Go _ _ _ _ (T172.setTop (mkF m 152 #[lI p0, lI p1, lI p2, lI jb, lI jm, lI jc, lI jf, lU, lU, lR w_P, lR ob_168, lU] []))
       refine Go.st (fun _ => XS.iloadN X172.here hx rfl (hb hby at_152) rfl) ?_
       show Go _ _ _ _ (T172.setTop (mkF m 153 #[lI p0, lI p1, lI p2, lI jb, lI jm, lI jc, lI jf, lU, lU, lR w_P, lR ob_168, lU] [(.int jb)]))
       have hb244 : ¬ (jb = (0 : Int32)) := by assumption
       refine Go.st (fun _ => XS.ifYes X172.here hx rfl (pc0 := 153) (pc' := 171) rfl (hb hby at_153) rfl ((if0 _ _).trans (feq hb244).2) (by decide) (by decide)) ?_
       show Go _ _ _ _ (T172.setTop (mkF m 171 #[lI p0, lI p1, lI p2, lI jb, lI jm, lI jc, lI jf, lU, lU, lR w_P, lR ob_168, lU] []))
       obtain ⟨T245, h245, X245, e245, E245, A245, D245, -, st245⟩ := newO X172 hx hZ hown (ow hw 9 rfl) (ow hw 10 rfl) (ow hw 11 rfl) e172 (g := (mkF m 171 #[lI p0, lI p1, lI p2, lI jb, lI jm, lI jc, lI jf, lU, lU, lR w_P, lR ob_168, lU] [])) rfl (hb hby at_171) (by decide) (by decide)
       obtain ⟨b245, g245⟩ : ∃ z, z = T167.heap.size := ⟨_, rfl⟩
       rw [← g245] at A245 D245 st245
       refine Go.st st245 ?_
       have g_b245 : n0 ≤ b245 := Nat.le_trans (own_oldsz O167) (Nat.le_of_eq g245.symm)
       have sz_b245 : h0.size ≤ b245 := Nat.le_trans K167.1 (Nat.le_of_eq g245.symm)
       have K245 : Keep h0 h245 [] := K167.ext E245
       have O245 := O167.ext E245
       have sf246 := Safe.ext E245 CR167.1 sf170
       have SF_b245 : Safe Z consts_1 s.vm h245 b245 := Safe.ext E245 CR167.1 (Safe.new (Nat.le_of_eq g245.symm))
       have CR245 := CR167.trans (CHr.ext E245 CR167.1)
       have F247 : Fld Z h245 b245 "java/lang/String" "coder" "B" (.int 0) := D245 (Or.inr (ow hw 35 rfl)) (ty := .byte) (by decide)
       have F248 : Fld Z h245 b245 "java/lang/String" "value" "[B" .null := D245 (Or.inr (ow hw 37 rfl)) (ty := (.array .byte)) (by decide)
       show Go _ _ _ _ (T245.setTop (mkF m 174 #[lI p0, lI p1, lI p2, lI jb, lI jm, lI jc, lI jf, lU, lU, lR w_P, lR ob_168, lU] [(.ref b245)]))
       refine Go.st (fun _ => XS.dup X245.here hx rfl (hb hby at_174) rfl rfl) ?_
       refine Go.st (fun _ => XS.iload X245.here hx rfl (hb hby at_175) rfl) ?_
       show Go _ _ _ _ (T245.setTop (mkF m 177 #[lI p0, lI p1, lI p2, lI jb, lI jm, lI jc, lI jf, lU, lU, lR w_P, lR ob_168, lU] [(.int jf), (.ref b245), (.ref b245)]))
       have c250 := (q167_1.ext E245)
       obtain ⟨_, _, ⟨T249, L249, k249, n249⟩, -, X249, ⟨Lc249, hQ249, l249, y249, z249⟩, st249⟩ := Jvm.LawKit.callS X245 hx (y := (⟨"com/example/tidewall/tidewall/ledger/AccountClassByIdPinLaw", "propShort", "(Z)[C"⟩ : MethodName)) hown (mvT hZ (ow hw 148 rfl)) (mvT hZ (ow hw 149 rfl)) (mvT hZ (ow hw 3 rfl)) (mvT hZ (ow hw 150 rfl)) (by decide) (backOf (W := 2) (rm_mps l Z a0 hw [] jf h245 n0 O245 ) hZ (ow hw 150 rfl) (ow hw 3 rfl) (by decide) (by decide)) (g := (mkF m 177 #[lI p0, lI p1, lI p2, lI jb, lI jm, lI jc, lI jf, lU, lU, lR w_P, lR ob_168, lU] [(.int jf), (.ref b245), (.ref b245)])) rfl (by rw [hml]; rfl) (argsL := [(.int jf)]) (rest := [(.ref b245), (.ref b245)]) (lenOf own_pd22 rfl) rfl (by show 2 * 0 + _ ≤ _; exact Nat.le_of_eq rfl) (hb hby at_177) (fun _ _ => ⟨rfl, e245, (by decide : 2 + 1 ≤ _), (by decide : 15 + 10 ≤ _)⟩)
       dsimp only [Pt.U, Pt.locs, Pt.cells, Pt.slots] at X249 l249 y249 z249 st249 hQ249
       subst y249 z249
       refine Go.st st249 ?_
       obtain ⟨ob_251, kb_252, xs_253, rfl, N249q, K249q, q249_0, q249_1, q249_2⟩ := hQ249
       have N249 : Fr n0 L249 := by rw [l249]; exact Fr.app N167 N249q
       have SN249_0 : Safe Z consts_1 s.vm h245 ob_251 := Safe.new q249_0
       have O249 := O245.keep K249q all0
       have K249 : Keep h0 T249.heap [] := K245.trans K249q all0
       have sf254 := Safe.keep K249q sf0 CR245.1 sf246
       have sf255 := Safe.keep K249q sf0 CR245.1 SF_b245
       have sf256 := Safe.keep K249q sf0 CR245.1 SN249_0
       have CR249 := CR245.trans (CHr.keep K249q sf0 CR245.1)
       have sz_ob_251 : h0.size ≤ ob_251 := Nat.le_trans K245.1 q249_0
       have g_ob_251 : n0 ≤ ob_251 := Nat.le_trans (own_oldsz X00) sz_ob_251
       show Go _ _ _ _ (T249.setTop (mkF m 180 #[lI p0, lI p1, lI p2, lI jb, lI jm, lI jc, lI jf, lU, lU, lR w_P, lR ob_168, lU] [(.ref ob_251), (.ref b245), (.ref b245)]))
       have c258 := (A245.keep K249q)
       have c259 := (F248.keep K249q nin0)
       have c260 := (F247.keep K249q nin0)
       have hp257 : ∀ c ∈ xs_253, ¬ c < 0 ∧ ¬ (255 : Int32) < c := by
        exact q249_2.2
       have c261 := (c250.keep K249q nin0)
       obtain ⟨_, _, ⟨T257, L257, k257, n257⟩, -, X257, ⟨Lc257, hQ257, l257, y257, z257⟩, st257⟩ := X249.specialBack hx (y := (⟨"java/lang/String", "<init>", "([C)V"⟩ : MethodName)) rfl hown (mvT hZ (ow hw 12 rfl)) (mvT hZ (ow hw 13 rfl)) (mvT hZ (ow hw 14 rfl)) (by decide) (StrChars.Road.backV (W := 1) hZ (fun d hd => hw d (own_wNew d hd)) (kI := 4) (ow hw 10 rfl) (cs := xs_253) (bs := (xs_253).map (fun c => c.toInt8.toInt32)) (n := 10) g_b245 (own_oldsz O249) c258 c259 c260 q249_1 (S_CS.ext O249.2) nz_CS q249_2.1 rfl (by decide) (by decide) hp257 rfl (by decide) (by decide)) (g := (mkF m 180 #[lI p0, lI p1, lI p2, lI jb, lI jm, lI jc, lI jf, lU, lU, lR w_P, lR ob_168, lU] [(.ref ob_251), (.ref b245), (.ref b245)])) rfl (by rw [hml]; rfl) (Steps.refl _) (a := b245) (argsL := [(.ref ob_251)]) (rest := [(.ref b245)]) (lenOf own_pd18 rfl) rfl (by show 2 * 0 + _ ≤ _; exact Nat.le_of_eq rfl) (hb hby at_180) (fun _ _ => ⟨rfl, rfl, (by decide : 3 + 1 ≤ _), (by decide : 25 + 10 ≤ _)⟩)
       dsimp only [Pt.U, Pt.locs, Pt.cells, Pt.slots] at X257 l257 y257 z257 st257 hQ257
       subst y257 z257
       refine Go.tr st257 ?_
       obtain ⟨rfl, N257q, K257q, E257x, C257x, t257, kb257, gt257, szt257, net257, V257x, A257x⟩ := hQ257
       have N257 : Fr n0 L257 := by rw [l257]; exact Fr.app N249 N257q
       have O257 := O249.keep K257q (allS g_b245 all0)
       have K257 : Keep h0 T257.heap [] := K249.trans K257q (allS (Or.inr sz_b245) all0)
       have sf262 := Safe.keep K257q (sfS sf255 sf0) CR249.1 sf254
       have sf263 := Safe.keep K257q (sfS sf255 sf0) CR249.1 sf255
       have sf264 := Safe.keep K257q (sfS sf255 sf0) CR249.1 sf256
       have CR257 := CR249.trans (CHr.keep K257q (sfS sf255 sf0) CR249.1)
       have sz_t257 : h0.size ≤ t257 := Nat.le_trans K249.1 szt257
       show Go _ _ _ _ (T257.setTop (mkF m 183 #[lI p0, lI p1, lI p2, lI jb, lI jm, lI jc, lI jf, lU, lU, lR w_P, lR ob_168, lU] [(.ref b245)]))
       refine Go.st (fun _ => XS.astore X257.here hx rfl (hb hby at_183) rfl rfl (l' := #[lI p0, lI p1, lI p2, lI jb, lI jm, lI jc, lI jf, lR b245, lU, lR w_P, lR ob_168, lU]) rfl) ?_
       show Go _ _ _ _ (T257.setTop (mkF m 185 #[lI p0, lI p1, lI p2, lI jb, lI jm, lI jc, lI jf, lR b245, lU, lR w_P, lR ob_168, lU] []))
       refine Go.st (fun _ => XS.iconst X257.here hx rfl (hb hby at_185)) ?_
       show Go _ _ _ _ (T257.setTop (mkF m 186 #[lI p0, lI p1, lI p2, lI jb, lI jm, lI jc, lI jf, lR b245, lU, lR w_P, lR ob_168, lU] [(.int 0)]))
       refine Go.st (fun _ => XS.istore X257.here hx rfl (hb hby at_186) rfl (l' := #[lI p0, lI p1, lI p2, lI jb, lI jm, lI jc, lI jf, lR b245, lI (0 : Int32), lR w_P, lR ob_168, lU]) rfl) ?_
       show Go _ _ _ _ (T257.setTop (mkF m 188 #[lI p0, lI p1, lI p2, lI jb, lI jm, lI jc, lI jf, lR b245, lI (0 : Int32), lR w_P, lR ob_168, lU] []))
       refine Go.st (fun _ => XS.goto X257.here hx rfl (pc0 := 188) (pc' := 231) rfl (hb hby at_188) (by decide) (by decide)) ?_
       show Go _ _ _ _ (T257.setTop (mkF m 231 #[lI p0, lI p1, lI p2, lI jb, lI jm, lI jc, lI jf, lR b245, lI (0 : Int32), lR w_P, lR ob_168, lU] []))
       refine Go.st (fun _ => XS.goto X257.here hx rfl (pc0 := 231) (pc' := 282) rfl (hb hby at_231) (by decide) (by decide)) ?_
       show Go _ _ _ _ (T257.setTop (mkF m 282 #[lI p0, lI p1, lI p2, lI jb, lI jm, lI jc, lI jf, lR b245, lI (0 : Int32), lR w_P, lR ob_168, lU] []))
       refine Go.st (fun _ => XS.aload X257.here hx rfl (hb hby at_282) rfl rfl) ?_
       show Go _ _ _ _ (T257.setTop (mkF m 284 #[lI p0, lI p1, lI p2, lI jb, lI jm, lI jc, lI jf, lR b245, lI (0 : Int32), lR w_P, lR ob_168, lU] [(.ref b245)]))
       have c266 := (c261.keep K257q (ninS (Nat.ne_of_lt (Nat.lt_of_lt_of_le q167_1.lt (Nat.le_of_eq g245.symm))) nin0))
       have c267 := (q249_1.keep K257q (ninS (Ne.symm (Nat.ne_of_lt (Nat.lt_of_lt_of_le A245.lt q249_0))) nin0))
       obtain ⟨_, _, ⟨T265, L265, k265, n265⟩, -, X265, ⟨Lc265, hQ265, l265, y265, z265⟩, st265⟩ := Jvm.LawKit.callS X257 hx (y := (⟨"com/example/tidewall/tidewall/ledger/AccountClass", "byId", "(Ljava/lang/String;)Ljava/util/Optional;"⟩ : MethodName)) hown (mvT hZ (ow hw 38 rfl)) (mvT hZ (ow hw 39 rfl)) (mvT hZ (ow hw 7 rfl)) (mvT hZ (ow hw 40 rfl)) (by decide) (backOf (W := 0) (rm_byo l Z a0 hw [] w_C S_C X_C w_P S_P X_P w_V k_V S_V X_V V_V w_CS F_CS X_CS I_CS_coder w_CB k_CB F_CB V_CB w_PS F_PS X_PS I_PS_coder w_PB k_PB F_PB V_PB S_AD S_HI S_LO w_OE S_OE X_OE I_OE_value g_CS S_CS nz_CS g_SF S_SF r_SF b245 xs_253 t257 kb257 T257.heap n0 O257 E257x C257x V257x (own_arvN q249_2.1 A257x) hp257 (by rw [show xs_253.length = 10 from q249_2.1]; decide) (own_lenne (by rw [q249_2.1]; decide)) (own_lenne (by rw [q249_2.1]; decide))) hZ (ow hw 40 rfl) (ow hw 7 rfl) (by decide) (by decide)) (g := (mkF m 284 #[lI p0, lI p1, lI p2, lI jb, lI jm, lI jc, lI jf, lR b245, lI (0 : Int32), lR w_P, lR ob_168, lU] [(.ref b245)])) rfl (by rw [hml]; rfl) (argsL := [(.ref b245)]) (rest := []) (lenOf own_pd19 rfl) rfl (by show 2 * 0 + _ ≤ _; exact Nat.le_of_eq rfl) (hb hby at_284) (fun _ _ => ⟨rfl, rfl, (by decide : 4 + 1 ≤ _), (by decide : 35 + 2 ≤ _)⟩)
       dsimp only [Pt.U, Pt.locs, Pt.cells, Pt.slots] at X265 l265 y265 z265 st265 hQ265
       subst y265 z265
       refine Go.st st265 ?_
       obtain ⟨rfl, N265q, K265q⟩ := hQ265
       have N265 : Fr n0 L265 := by rw [l265]; exact Fr.app N257 N265q
       have O265 := O257.keep K265q all0
       have K265 : Keep h0 T265.heap [] := K257.trans K265q all0
       have sf268 := Safe.keep K265q sf0 CR257.1 sf262
       have sf269 := Safe.keep K265q sf0 CR257.1 sf263
       have sf270 := Safe.keep K265q sf0 CR257.1 sf264
       have CR265 := CR257.trans (CHr.keep K265q sf0 CR257.1)
       show Go _ _ _ _ (T265.setTop (mkF m 287 #[lI p0, lI p1, lI p2, lI jb, lI jm, lI jc, lI jf, lR b245, lI (0 : Int32), lR w_P, lR ob_168, lU] [(.ref w_OE)]))
       refine Go.st (fun _ => XS.astore X265.here hx rfl (hb hby at_287) rfl rfl (l' := #[lI p0, lI p1, lI p2, lI jb, lI jm, lI jc, lI jf, lR b245, lI (0 : Int32), lR w_P, lR w_OE, lU]) rfl) ?_
       show Go _ _ _ _ (T265.setTop (mkF m 289 #[lI p0, lI p1, lI p2, lI jb, lI jm, lI jc, lI jf, lR b245, lI (0 : Int32), lR w_P, lR w_OE, lU] []))
       refine Go.st (fun _ => XS.iload X265.here hx rfl (hb hby at_289) rfl) ?_
       show Go _ _ _ _ (T265.setTop (mkF m 291 #[lI p0, lI p1, lI p2, lI jb, lI jm, lI jc, lI jf, lR b245, lI (0 : Int32), lR w_P, lR w_OE, lU] [(.int 0)]))
       refine Go.st (fun _ => XS.ifYes X265.here hx rfl (pc0 := 291) (pc' := 318) rfl (hb hby at_291) rfl ((if0 _ _).trans (teq (by decide)).1) (by decide) (by decide)) ?_
       show Go _ _ _ _ (T265.setTop (mkF m 318 #[lI p0, lI p1, lI p2, lI jb, lI jm, lI jc, lI jf, lR b245, lI (0 : Int32), lR w_P, lR w_OE, lU] []))
       refine Go.st (fun _ => XS.aload X265.here hx rfl (hb hby at_318) rfl rfl) ?_
       show Go _ _ _ _ (T265.setTop (mkF m 320 #[lI p0, lI p1, lI p2, lI jb, lI jm, lI jc, lI jf, lR b245, lI (0 : Int32), lR w_P, lR w_OE, lU] [(.ref w_OE)]))
       obtain ⟨cq271, kq271, q271a, q271b, q271c⟩ := isOf hZ rfl (X_OE.ext O265.2)
       obtain ⟨_, _, ⟨T271, L271, k271, n271⟩, -, X271, ⟨Lc271, hQ271, l271, y271, z271⟩, st271⟩ := X265.virtualBack hx (y := (⟨"java/util/Optional", "isPresent", "()Z"⟩ : MethodName)) (z := (⟨"java/util/Optional", "isPresent", "()Z"⟩ : MethodName)) hown (mvT hZ (ow hw 86 rfl)) (mvT hZ (ow hw 87 rfl)) (notFace_of_selects (args := #[]) (mvT hZ (ow hw 89 rfl))) (mvT hZ (ow hw 89 rfl)) (mvT hZ (ow hw 88 rfl)) (by decide) (backOf (W := 0) (rm_ip0 l Z a0 hw [] w_OE T265.heap n0 O265 (I_OE_value.ext O265.2)) hZ (ow hw 90 rfl) (ow hw 71 rfl) (by decide) (by decide)) q271a q271c (g := (mkF m 320 #[lI p0, lI p1, lI p2, lI jb, lI jm, lI jc, lI jf, lR b245, lI (0 : Int32), lR w_P, lR w_OE, lU] [(.ref w_OE)])) rfl (by rw [hml]; rfl) (Steps.refl _) (argsL := []) (rest := []) (lenOf own_pd20 rfl) rfl (by show 2 * 0 + _ ≤ _; exact Nat.le_of_eq rfl) (hb hby at_320) (fun _ _ => ⟨rfl, rfl, (by decide : 5 + 0 ≤ _), (by decide : 37 + 0 ≤ _)⟩)
       dsimp only [Pt.U, Pt.locs, Pt.cells, Pt.slots] at X271 l271 y271 z271 st271 hQ271
       subst y271 z271
       refine Go.tr st271 ?_
       obtain ⟨rfl, N271q, e271⟩ := hQ271
       have N271 : Fr n0 L271 := by rw [l271]; exact Fr.app N265 N271q
       show Go _ _ _ _ (T271.setTop (mkF m 323 #[lI p0, lI p1, lI p2, lI jb, lI jm, lI jc, lI jf, lR b245, lI (0 : Int32), lR w_P, lR w_OE, lU] [(.int 0)]))
       refine Go.st (fun _ => XS.ifNo X271.here hx rfl (hb hby at_323) rfl ((if0 _ _).trans (teq (by decide)).2)) ?_
       show Go _ _ _ _ (T271.setTop (mkF m 326 #[lI p0, lI p1, lI p2, lI jb, lI jm, lI jc, lI jf, lR b245, lI (0 : Int32), lR w_P, lR w_OE, lU] []))
       refine Go.st (fun _ => XS.iconst X271.here hx rfl (hb hby at_326)) ?_
       show Go _ _ _ _ (T271.setTop (mkF m 327 #[lI p0, lI p1, lI p2, lI jb, lI jm, lI jc, lI jf, lR b245, lI (0 : Int32), lR w_P, lR w_OE, lU] [(.int 1)]))
       refine Go.st (fun _ => XS.goto X271.here hx rfl (pc0 := 327) (pc' := 331) rfl (hb hby at_327) (by decide) (by decide)) ?_
       show Go _ _ _ _ (T271.setTop (mkF m 331 #[lI p0, lI p1, lI p2, lI jb, lI jm, lI jc, lI jf, lR b245, lI (0 : Int32), lR w_P, lR w_OE, lU] [(.int 1)]))
       obtain ⟨fs, hr, hrun, hended, -, hW, hpair, hsame⟩ := X271.leaveW hS0 (by rw [e271]; exact (Nat.le_trans (Nat.le_trans (Nat.le_trans (Nat.le_trans (Nat.le_trans hk0 K167q.1) E245.1) K249q.1) K257q.1) K265q.1)) (v := some (.int 1)) (fun h => by rw [Bd.returns] at h; cases h)
       have hCRe := CR265.trans (CHv.at X271 hZ hEL CR265.1)
       refine ⟨_, ?_, hPend _ _ hrun hended ⟨_, _, rfl, ?_, ?_, ⟨_, rfl⟩, hW, hpair, hsame.mono (by decide) (by decide)⟩⟩
       ·exact retN X271 hx (t := .boolean) Bd.returns (by simp) (hb hby at_331) hr
       ·show Q_rm_law Z _ _ _ _ _ _ _ _ _ _ _ _ _ _ _ _ h0 n0 _ T271.heap _
        rw [e271]
        exact ⟨rfl, N271, K265⟩
       ·show CHr Z consts_1 s.vm s.heap T271.vm T271.heap
        rw [hh, e271]
        exact hCRe
      ·skip
       refine Go.st (fun _ => XS.icmpYes X172.here hx rfl (pc0 := 149) (pc' := 191) rfl (hb hby at_149) rfl (feq hc243).2 (by decide) (by decide)) ?_
       show Go _ _ _ _ (T172.setTop (mkF m 191 #[lI p0, lI p1, lI p2, lI jb, lI jm, lI jc, lI jf, lU, lU, lR w_P, lR ob_168, lU] []))
       by_cases hcw : (255 : Int32) < jc
       ·skip
        show Go _ _ _ _ (T172.setTop (mkF m 191 #[lI p0, lI p1, lI p2, lI jb, lI jm, lI jc, lI jf, lU, lU, lR w_P, lR ob_168, lU] []))
        refine Go.st (fun _ => XS.iloadN X172.here hx rfl (hb hby at_191) rfl) ?_
        show Go _ _ _ _ (T172.setTop (mkF m 192 #[lI p0, lI p1, lI p2, lI jb, lI jm, lI jc, lI jf, lU, lU, lR w_P, lR ob_168, lU] [(.int jb)]))
        have hb272 : ¬ (jb = (0 : Int32)) := by assumption
        refine Go.st (fun _ => XS.ifYes X172.here hx rfl (pc0 := 192) (pc' := 212) rfl (hb hby at_192) rfl ((if0 _ _).trans (feq hb272).2) (by decide) (by decide)) ?_
        show Go _ _ _ _ (T172.setTop (mkF m 212 #[lI p0, lI p1, lI p2, lI jb, lI jm, lI jc, lI jf, lU, lU, lR w_P, lR ob_168, lU] []))
        obtain ⟨T273, h273, X273, e273, E273, A273, D273, -, st273⟩ := newO X172 hx hZ hown (ow hw 9 rfl) (ow hw 10 rfl) (ow hw 11 rfl) e172 (g := (mkF m 212 #[lI p0, lI p1, lI p2, lI jb, lI jm, lI jc, lI jf, lU, lU, lR w_P, lR ob_168, lU] [])) rfl (hb hby at_212) (by decide) (by decide)
        obtain ⟨b273, g273⟩ : ∃ z, z = T167.heap.size := ⟨_, rfl⟩
        rw [← g273] at A273 D273 st273
        refine Go.st st273 ?_
        have g_b273 : n0 ≤ b273 := Nat.le_trans (own_oldsz O167) (Nat.le_of_eq g273.symm)
        have sz_b273 : h0.size ≤ b273 := Nat.le_trans K167.1 (Nat.le_of_eq g273.symm)
        have K273 : Keep h0 h273 [] := K167.ext E273
        have O273 := O167.ext E273
        have sf274 := Safe.ext E273 CR167.1 sf170
        have SF_b273 : Safe Z consts_1 s.vm h273 b273 := Safe.ext E273 CR167.1 (Safe.new (Nat.le_of_eq g273.symm))
        have CR273 := CR167.trans (CHr.ext E273 CR167.1)
        have F275 : Fld Z h273 b273 "java/lang/String" "coder" "B" (.int 0) := D273 (Or.inr (ow hw 35 rfl)) (ty := .byte) (by decide)
        have F276 : Fld Z h273 b273 "java/lang/String" "value" "[B" .null := D273 (Or.inr (ow hw 37 rfl)) (ty := (.array .byte)) (by decide)
        show Go _ _ _ _ (T273.setTop (mkF m 215 #[lI p0, lI p1, lI p2, lI jb, lI jm, lI jc, lI jf, lU, lU, lR w_P, lR ob_168, lU] [(.ref b273)]))
        refine Go.st (fun _ => XS.dup X273.here hx rfl (hb hby at_215) rfl rfl) ?_
        refine Go.st (fun _ => XS.iload X273.here hx rfl (hb hby at_216) rfl) ?_
        refine Go.st (fun _ => XS.iload X273.here hx rfl (hb hby at_218) rfl) ?_
        show Go _ _ _ _ (T273.setTop (mkF m 220 #[lI p0, lI p1, lI p2, lI jb, lI jm, lI jc, lI jf, lU, lU, lR w_P, lR ob_168, lU] [(.int jf), (.int jc), (.ref b273), (.ref b273)]))
        have c278 := (q167_1.ext E273)
        obtain ⟨_, _, ⟨T277, L277, k277, n277⟩, -, X277, ⟨Lc277, hQ277, l277, y277, z277⟩, st277⟩ := Jvm.LawKit.callS X273 hx (y := (⟨"com/example/tidewall/tidewall/ledger/AccountClassByIdPinLaw", "propLong", "(CZ)[C"⟩ : MethodName)) hown (mvT hZ (ow hw 129 rfl)) (mvT hZ (ow hw 130 rfl)) (mvT hZ (ow hw 3 rfl)) (mvT hZ (ow hw 131 rfl)) (by decide) (backOf (W := 2) (rm_mpl l Z a0 hw [] jc jf h273 n0 O273 hjc) hZ (ow hw 131 rfl) (ow hw 3 rfl) (by decide) (by decide)) (g := (mkF m 220 #[lI p0, lI p1, lI p2, lI jb, lI jm, lI jc, lI jf, lU, lU, lR w_P, lR ob_168, lU] [(.int jf), (.int jc), (.ref b273), (.ref b273)])) rfl (by rw [hml]; rfl) (argsL := [(.int jc), (.int jf)]) (rest := [(.ref b273), (.ref b273)]) (lenOf own_pd23 rfl) rfl (by show 2 * 0 + _ ≤ _; exact Nat.le_of_eq rfl) (hb hby at_220) (fun _ _ => ⟨rfl, e273, (by decide : 2 + 1 ≤ _), (by decide : 15 + 12 ≤ _)⟩)
        dsimp only [Pt.U, Pt.locs, Pt.cells, Pt.slots] at X277 l277 y277 z277 st277 hQ277
        subst y277 z277
        refine Go.st st277 ?_
        obtain ⟨ob_279, kb_280, xs_281, rfl, N277q, K277q, q277_0, q277_1, q277_2, q277_3, q277_4, q277_5⟩ := hQ277
        have N277 : Fr n0 L277 := by rw [l277]; exact Fr.app N167 N277q
        have SN277_0 : Safe Z consts_1 s.vm h273 ob_279 := Safe.new q277_0
        have O277 := O273.keep K277q all0
        have K277 : Keep h0 T277.heap [] := K273.trans K277q all0
        have sf282 := Safe.keep K277q sf0 CR273.1 sf274
        have sf283 := Safe.keep K277q sf0 CR273.1 SF_b273
        have sf284 := Safe.keep K277q sf0 CR273.1 SN277_0
        have CR277 := CR273.trans (CHr.keep K277q sf0 CR273.1)
        have sz_ob_279 : h0.size ≤ ob_279 := Nat.le_trans K273.1 q277_0
        have g_ob_279 : n0 ≤ ob_279 := Nat.le_trans (own_oldsz X00) sz_ob_279
        show Go _ _ _ _ (T277.setTop (mkF m 223 #[lI p0, lI p1, lI p2, lI jb, lI jm, lI jc, lI jf, lU, lU, lR w_P, lR ob_168, lU] [(.ref ob_279), (.ref b273), (.ref b273)]))
        obtain ⟨jj, hjj⟩ := q277_4 hcw
        have c286 := (A273.keep K277q)
        have c287 := (F276.keep K277q nin0)
        have c288 := (F275.keep K277q nin0)
        have c289 := (c278.keep K277q nin0)
        obtain ⟨_, _, ⟨T285, L285, k285, n285⟩, -, X285, ⟨Lc285, hQ285, l285, y285, z285⟩, st285⟩ := X277.specialBack hx (y := (⟨"java/lang/String", "<init>", "([C)V"⟩ : MethodName)) rfl hown (mvT hZ (ow hw 12 rfl)) (mvT hZ (ow hw 13 rfl)) (mvT hZ (ow hw 14 rfl)) (by decide) (backOf (W := 1) (rm_wid1 l Z a0 hw [] S_AD S_HI S_LO g_CS S_CS nz_CS b273 ob_279 xs_281 kb_280 12 jj T277.heap n0 O277 c286 c287 c288 g_b273 q277_1 (by decide) q277_2 hjj q277_5) hZ (ow hw 14 rfl) (ow hw 11 rfl) (by decide) (by decide)) (g := (mkF m 223 #[lI p0, lI p1, lI p2, lI jb, lI jm, lI jc, lI jf, lU, lU, lR w_P, lR ob_168, lU] [(.ref ob_279), (.ref b273), (.ref b273)])) rfl (by rw [hml]; rfl) (Steps.refl _) (a := b273) (argsL := [(.ref ob_279)]) (rest := [(.ref b273)]) (lenOf own_pd18 rfl) rfl (by show 2 * 0 + _ ≤ _; exact Nat.le_of_eq rfl) (hb hby at_223) (fun _ _ => ⟨rfl, rfl, (by decide : 3 + 2 ≤ _), (by decide : 27 + 96 ≤ _)⟩)
        dsimp only [Pt.U, Pt.locs, Pt.cells, Pt.slots] at X285 l285 y285 z285 st285 hQ285
        subst y285 z285
        refine Go.tr st285 ?_
        obtain ⟨rfl, N285q, K285q, q285_0, q285_1⟩ := hQ285
        have N285 : Fr n0 L285 := by rw [l285]; exact Fr.app N277 N285q
        have O285 := O277.keep K285q (allS g_b273 all0)
        have K285 : Keep h0 T285.heap [] := K277.trans K285q (allS (Or.inr sz_b273) all0)
        have sf290 := Safe.keep K285q (sfS sf283 sf0) CR277.1 sf282
        have sf291 := Safe.keep K285q (sfS sf283 sf0) CR277.1 sf283
        have sf292 := Safe.keep K285q (sfS sf283 sf0) CR277.1 sf284
        have CR285 := CR277.trans (CHr.keep K285q (sfS sf283 sf0) CR277.1)
        show Go _ _ _ _ (T285.setTop (mkF m 226 #[lI p0, lI p1, lI p2, lI jb, lI jm, lI jc, lI jf, lU, lU, lR w_P, lR ob_168, lU] [(.ref b273)]))
        refine Go.st (fun _ => XS.astore X285.here hx rfl (hb hby at_226) rfl rfl (l' := #[lI p0, lI p1, lI p2, lI jb, lI jm, lI jc, lI jf, lR b273, lU, lR w_P, lR ob_168, lU]) rfl) ?_
        show Go _ _ _ _ (T285.setTop (mkF m 228 #[lI p0, lI p1, lI p2, lI jb, lI jm, lI jc, lI jf, lR b273, lU, lR w_P, lR ob_168, lU] []))
        refine Go.st (fun _ => XS.iconst X285.here hx rfl (hb hby at_228)) ?_
        show Go _ _ _ _ (T285.setTop (mkF m 229 #[lI p0, lI p1, lI p2, lI jb, lI jm, lI jc, lI jf, lR b273, lU, lR w_P, lR ob_168, lU] [(.int 0)]))
        refine Go.st (fun _ => XS.istore X285.here hx rfl (hb hby at_229) rfl (l' := #[lI p0, lI p1, lI p2, lI jb, lI jm, lI jc, lI jf, lR b273, lI (0 : Int32), lR w_P, lR ob_168, lU]) rfl) ?_
        show Go _ _ _ _ (T285.setTop (mkF m 231 #[lI p0, lI p1, lI p2, lI jb, lI jm, lI jc, lI jf, lR b273, lI (0 : Int32), lR w_P, lR ob_168, lU] []))
        refine Go.st (fun _ => XS.goto X285.here hx rfl (pc0 := 231) (pc' := 282) rfl (hb hby at_231) (by decide) (by decide)) ?_
        show Go _ _ _ _ (T285.setTop (mkF m 282 #[lI p0, lI p1, lI p2, lI jb, lI jm, lI jc, lI jf, lR b273, lI (0 : Int32), lR w_P, lR ob_168, lU] []))
        refine Go.st (fun _ => XS.aload X285.here hx rfl (hb hby at_282) rfl rfl) ?_
        show Go _ _ _ _ (T285.setTop (mkF m 284 #[lI p0, lI p1, lI p2, lI jb, lI jm, lI jc, lI jf, lR b273, lI (0 : Int32), lR w_P, lR ob_168, lU] [(.ref b273)]))
        have c294 := (c289.keep K285q (ninS (Nat.ne_of_lt (Nat.lt_of_lt_of_le q167_1.lt (Nat.le_of_eq g273.symm))) nin0))
        have c295 := (q277_1.keep K285q (ninS (Ne.symm (Nat.ne_of_lt (Nat.lt_of_lt_of_le A273.lt q277_0))) nin0))
        obtain ⟨_, _, ⟨T293, L293, k293, n293⟩, -, X293, ⟨Lc293, hQ293, l293, y293, z293⟩, st293⟩ := Jvm.LawKit.callS X285 hx (y := (⟨"com/example/tidewall/tidewall/ledger/AccountClass", "byId", "(Ljava/lang/String;)Ljava/util/Optional;"⟩ : MethodName)) hown (mvT hZ (ow hw 38 rfl)) (mvT hZ (ow hw 39 rfl)) (mvT hZ (ow hw 7 rfl)) (mvT hZ (ow hw 40 rfl)) (by decide) (backOf (W := 0) (rm_byW l Z a0 hw [] w_C S_C X_C w_P S_P X_P w_V k_V S_V X_V V_V w_CS F_CS X_CS I_CS_coder w_CB k_CB F_CB V_CB w_PS F_PS X_PS I_PS_coder w_PB k_PB F_PB V_PB S_AD S_HI S_LO w_OE S_OE X_OE I_OE_value g_CS S_CS nz_CS g_SF S_SF r_SF b273 T285.heap n0 O285 q285_0 q285_1) hZ (ow hw 40 rfl) (ow hw 7 rfl) (by decide) (by decide)) (g := (mkF m 284 #[lI p0, lI p1, lI p2, lI jb, lI jm, lI jc, lI jf, lR b273, lI (0 : Int32), lR w_P, lR ob_168, lU] [(.ref b273)])) rfl (by rw [hml]; rfl) (argsL := [(.ref b273)]) (rest := []) (lenOf own_pd19 rfl) rfl (by show 2 * 0 + _ ≤ _; exact Nat.le_of_eq rfl) (hb hby at_284) (fun _ _ => ⟨rfl, rfl, (by decide : 5 + 1 ≤ _), (by decide : 123 + 2 ≤ _)⟩)
        dsimp only [Pt.U, Pt.locs, Pt.cells, Pt.slots] at X293 l293 y293 z293 st293 hQ293
        subst y293 z293
        refine Go.st st293 ?_
        obtain ⟨rfl, N293q, K293q⟩ := hQ293
        have N293 : Fr n0 L293 := by rw [l293]; exact Fr.app N285 N293q
        have O293 := O285.keep K293q all0
        have K293 : Keep h0 T293.heap [] := K285.trans K293q all0
        have sf296 := Safe.keep K293q sf0 CR285.1 sf290
        have sf297 := Safe.keep K293q sf0 CR285.1 sf291
        have sf298 := Safe.keep K293q sf0 CR285.1 sf292
        have CR293 := CR285.trans (CHr.keep K293q sf0 CR285.1)
        show Go _ _ _ _ (T293.setTop (mkF m 287 #[lI p0, lI p1, lI p2, lI jb, lI jm, lI jc, lI jf, lR b273, lI (0 : Int32), lR w_P, lR ob_168, lU] [(.ref w_OE)]))
        refine Go.st (fun _ => XS.astore X293.here hx rfl (hb hby at_287) rfl rfl (l' := #[lI p0, lI p1, lI p2, lI jb, lI jm, lI jc, lI jf, lR b273, lI (0 : Int32), lR w_P, lR w_OE, lU]) rfl) ?_
        show Go _ _ _ _ (T293.setTop (mkF m 289 #[lI p0, lI p1, lI p2, lI jb, lI jm, lI jc, lI jf, lR b273, lI (0 : Int32), lR w_P, lR w_OE, lU] []))
        refine Go.st (fun _ => XS.iload X293.here hx rfl (hb hby at_289) rfl) ?_
        show Go _ _ _ _ (T293.setTop (mkF m 291 #[lI p0, lI p1, lI p2, lI jb, lI jm, lI jc, lI jf, lR b273, lI (0 : Int32), lR w_P, lR w_OE, lU] [(.int 0)]))
        refine Go.st (fun _ => XS.ifYes X293.here hx rfl (pc0 := 291) (pc' := 318) rfl (hb hby at_291) rfl ((if0 _ _).trans (teq (by decide)).1) (by decide) (by decide)) ?_
        show Go _ _ _ _ (T293.setTop (mkF m 318 #[lI p0, lI p1, lI p2, lI jb, lI jm, lI jc, lI jf, lR b273, lI (0 : Int32), lR w_P, lR w_OE, lU] []))
        refine Go.st (fun _ => XS.aload X293.here hx rfl (hb hby at_318) rfl rfl) ?_
        show Go _ _ _ _ (T293.setTop (mkF m 320 #[lI p0, lI p1, lI p2, lI jb, lI jm, lI jc, lI jf, lR b273, lI (0 : Int32), lR w_P, lR w_OE, lU] [(.ref w_OE)]))
        obtain ⟨cq299, kq299, q299a, q299b, q299c⟩ := isOf hZ rfl (X_OE.ext O293.2)
        obtain ⟨_, _, ⟨T299, L299, k299, n299⟩, -, X299, ⟨Lc299, hQ299, l299, y299, z299⟩, st299⟩ := X293.virtualBack hx (y := (⟨"java/util/Optional", "isPresent", "()Z"⟩ : MethodName)) (z := (⟨"java/util/Optional", "isPresent", "()Z"⟩ : MethodName)) hown (mvT hZ (ow hw 86 rfl)) (mvT hZ (ow hw 87 rfl)) (notFace_of_selects (args := #[]) (mvT hZ (ow hw 89 rfl))) (mvT hZ (ow hw 89 rfl)) (mvT hZ (ow hw 88 rfl)) (by decide) (backOf (W := 0) (rm_ip0 l Z a0 hw [] w_OE T293.heap n0 O293 (I_OE_value.ext O293.2)) hZ (ow hw 90 rfl) (ow hw 71 rfl) (by decide) (by decide)) q299a q299c (g := (mkF m 320 #[lI p0, lI p1, lI p2, lI jb, lI jm, lI jc, lI jf, lR b273, lI (0 : Int32), lR w_P, lR w_OE, lU] [(.ref w_OE)])) rfl (by rw [hml]; rfl) (Steps.refl _) (argsL := []) (rest := []) (lenOf own_pd20 rfl) rfl (by show 2 * 0 + _ ≤ _; exact Nat.le_of_eq rfl) (hb hby at_320) (fun _ _ => ⟨rfl, rfl, (by decide : 6 + 0 ≤ _), (by decide : 125 + 0 ≤ _)⟩)
        dsimp only [Pt.U, Pt.locs, Pt.cells, Pt.slots] at X299 l299 y299 z299 st299 hQ299
        subst y299 z299
        refine Go.tr st299 ?_
        obtain ⟨rfl, N299q, e299⟩ := hQ299
        have N299 : Fr n0 L299 := by rw [l299]; exact Fr.app N293 N299q
        show Go _ _ _ _ (T299.setTop (mkF m 323 #[lI p0, lI p1, lI p2, lI jb, lI jm, lI jc, lI jf, lR b273, lI (0 : Int32), lR w_P, lR w_OE, lU] [(.int 0)]))
        refine Go.st (fun _ => XS.ifNo X299.here hx rfl (hb hby at_323) rfl ((if0 _ _).trans (teq (by decide)).2)) ?_
        show Go _ _ _ _ (T299.setTop (mkF m 326 #[lI p0, lI p1, lI p2, lI jb, lI jm, lI jc, lI jf, lR b273, lI (0 : Int32), lR w_P, lR w_OE, lU] []))
        refine Go.st (fun _ => XS.iconst X299.here hx rfl (hb hby at_326)) ?_
        show Go _ _ _ _ (T299.setTop (mkF m 327 #[lI p0, lI p1, lI p2, lI jb, lI jm, lI jc, lI jf, lR b273, lI (0 : Int32), lR w_P, lR w_OE, lU] [(.int 1)]))
        refine Go.st (fun _ => XS.goto X299.here hx rfl (pc0 := 327) (pc' := 331) rfl (hb hby at_327) (by decide) (by decide)) ?_
        show Go _ _ _ _ (T299.setTop (mkF m 331 #[lI p0, lI p1, lI p2, lI jb, lI jm, lI jc, lI jf, lR b273, lI (0 : Int32), lR w_P, lR w_OE, lU] [(.int 1)]))
        obtain ⟨fs, hr, hrun, hended, -, hW, hpair, hsame⟩ := X299.leaveW hS0 (by rw [e299]; exact (Nat.le_trans (Nat.le_trans (Nat.le_trans (Nat.le_trans (Nat.le_trans hk0 K167q.1) E273.1) K277q.1) K285q.1) K293q.1)) (v := some (.int 1)) (fun h => by rw [Bd.returns] at h; cases h)
        have hCRe := CR293.trans (CHv.at X299 hZ hEL CR293.1)
        refine ⟨_, ?_, hPend _ _ hrun hended ⟨_, _, rfl, ?_, ?_, ⟨_, rfl⟩, hW, hpair, hsame.mono (by decide) (by decide)⟩⟩
        ·exact retN X299 hx (t := .boolean) Bd.returns (by simp) (hb hby at_331) hr
        ·show Q_rm_law Z _ _ _ _ _ _ _ _ _ _ _ _ _ _ _ _ h0 n0 _ T299.heap _
         rw [e299]
         exact ⟨rfl, N299, K293⟩
        ·show CHr Z consts_1 s.vm s.heap T299.vm T299.heap
         rw [hh, e299]
         exact hCRe
       ·skip
        show Go _ _ _ _ (T172.setTop (mkF m 191 #[lI p0, lI p1, lI p2, lI jb, lI jm, lI jc, lI jf, lU, lU, lR w_P, lR ob_168, lU] []))
        refine Go.st (fun _ => XS.iloadN X172.here hx rfl (hb hby at_191) rfl) ?_
        show Go _ _ _ _ (T172.setTop (mkF m 192 #[lI p0, lI p1, lI p2, lI jb, lI jm, lI jc, lI jf, lU, lU, lR w_P, lR ob_168, lU] [(.int jb)]))
        have hb300 : ¬ (jb = (0 : Int32)) := by assumption
        refine Go.st (fun _ => XS.ifYes X172.here hx rfl (pc0 := 192) (pc' := 212) rfl (hb hby at_192) rfl ((if0 _ _).trans (feq hb300).2) (by decide) (by decide)) ?_
        show Go _ _ _ _ (T172.setTop (mkF m 212 #[lI p0, lI p1, lI p2, lI jb, lI jm, lI jc, lI jf, lU, lU, lR w_P, lR ob_168, lU] []))
        obtain ⟨T301, h301, X301, e301, E301, A301, D301, -, st301⟩ := newO X172 hx hZ hown (ow hw 9 rfl) (ow hw 10 rfl) (ow hw 11 rfl) e172 (g := (mkF m 212 #[lI p0, lI p1, lI p2, lI jb, lI jm, lI jc, lI jf, lU, lU, lR w_P, lR ob_168, lU] [])) rfl (hb hby at_212) (by decide) (by decide)
        obtain ⟨b301, g301⟩ : ∃ z, z = T167.heap.size := ⟨_, rfl⟩
        rw [← g301] at A301 D301 st301
        refine Go.st st301 ?_
        have g_b301 : n0 ≤ b301 := Nat.le_trans (own_oldsz O167) (Nat.le_of_eq g301.symm)
        have sz_b301 : h0.size ≤ b301 := Nat.le_trans K167.1 (Nat.le_of_eq g301.symm)
        have K301 : Keep h0 h301 [] := K167.ext E301
        have O301 := O167.ext E301
        have sf302 := Safe.ext E301 CR167.1 sf170
        have SF_b301 : Safe Z consts_1 s.vm h301 b301 := Safe.ext E301 CR167.1 (Safe.new (Nat.le_of_eq g301.symm))
        have CR301 := CR167.trans (CHr.ext E301 CR167.1)
        have F303 : Fld Z h301 b301 "java/lang/String" "coder" "B" (.int 0) := D301 (Or.inr (ow hw 35 rfl)) (ty := .byte) (by decide)
        have F304 : Fld Z h301 b301 "java/lang/String" "value" "[B" .null := D301 (Or.inr (ow hw 37 rfl)) (ty := (.array .byte)) (by decide)
        show Go _ _ _ _ (T301.setTop (mkF m 215 #[lI p0, lI p1, lI p2, lI jb, lI jm, lI jc, lI jf, lU, lU, lR w_P, lR ob_168, lU] [(.ref b301)]))
        refine Go.st (fun _ => XS.dup X301.here hx rfl (hb hby at_215) rfl rfl) ?_
        refine Go.st (fun _ => XS.iload X301.here hx rfl (hb hby at_216) rfl) ?_
        refine Go.st (fun _ => XS.iload X301.here hx rfl (hb hby at_218) rfl) ?_
        show Go _ _ _ _ (T301.setTop (mkF m 220 #[lI p0, lI p1, lI p2, lI jb, lI jm, lI jc, lI jf, lU, lU, lR w_P, lR ob_168, lU] [(.int jf), (.int jc), (.ref b301), (.ref b301)]))
        have c306 := (q167_1.ext E301)
        obtain ⟨_, _, ⟨T305, L305, k305, n305⟩, -, X305, ⟨Lc305, hQ305, l305, y305, z305⟩, st305⟩ := Jvm.LawKit.callS X301 hx (y := (⟨"com/example/tidewall/tidewall/ledger/AccountClassByIdPinLaw", "propLong", "(CZ)[C"⟩ : MethodName)) hown (mvT hZ (ow hw 129 rfl)) (mvT hZ (ow hw 130 rfl)) (mvT hZ (ow hw 3 rfl)) (mvT hZ (ow hw 131 rfl)) (by decide) (backOf (W := 2) (rm_mpl l Z a0 hw [] jc jf h301 n0 O301 hjc) hZ (ow hw 131 rfl) (ow hw 3 rfl) (by decide) (by decide)) (g := (mkF m 220 #[lI p0, lI p1, lI p2, lI jb, lI jm, lI jc, lI jf, lU, lU, lR w_P, lR ob_168, lU] [(.int jf), (.int jc), (.ref b301), (.ref b301)])) rfl (by rw [hml]; rfl) (argsL := [(.int jc), (.int jf)]) (rest := [(.ref b301), (.ref b301)]) (lenOf own_pd23 rfl) rfl (by show 2 * 0 + _ ≤ _; exact Nat.le_of_eq rfl) (hb hby at_220) (fun _ _ => ⟨rfl, e301, (by decide : 2 + 1 ≤ _), (by decide : 15 + 12 ≤ _)⟩)
        dsimp only [Pt.U, Pt.locs, Pt.cells, Pt.slots] at X305 l305 y305 z305 st305 hQ305
        subst y305 z305
        refine Go.st st305 ?_
        obtain ⟨ob_307, kb_308, xs_309, rfl, N305q, K305q, q305_0, q305_1, q305_2, q305_3, q305_4, q305_5⟩ := hQ305
        have N305 : Fr n0 L305 := by rw [l305]; exact Fr.app N167 N305q
        have SN305_0 : Safe Z consts_1 s.vm h301 ob_307 := Safe.new q305_0
        have O305 := O301.keep K305q all0
        have K305 : Keep h0 T305.heap [] := K301.trans K305q all0
        have sf310 := Safe.keep K305q sf0 CR301.1 sf302
        have sf311 := Safe.keep K305q sf0 CR301.1 SF_b301
        have sf312 := Safe.keep K305q sf0 CR301.1 SN305_0
        have CR305 := CR301.trans (CHr.keep K305q sf0 CR301.1)
        have sz_ob_307 : h0.size ≤ ob_307 := Nat.le_trans K301.1 q305_0
        have g_ob_307 : n0 ≤ ob_307 := Nat.le_trans (own_oldsz X00) sz_ob_307
        show Go _ _ _ _ (T305.setTop (mkF m 223 #[lI p0, lI p1, lI p2, lI jb, lI jm, lI jc, lI jf, lU, lU, lR w_P, lR ob_168, lU] [(.ref ob_307), (.ref b301), (.ref b301)]))
        have c314 := (A301.keep K305q)
        have c315 := (F304.keep K305q nin0)
        have c316 := (F303.keep K305q nin0)
        have hp313 : ∀ c ∈ xs_309, ¬ c < 0 ∧ ¬ (255 : Int32) < c := by
         exact q305_3 hcw
        have c317 := (c306.keep K305q nin0)
        obtain ⟨_, _, ⟨T313, L313, k313, n313⟩, -, X313, ⟨Lc313, hQ313, l313, y313, z313⟩, st313⟩ := X305.specialBack hx (y := (⟨"java/lang/String", "<init>", "([C)V"⟩ : MethodName)) rfl hown (mvT hZ (ow hw 12 rfl)) (mvT hZ (ow hw 13 rfl)) (mvT hZ (ow hw 14 rfl)) (by decide) (StrChars.Road.backV (W := 1) hZ (fun d hd => hw d (own_wNew d hd)) (kI := 4) (ow hw 10 rfl) (cs := xs_309) (bs := (xs_309).map (fun c => c.toInt8.toInt32)) (n := 12) g_b301 (own_oldsz O305) c314 c315 c316 q305_1 (S_CS.ext O305.2) nz_CS q305_2 rfl (by decide) (by decide) hp313 rfl (by decide) (by decide)) (g := (mkF m 223 #[lI p0, lI p1, lI p2, lI jb, lI jm, lI jc, lI jf, lU, lU, lR w_P, lR ob_168, lU] [(.ref ob_307), (.ref b301), (.ref b301)])) rfl (by rw [hml]; rfl) (Steps.refl _) (a := b301) (argsL := [(.ref ob_307)]) (rest := [(.ref b301)]) (lenOf own_pd18 rfl) rfl (by show 2 * 0 + _ ≤ _; exact Nat.le_of_eq rfl) (hb hby at_223) (fun _ _ => ⟨rfl, rfl, (by decide : 3 + 1 ≤ _), (by decide : 27 + 12 ≤ _)⟩)
        dsimp only [Pt.U, Pt.locs, Pt.cells, Pt.slots] at X313 l313 y313 z313 st313 hQ313
        subst y313 z313
        refine Go.tr st313 ?_
        obtain ⟨rfl, N313q, K313q, E313x, C313x, t313, kb313, gt313, szt313, net313, V313x, A313x⟩ := hQ313
        have N313 : Fr n0 L313 := by rw [l313]; exact Fr.app N305 N313q
        have O313 := O305.keep K313q (allS g_b301 all0)
        have K313 : Keep h0 T313.heap [] := K305.trans K313q (allS (Or.inr sz_b301) all0)
        have sf318 := Safe.keep K313q (sfS sf311 sf0) CR305.1 sf310
        have sf319 := Safe.keep K313q (sfS sf311 sf0) CR305.1 sf311
        have sf320 := Safe.keep K313q (sfS sf311 sf0) CR305.1 sf312
        have CR313 := CR305.trans (CHr.keep K313q (sfS sf311 sf0) CR305.1)
        have sz_t313 : h0.size ≤ t313 := Nat.le_trans K305.1 szt313
        show Go _ _ _ _ (T313.setTop (mkF m 226 #[lI p0, lI p1, lI p2, lI jb, lI jm, lI jc, lI jf, lU, lU, lR w_P, lR ob_168, lU] [(.ref b301)]))
        refine Go.st (fun _ => XS.astore X313.here hx rfl (hb hby at_226) rfl rfl (l' := #[lI p0, lI p1, lI p2, lI jb, lI jm, lI jc, lI jf, lR b301, lU, lR w_P, lR ob_168, lU]) rfl) ?_
        show Go _ _ _ _ (T313.setTop (mkF m 228 #[lI p0, lI p1, lI p2, lI jb, lI jm, lI jc, lI jf, lR b301, lU, lR w_P, lR ob_168, lU] []))
        refine Go.st (fun _ => XS.iconst X313.here hx rfl (hb hby at_228)) ?_
        show Go _ _ _ _ (T313.setTop (mkF m 229 #[lI p0, lI p1, lI p2, lI jb, lI jm, lI jc, lI jf, lR b301, lU, lR w_P, lR ob_168, lU] [(.int 0)]))
        refine Go.st (fun _ => XS.istore X313.here hx rfl (hb hby at_229) rfl (l' := #[lI p0, lI p1, lI p2, lI jb, lI jm, lI jc, lI jf, lR b301, lI (0 : Int32), lR w_P, lR ob_168, lU]) rfl) ?_
        show Go _ _ _ _ (T313.setTop (mkF m 231 #[lI p0, lI p1, lI p2, lI jb, lI jm, lI jc, lI jf, lR b301, lI (0 : Int32), lR w_P, lR ob_168, lU] []))
        refine Go.st (fun _ => XS.goto X313.here hx rfl (pc0 := 231) (pc' := 282) rfl (hb hby at_231) (by decide) (by decide)) ?_
        show Go _ _ _ _ (T313.setTop (mkF m 282 #[lI p0, lI p1, lI p2, lI jb, lI jm, lI jc, lI jf, lR b301, lI (0 : Int32), lR w_P, lR ob_168, lU] []))
        refine Go.st (fun _ => XS.aload X313.here hx rfl (hb hby at_282) rfl rfl) ?_
        show Go _ _ _ _ (T313.setTop (mkF m 284 #[lI p0, lI p1, lI p2, lI jb, lI jm, lI jc, lI jf, lR b301, lI (0 : Int32), lR w_P, lR ob_168, lU] [(.ref b301)]))
        have c322 := (c317.keep K313q (ninS (Nat.ne_of_lt (Nat.lt_of_lt_of_le q167_1.lt (Nat.le_of_eq g301.symm))) nin0))
        have c323 := (q305_1.keep K313q (ninS (Ne.symm (Nat.ne_of_lt (Nat.lt_of_lt_of_le A301.lt q305_0))) nin0))
        obtain ⟨_, _, ⟨T321, L321, k321, n321⟩, -, X321, ⟨Lc321, hQ321, l321, y321, z321⟩, st321⟩ := Jvm.LawKit.callS X313 hx (y := (⟨"com/example/tidewall/tidewall/ledger/AccountClass", "byId", "(Ljava/lang/String;)Ljava/util/Optional;"⟩ : MethodName)) hown (mvT hZ (ow hw 38 rfl)) (mvT hZ (ow hw 39 rfl)) (mvT hZ (ow hw 7 rfl)) (mvT hZ (ow hw 40 rfl)) (by decide) (backOf (W := 0) (rm_byo l Z a0 hw [] w_C S_C X_C w_P S_P X_P w_V k_V S_V X_V V_V w_CS F_CS X_CS I_CS_coder w_CB k_CB F_CB V_CB w_PS F_PS X_PS I_PS_coder w_PB k_PB F_PB V_PB S_AD S_HI S_LO w_OE S_OE X_OE I_OE_value g_CS S_CS nz_CS g_SF S_SF r_SF b301 xs_309 t313 kb313 T313.heap n0 O313 E313x C313x V313x (own_arvN q305_2 A313x) hp313 (by rw [show xs_309.length = 12 from q305_2]; decide) (own_lenne (by rw [q305_2]; decide)) (own_lenne (by rw [q305_2]; decide))) hZ (ow hw 40 rfl) (ow hw 7 rfl) (by decide) (by decide)) (g := (mkF m 284 #[lI p0, lI p1, lI p2, lI jb, lI jm, lI jc, lI jf, lR b301, lI (0 : Int32), lR w_P, lR ob_168, lU] [(.ref b301)])) rfl (by rw [hml]; rfl) (argsL := [(.ref b301)]) (rest := []) (lenOf own_pd19 rfl) rfl (by show 2 * 0 + _ ≤ _; exact Nat.le_of_eq rfl) (hb hby at_284) (fun _ _ => ⟨rfl, rfl, (by decide : 4 + 1 ≤ _), (by decide : 39 + 2 ≤ _)⟩)
        dsimp only [Pt.U, Pt.locs, Pt.cells, Pt.slots] at X321 l321 y321 z321 st321 hQ321
        subst y321 z321
        refine Go.st st321 ?_
        obtain ⟨rfl, N321q, K321q⟩ := hQ321
        have N321 : Fr n0 L321 := by rw [l321]; exact Fr.app N313 N321q
        have O321 := O313.keep K321q all0
        have K321 : Keep h0 T321.heap [] := K313.trans K321q all0
        have sf324 := Safe.keep K321q sf0 CR313.1 sf318
        have sf325 := Safe.keep K321q sf0 CR313.1 sf319
        have sf326 := Safe.keep K321q sf0 CR313.1 sf320
        have CR321 := CR313.trans (CHr.keep K321q sf0 CR313.1)
        show Go _ _ _ _ (T321.setTop (mkF m 287 #[lI p0, lI p1, lI p2, lI jb, lI jm, lI jc, lI jf, lR b301, lI (0 : Int32), lR w_P, lR ob_168, lU] [(.ref w_OE)]))
        refine Go.st (fun _ => XS.astore X321.here hx rfl (hb hby at_287) rfl rfl (l' := #[lI p0, lI p1, lI p2, lI jb, lI jm, lI jc, lI jf, lR b301, lI (0 : Int32), lR w_P, lR w_OE, lU]) rfl) ?_
        show Go _ _ _ _ (T321.setTop (mkF m 289 #[lI p0, lI p1, lI p2, lI jb, lI jm, lI jc, lI jf, lR b301, lI (0 : Int32), lR w_P, lR w_OE, lU] []))
        refine Go.st (fun _ => XS.iload X321.here hx rfl (hb hby at_289) rfl) ?_
        show Go _ _ _ _ (T321.setTop (mkF m 291 #[lI p0, lI p1, lI p2, lI jb, lI jm, lI jc, lI jf, lR b301, lI (0 : Int32), lR w_P, lR w_OE, lU] [(.int 0)]))
        refine Go.st (fun _ => XS.ifYes X321.here hx rfl (pc0 := 291) (pc' := 318) rfl (hb hby at_291) rfl ((if0 _ _).trans (teq (by decide)).1) (by decide) (by decide)) ?_
        show Go _ _ _ _ (T321.setTop (mkF m 318 #[lI p0, lI p1, lI p2, lI jb, lI jm, lI jc, lI jf, lR b301, lI (0 : Int32), lR w_P, lR w_OE, lU] []))
        refine Go.st (fun _ => XS.aload X321.here hx rfl (hb hby at_318) rfl rfl) ?_
        show Go _ _ _ _ (T321.setTop (mkF m 320 #[lI p0, lI p1, lI p2, lI jb, lI jm, lI jc, lI jf, lR b301, lI (0 : Int32), lR w_P, lR w_OE, lU] [(.ref w_OE)]))
        obtain ⟨cq327, kq327, q327a, q327b, q327c⟩ := isOf hZ rfl (X_OE.ext O321.2)
        obtain ⟨_, _, ⟨T327, L327, k327, n327⟩, -, X327, ⟨Lc327, hQ327, l327, y327, z327⟩, st327⟩ := X321.virtualBack hx (y := (⟨"java/util/Optional", "isPresent", "()Z"⟩ : MethodName)) (z := (⟨"java/util/Optional", "isPresent", "()Z"⟩ : MethodName)) hown (mvT hZ (ow hw 86 rfl)) (mvT hZ (ow hw 87 rfl)) (notFace_of_selects (args := #[]) (mvT hZ (ow hw 89 rfl))) (mvT hZ (ow hw 89 rfl)) (mvT hZ (ow hw 88 rfl)) (by decide) (backOf (W := 0) (rm_ip0 l Z a0 hw [] w_OE T321.heap n0 O321 (I_OE_value.ext O321.2)) hZ (ow hw 90 rfl) (ow hw 71 rfl) (by decide) (by decide)) q327a q327c (g := (mkF m 320 #[lI p0, lI p1, lI p2, lI jb, lI jm, lI jc, lI jf, lR b301, lI (0 : Int32), lR w_P, lR w_OE, lU] [(.ref w_OE)])) rfl (by rw [hml]; rfl) (Steps.refl _) (argsL := []) (rest := []) (lenOf own_pd20 rfl) rfl (by show 2 * 0 + _ ≤ _; exact Nat.le_of_eq rfl) (hb hby at_320) (fun _ _ => ⟨rfl, rfl, (by decide : 5 + 0 ≤ _), (by decide : 41 + 0 ≤ _)⟩)
        dsimp only [Pt.U, Pt.locs, Pt.cells, Pt.slots] at X327 l327 y327 z327 st327 hQ327
        subst y327 z327
        refine Go.tr st327 ?_
        obtain ⟨rfl, N327q, e327⟩ := hQ327
        have N327 : Fr n0 L327 := by rw [l327]; exact Fr.app N321 N327q
        show Go _ _ _ _ (T327.setTop (mkF m 323 #[lI p0, lI p1, lI p2, lI jb, lI jm, lI jc, lI jf, lR b301, lI (0 : Int32), lR w_P, lR w_OE, lU] [(.int 0)]))
        refine Go.st (fun _ => XS.ifNo X327.here hx rfl (hb hby at_323) rfl ((if0 _ _).trans (teq (by decide)).2)) ?_
        show Go _ _ _ _ (T327.setTop (mkF m 326 #[lI p0, lI p1, lI p2, lI jb, lI jm, lI jc, lI jf, lR b301, lI (0 : Int32), lR w_P, lR w_OE, lU] []))
        refine Go.st (fun _ => XS.iconst X327.here hx rfl (hb hby at_326)) ?_
        show Go _ _ _ _ (T327.setTop (mkF m 327 #[lI p0, lI p1, lI p2, lI jb, lI jm, lI jc, lI jf, lR b301, lI (0 : Int32), lR w_P, lR w_OE, lU] [(.int 1)]))
        refine Go.st (fun _ => XS.goto X327.here hx rfl (pc0 := 327) (pc' := 331) rfl (hb hby at_327) (by decide) (by decide)) ?_
        show Go _ _ _ _ (T327.setTop (mkF m 331 #[lI p0, lI p1, lI p2, lI jb, lI jm, lI jc, lI jf, lR b301, lI (0 : Int32), lR w_P, lR w_OE, lU] [(.int 1)]))
        obtain ⟨fs, hr, hrun, hended, -, hW, hpair, hsame⟩ := X327.leaveW hS0 (by rw [e327]; exact (Nat.le_trans (Nat.le_trans (Nat.le_trans (Nat.le_trans (Nat.le_trans hk0 K167q.1) E301.1) K305q.1) K313q.1) K321q.1)) (v := some (.int 1)) (fun h => by rw [Bd.returns] at h; cases h)
        have hCRe := CR321.trans (CHv.at X327 hZ hEL CR321.1)
        refine ⟨_, ?_, hPend _ _ hrun hended ⟨_, _, rfl, ?_, ?_, ⟨_, rfl⟩, hW, hpair, hsame.mono (by decide) (by decide)⟩⟩
        ·exact retN X327 hx (t := .boolean) Bd.returns (by simp) (hb hby at_331) hr
        ·show Q_rm_law Z _ _ _ _ _ _ _ _ _ _ _ _ _ _ _ _ h0 n0 _ T327.heap _
         rw [e327]
         exact ⟨rfl, N327, K321⟩
        ·show CHr Z consts_1 s.vm s.heap T327.vm T327.heap
         rw [hh, e327]
         exact hCRe
   ·skip
    refine Go.st (fun _ => XS.icmpYes X0.here hx rfl (pc0 := 37) (pc' := 234) rfl (hb hby at_37) rfl (feq hc165).2 (by decide) (by decide)) ?_
    show Go _ _ _ _ (s₁.setTop (mkF m 234 #[lI p0, lI p1, lI p2, lI jb, lI jm, lI jc, lI jf, lU, lU, lU, lU, lU] []))
    refine Go.st (fun _ => XS.iloadN X0.here hx rfl (hb hby at_234) rfl) ?_
    refine Go.st (fun _ => XS.iconst X0.here hx rfl (hb hby at_235)) ?_
    show Go _ _ _ _ (s₁.setTop (mkF m 236 #[lI p0, lI p1, lI p2, lI jb, lI jm, lI jc, lI jf, lU, lU, lU, lU, lU] [(.int 2), (.int jb)]))
    by_cases hc328 : jb = (2 : Int32)
    ·skip
     refine Go.st (fun _ => XS.icmpNo X0.here hx rfl (hb hby at_236) rfl (teq hc328).2) ?_
     show Go _ _ _ _ (s₁.setTop (mkF m 239 #[lI p0, lI p1, lI p2, lI jb, lI jm, lI jc, lI jf, lU, lU, lU, lU, lU] []))
     refine Go.st (fun _ => XS.aconstNull X0.here hx rfl (hb hby at_239)) ?_
     show Go _ _ _ _ (s₁.setTop (mkF m 240 #[lI p0, lI p1, lI p2, lI jb, lI jm, lI jc, lI jf, lU, lU, lU, lU, lU] [.null]))
     refine Go.st (fun _ => XS.astore X0.here hx rfl (hb hby at_240) rfl rfl (l' := #[lI p0, lI p1, lI p2, lI jb, lI jm, lI jc, lI jf, lN, lU, lU, lU, lU]) rfl) ?_
     show Go _ _ _ _ (s₁.setTop (mkF m 242 #[lI p0, lI p1, lI p2, lI jb, lI jm, lI jc, lI jf, lN, lU, lU, lU, lU] []))
     refine Go.st (fun _ => XS.iconst X0.here hx rfl (hb hby at_242)) ?_
     show Go _ _ _ _ (s₁.setTop (mkF m 243 #[lI p0, lI p1, lI p2, lI jb, lI jm, lI jc, lI jf, lN, lU, lU, lU, lU] [(.int 0)]))
     refine Go.st (fun _ => XS.istore X0.here hx rfl (hb hby at_243) rfl (l' := #[lI p0, lI p1, lI p2, lI jb, lI jm, lI jc, lI jf, lN, lI (0 : Int32), lU, lU, lU]) rfl) ?_
     show Go _ _ _ _ (s₁.setTop (mkF m 245 #[lI p0, lI p1, lI p2, lI jb, lI jm, lI jc, lI jf, lN, lI (0 : Int32), lU, lU, lU] []))
     refine Go.st (fun _ => XS.aconstNull X0.here hx rfl (hb hby at_245)) ?_
     show Go _ _ _ _ (s₁.setTop (mkF m 246 #[lI p0, lI p1, lI p2, lI jb, lI jm, lI jc, lI jf, lN, lI (0 : Int32), lU, lU, lU] [.null]))
     refine Go.st (fun _ => XS.astore X0.here hx rfl (hb hby at_246) rfl rfl (l' := #[lI p0, lI p1, lI p2, lI jb, lI jm, lI jc, lI jf, lN, lI (0 : Int32), lN, lU, lU]) rfl) ?_
     show Go _ _ _ _ (s₁.setTop (mkF m 248 #[lI p0, lI p1, lI p2, lI jb, lI jm, lI jc, lI jf, lN, lI (0 : Int32), lN, lU, lU] []))
     refine Go.st (fun _ => XS.goto X0.here hx rfl (pc0 := 248) (pc' := 282) rfl (hb hby at_248) (by decide) (by decide)) ?_
     show Go _ _ _ _ (s₁.setTop (mkF m 282 #[lI p0, lI p1, lI p2, lI jb, lI jm, lI jc, lI jf, lN, lI (0 : Int32), lN, lU, lU] []))
     refine Go.st (fun _ => XS.aload X0.here hx rfl (hb hby at_282) rfl rfl) ?_
     show Go _ _ _ _ (s₁.setTop (mkF m 284 #[lI p0, lI p1, lI p2, lI jb, lI jm, lI jc, lI jf, lN, lI (0 : Int32), lN, lU, lU] [.null]))
     obtain ⟨_, _, ⟨T329, L329, k329, n329⟩, -, X329, ⟨Lc329, hQ329, l329, y329, z329⟩, st329⟩ := Jvm.LawKit.callS X0 hx (y := (⟨"com/example/tidewall/tidewall/ledger/AccountClass", "byId", "(Ljava/lang/String;)Ljava/util/Optional;"⟩ : MethodName)) hown (mvT hZ (ow hw 38 rfl)) (mvT hZ (ow hw 39 rfl)) (mvT hZ (ow hw 7 rfl)) (mvT hZ (ow hw 40 rfl)) (by decide) (backOf (W := 0) (rm_byN l Z a0 hw [] w_C S_C X_C w_P S_P X_P w_V k_V S_V X_V V_V w_CS F_CS X_CS I_CS_coder w_CB k_CB F_CB V_CB w_PS F_PS X_PS I_PS_coder w_PB k_PB F_PB V_PB S_AD S_HI S_LO w_OE S_OE X_OE I_OE_value g_CS S_CS nz_CS g_SF S_SF r_SF h0 n0 X00 ) hZ (ow hw 40 rfl) (ow hw 7 rfl) (by decide) (by decide)) (g := (mkF m 284 #[lI p0, lI p1, lI p2, lI jb, lI jm, lI jc, lI jf, lN, lI (0 : Int32), lN, lU, lU] [.null])) rfl (by rw [hml]; rfl) (argsL := [.null]) (rest := []) (lenOf own_pd19 rfl) rfl (by show 2 * 0 + _ ≤ _; exact Nat.le_of_eq rfl) (hb hby at_284) (fun _ _ => ⟨rfl, e0, (by decide : 0 + 1 ≤ _), (by decide : 0 + 2 ≤ _)⟩)
     dsimp only [Pt.U, Pt.locs, Pt.cells, Pt.slots] at X329 l329 y329 z329 st329 hQ329
     subst y329 z329
     refine Go.st st329 ?_
     obtain ⟨rfl, N329q, K329q⟩ := hQ329
     have N329 : Fr n0 L329 := by rw [l329]; exact Fr.app N0 N329q
     have O329 := X00.keep K329q all0
     have K329 : Keep h0 T329.heap [] := (Keep.refl h0 []).trans K329q all0
     have CR329 := CR0.trans (CHr.keep K329q sf0 CR0.1)
     show Go _ _ _ _ (T329.setTop (mkF m 287 #[lI p0, lI p1, lI p2, lI jb, lI jm, lI jc, lI jf, lN, lI (0 : Int32), lN, lU, lU] [(.ref w_OE)]))
     refine Go.st (fun _ => XS.astore X329.here hx rfl (hb hby at_287) rfl rfl (l' := #[lI p0, lI p1, lI p2, lI jb, lI jm, lI jc, lI jf, lN, lI (0 : Int32), lN, lR w_OE, lU]) rfl) ?_
     show Go _ _ _ _ (T329.setTop (mkF m 289 #[lI p0, lI p1, lI p2, lI jb, lI jm, lI jc, lI jf, lN, lI (0 : Int32), lN, lR w_OE, lU] []))
     refine Go.st (fun _ => XS.iload X329.here hx rfl (hb hby at_289) rfl) ?_
     show Go _ _ _ _ (T329.setTop (mkF m 291 #[lI p0, lI p1, lI p2, lI jb, lI jm, lI jc, lI jf, lN, lI (0 : Int32), lN, lR w_OE, lU] [(.int 0)]))
     refine Go.st (fun _ => XS.ifYes X329.here hx rfl (pc0 := 291) (pc' := 318) rfl (hb hby at_291) rfl ((if0 _ _).trans (teq (by decide)).1) (by decide) (by decide)) ?_
     show Go _ _ _ _ (T329.setTop (mkF m 318 #[lI p0, lI p1, lI p2, lI jb, lI jm, lI jc, lI jf, lN, lI (0 : Int32), lN, lR w_OE, lU] []))
     refine Go.st (fun _ => XS.aload X329.here hx rfl (hb hby at_318) rfl rfl) ?_
     show Go _ _ _ _ (T329.setTop (mkF m 320 #[lI p0, lI p1, lI p2, lI jb, lI jm, lI jc, lI jf, lN, lI (0 : Int32), lN, lR w_OE, lU] [(.ref w_OE)]))
     obtain ⟨cq330, kq330, q330a, q330b, q330c⟩ := isOf hZ rfl (X_OE.ext O329.2)
     obtain ⟨_, _, ⟨T330, L330, k330, n330⟩, -, X330, ⟨Lc330, hQ330, l330, y330, z330⟩, st330⟩ := X329.virtualBack hx (y := (⟨"java/util/Optional", "isPresent", "()Z"⟩ : MethodName)) (z := (⟨"java/util/Optional", "isPresent", "()Z"⟩ : MethodName)) hown (mvT hZ (ow hw 86 rfl)) (mvT hZ (ow hw 87 rfl)) (notFace_of_selects (args := #[]) (mvT hZ (ow hw 89 rfl))) (mvT hZ (ow hw 89 rfl)) (mvT hZ (ow hw 88 rfl)) (by decide) (backOf (W := 0) (rm_ip0 l Z a0 hw [] w_OE T329.heap n0 O329 (I_OE_value.ext O329.2)) hZ (ow hw 90 rfl) (ow hw 71 rfl) (by decide) (by decide)) q330a q330c (g := (mkF m 320 #[lI p0, lI p1, lI p2, lI jb, lI jm, lI jc, lI jf, lN, lI (0 : Int32), lN, lR w_OE, lU] [(.ref w_OE)])) rfl (by rw [hml]; rfl) (Steps.refl _) (argsL := []) (rest := []) (lenOf own_pd20 rfl) rfl (by show 2 * 0 + _ ≤ _; exact Nat.le_of_eq rfl) (hb hby at_320) (fun _ _ => ⟨rfl, rfl, (by decide : 1 + 0 ≤ _), (by decide : 2 + 0 ≤ _)⟩)
     dsimp only [Pt.U, Pt.locs, Pt.cells, Pt.slots] at X330 l330 y330 z330 st330 hQ330
     subst y330 z330
     refine Go.tr st330 ?_
     obtain ⟨rfl, N330q, e330⟩ := hQ330
     have N330 : Fr n0 L330 := by rw [l330]; exact Fr.app N329 N330q
     show Go _ _ _ _ (T330.setTop (mkF m 323 #[lI p0, lI p1, lI p2, lI jb, lI jm, lI jc, lI jf, lN, lI (0 : Int32), lN, lR w_OE, lU] [(.int 0)]))
     refine Go.st (fun _ => XS.ifNo X330.here hx rfl (hb hby at_323) rfl ((if0 _ _).trans (teq (by decide)).2)) ?_
     show Go _ _ _ _ (T330.setTop (mkF m 326 #[lI p0, lI p1, lI p2, lI jb, lI jm, lI jc, lI jf, lN, lI (0 : Int32), lN, lR w_OE, lU] []))
     refine Go.st (fun _ => XS.iconst X330.here hx rfl (hb hby at_326)) ?_
     show Go _ _ _ _ (T330.setTop (mkF m 327 #[lI p0, lI p1, lI p2, lI jb, lI jm, lI jc, lI jf, lN, lI (0 : Int32), lN, lR w_OE, lU] [(.int 1)]))
     refine Go.st (fun _ => XS.goto X330.here hx rfl (pc0 := 327) (pc' := 331) rfl (hb hby at_327) (by decide) (by decide)) ?_
     show Go _ _ _ _ (T330.setTop (mkF m 331 #[lI p0, lI p1, lI p2, lI jb, lI jm, lI jc, lI jf, lN, lI (0 : Int32), lN, lR w_OE, lU] [(.int 1)]))
     obtain ⟨fs, hr, hrun, hended, -, hW, hpair, hsame⟩ := X330.leaveW hS0 (by rw [e330]; exact (Nat.le_trans hk0 K329q.1)) (v := some (.int 1)) (fun h => by rw [Bd.returns] at h; cases h)
     have hCRe := CR329.trans (CHv.at X330 hZ hEL CR329.1)
     refine ⟨_, ?_, hPend _ _ hrun hended ⟨_, _, rfl, ?_, ?_, ⟨_, rfl⟩, hW, hpair, hsame.mono (by decide) (by decide)⟩⟩
     ·exact retN X330 hx (t := .boolean) Bd.returns (by simp) (hb hby at_331) hr
     ·show Q_rm_law Z _ _ _ _ _ _ _ _ _ _ _ _ _ _ _ _ h0 n0 _ T330.heap _
      rw [e330]
      exact ⟨rfl, N330, K329⟩
     ·show CHr Z consts_1 s.vm s.heap T330.vm T330.heap
      rw [hh, e330]
      exact hCRe
    ·skip
     refine Go.st (fun _ => XS.icmpYes X0.here hx rfl (pc0 := 236) (pc' := 251) rfl (hb hby at_236) rfl (feq hc328).2 (by decide) (by decide)) ?_
     show Go _ _ _ _ (s₁.setTop (mkF m 251 #[lI p0, lI p1, lI p2, lI jb, lI jm, lI jc, lI jf, lU, lU, lU, lU, lU] []))
     refine Go.st (fun _ => XS.iload X0.here hx rfl (hb hby at_251) rfl) ?_
     show Go _ _ _ _ (s₁.setTop (mkF m 253 #[lI p0, lI p1, lI p2, lI jb, lI jm, lI jc, lI jf, lU, lU, lU, lU, lU] [(.int jm)]))
     by_cases hc331 : jm = (0 : Int32)
     ·skip
      refine Go.st (fun _ => XS.ifNo X0.here hx rfl (hb hby at_253) rfl ((if0 _ _).trans (teq hc331).2)) ?_
      show Go _ _ _ _ (s₁.setTop (mkF m 256 #[lI p0, lI p1, lI p2, lI jb, lI jm, lI jc, lI jf, lU, lU, lU, lU, lU] []))
      obtain ⟨T332, h332, X332, e332, E332, A332, D332, -, st332⟩ := newO X0 hx hZ hown (ow hw 9 rfl) (ow hw 10 rfl) (ow hw 11 rfl) e0 (g := (mkF m 256 #[lI p0, lI p1, lI p2, lI jb, lI jm, lI jc, lI jf, lU, lU, lU, lU, lU] [])) rfl (hb hby at_256) (by decide) (by decide)
      obtain ⟨b332, g332⟩ : ∃ z, z = h0.size := ⟨_, rfl⟩
      rw [← g332] at A332 D332 st332
      refine Go.st st332 ?_
      have g_b332 : n0 ≤ b332 := Nat.le_trans (own_oldsz X00) (Nat.le_of_eq g332.symm)
      have sz_b332 : h0.size ≤ b332 := Nat.le_trans (Keep.refl h0 []).1 (Nat.le_of_eq g332.symm)
      have K332 : Keep h0 h332 [] := (Keep.refl h0 []).ext E332
      have O332 := X00.ext E332
      have SF_b332 : Safe Z consts_1 s.vm h332 b332 := Safe.ext E332 CR0.1 (Safe.new (Nat.le_of_eq g332.symm))
      have CR332 := CR0.trans (CHr.ext E332 CR0.1)
      have F333 : Fld Z h332 b332 "java/lang/String" "coder" "B" (.int 0) := D332 (Or.inr (ow hw 35 rfl)) (ty := .byte) (by decide)
      have F334 : Fld Z h332 b332 "java/lang/String" "value" "[B" .null := D332 (Or.inr (ow hw 37 rfl)) (ty := (.array .byte)) (by decide)
      show Go _ _ _ _ (T332.setTop (mkF m 259 #[lI p0, lI p1, lI p2, lI jb, lI jm, lI jc, lI jf, lU, lU, lU, lU, lU] [(.ref b332)]))
      refine Go.st (fun _ => XS.dup X332.here hx rfl (hb hby at_259) rfl rfl) ?_
      refine Go.st (fun _ => XS.iconst X332.here hx rfl (hb hby at_260)) ?_
      show Go _ _ _ _ (T332.setTop (mkF m 261 #[lI p0, lI p1, lI p2, lI jb, lI jm, lI jc, lI jf, lU, lU, lU, lU, lU] [(.int 0), (.ref b332), (.ref b332)]))
      obtain ⟨T335, h335, k335, X335, e335, E335, A335, st335⟩ := newP X332 hx hZ (ow hw 5 rfl) e332 (g := (mkF m 261 #[lI p0, lI p1, lI p2, lI jb, lI jm, lI jc, lI jf, lU, lU, lU, lU, lU] [(.int 0), (.ref b332), (.ref b332)])) rfl (hb hby at_261) rfl (by decide) (cap := 0) (by decide) (by decide) (by decide) (by decide)
      obtain ⟨b335, g335⟩ : ∃ z, z = h332.size := ⟨_, rfl⟩
      rw [← g335] at A335 st335
      refine Go.st st335 ?_
      have g_b335 : n0 ≤ b335 := Nat.le_trans (own_oldsz O332) (Nat.le_of_eq g335.symm)
      have sz_b335 : h0.size ≤ b335 := Nat.le_trans K332.1 (Nat.le_of_eq g335.symm)
      have K335 : Keep h0 h335 [] := K332.ext E335
      have O335 := O332.ext E335
      have sf336 := Safe.ext E335 CR332.1 SF_b332
      have SF_b335 : Safe Z consts_1 s.vm h335 b335 := Safe.ext E335 CR332.1 (Safe.new (Nat.le_of_eq g335.symm))
      have CR335 := CR332.trans (CHr.ext E335 CR332.1)
      have V335 : Arv Z h335 b335 k335 .char (0 : Int32) [] (.int 0) := (Arv.new A335 (by decide)).pad (pad_rep [] (.int 0) 0)
      show Go _ _ _ _ (T335.setTop (mkF m 263 #[lI p0, lI p1, lI p2, lI jb, lI jm, lI jc, lI jf, lU, lU, lU, lU, lU] [(.ref b335), (.ref b332), (.ref b332)]))
      have c338 := (A332.ext E335)
      have c339 := (F334.ext E335)
      have c340 := (F333.ext E335)
      obtain ⟨_, _, ⟨T337, L337, k337, n337⟩, -, X337, hS337, hg337, ⟨Lc337, hQ337, l337, y337, z337, hCR337⟩, st337⟩ := X335.specialBackS hx (y := (⟨"java/lang/String", "<init>", "([C)V"⟩ : MethodName)) rfl hown (mvT hZ (ow hw 12 rfl)) (mvT hZ (ow hw 13 rfl)) (mvT hZ (ow hw 14 rfl)) (by decide) (backOfSH (W := 1) (rm_emp1 l Z a0 hw [] g_CS S_CS nz_CS b332 b335 k335 h335 n0 O335 c338 c339 c340 g_b332 V335) hZ (ow hw 14 rfl) (ow hw 11 rfl) (by decide) (by decide) hEL CR335.1) (g := (mkF m 263 #[lI p0, lI p1, lI p2, lI jb, lI jm, lI jc, lI jf, lU, lU, lU, lU, lU] [(.ref b335), (.ref b332), (.ref b332)])) rfl (by rw [hml]; rfl) (Steps.refl _) (a := b332) (argsL := [(.ref b335)]) (rest := [(.ref b332)]) (lenOf own_pd18 rfl) rfl (by show 2 * 0 + _ ≤ _; exact Nat.le_of_eq rfl) (hb hby at_263) (fun _ _ => ⟨rfl, e335, (by decide : 2 + 4 ≤ _), (by decide : 4 + 8 ≤ _)⟩)
      dsimp only [Pt.U, Pt.locs, Pt.cells, Pt.slots] at X337 l337 y337 z337 st337 hQ337 hS337 hg337 hCR337
      subst y337 z337
      refine Go.tr st337 ?_
      obtain ⟨XX337, hSS337, hZ337, hown337⟩ := rebS hS0 (by rw [e335]; exact (Nat.le_trans (Nat.le_trans hk0 E332.1) E335.1)) X337 hS337 hg337 hZ hown
      obtain ⟨vb_341, kb_342, rfl, N337q, K337q, q337_0, q337_1, q337_2, q337_3⟩ := hQ337
      have N337 : Fr n0 L337 := by rw [l337]; exact Fr.app N0 N337q
      have sf343 := hCR337.safe c338.lt sf336
      have sf344 := hCR337.safe V335.lt SF_b335
      have CR337 := CR335.trans hCR337
      have O337 := O335.keep K337q (allS g_b332 all0)
      have K337 : Keep h0 T337.heap [] := K335.trans K337q (allS (Or.inr sz_b332) all0)
      show Go _ _ _ _ (T337.setTop (mkF m 266 #[lI p0, lI p1, lI p2, lI jb, lI jm, lI jc, lI jf, lU, lU, lU, lU, lU] [(.ref b332)]))
      refine Go.st (fun _ => XS.goto XX337.here hx rfl (pc0 := 266) (pc' := 274) rfl (hb hby at_266) (by decide) (by decide)) ?_
      show Go _ _ _ _ (T337.setTop (mkF m 274 #[lI p0, lI p1, lI p2, lI jb, lI jm, lI jc, lI jf, lU, lU, lU, lU, lU] [(.ref b332)]))
      refine Go.st (fun _ => XS.astore XX337.here hx rfl (hb hby at_274) rfl rfl (l' := #[lI p0, lI p1, lI p2, lI jb, lI jm, lI jc, lI jf, lR b332, lU, lU, lU, lU]) rfl) ?_
      show Go _ _ _ _ (T337.setTop (mkF m 276 #[lI p0, lI p1, lI p2, lI jb, lI jm, lI jc, lI jf, lR b332, lU, lU, lU, lU] []))
      refine Go.st (fun _ => XS.iconst XX337.here hx rfl (hb hby at_276)) ?_
      show Go _ _ _ _ (T337.setTop (mkF m 277 #[lI p0, lI p1, lI p2, lI jb, lI jm, lI jc, lI jf, lR b332, lU, lU, lU, lU] [(.int 0)]))
      refine Go.st (fun _ => XS.istore XX337.here hx rfl (hb hby at_277) rfl (l' := #[lI p0, lI p1, lI p2, lI jb, lI jm, lI jc, lI jf, lR b332, lI (0 : Int32), lU, lU, lU]) rfl) ?_
      show Go _ _ _ _ (T337.setTop (mkF m 279 #[lI p0, lI p1, lI p2, lI jb, lI jm, lI jc, lI jf, lR b332, lI (0 : Int32), lU, lU, lU] []))
      refine Go.st (fun _ => XS.aconstNull XX337.here hx rfl (hb hby at_279)) ?_
      show Go _ _ _ _ (T337.setTop (mkF m 280 #[lI p0, lI p1, lI p2, lI jb, lI jm, lI jc, lI jf, lR b332, lI (0 : Int32), lU, lU, lU] [.null]))
      refine Go.st (fun _ => XS.astore XX337.here hx rfl (hb hby at_280) rfl rfl (l' := #[lI p0, lI p1, lI p2, lI jb, lI jm, lI jc, lI jf, lR b332, lI (0 : Int32), lN, lU, lU]) rfl) ?_
      show Go _ _ _ _ (T337.setTop (mkF m 282 #[lI p0, lI p1, lI p2, lI jb, lI jm, lI jc, lI jf, lR b332, lI (0 : Int32), lN, lU, lU] []))
      refine Go.st (fun _ => XS.aload XX337.here hx rfl (hb hby at_282) rfl rfl) ?_
      show Go _ _ _ _ (T337.setTop (mkF m 284 #[lI p0, lI p1, lI p2, lI jb, lI jm, lI jc, lI jf, lR b332, lI (0 : Int32), lN, lU, lU] [(.ref b332)]))
      have c346 := (V335.keep K337q (ninS (Ne.symm (Nat.ne_of_lt (Nat.lt_of_lt_of_le A332.lt (Nat.le_of_eq g335.symm)))) nin0))
      obtain ⟨_, _, ⟨T345, L345, k345, n345⟩, -, X345, ⟨Lc345, hQ345, l345, y345, z345⟩, st345⟩ := Jvm.LawKit.callS XX337 hx (y := (⟨"com/example/tidewall/tidewall/ledger/AccountClass", "byId", "(Ljava/lang/String;)Ljava/util/Optional;"⟩ : MethodName)) hown337 (mvT hZ337 (ow hw 38 rfl)) (mvT hZ337 (ow hw 39 rfl)) (mvT hZ337 (ow hw 7 rfl)) (mvT hZ337 (ow hw 40 rfl)) (by decide) (backOf (W := 0) (rm_byo l Z a0 hw [] w_C S_C X_C w_P S_P X_P w_V k_V S_V X_V V_V w_CS F_CS X_CS I_CS_coder w_CB k_CB F_CB V_CB w_PS F_PS X_PS I_PS_coder w_PB k_PB F_PB V_PB S_AD S_HI S_LO w_OE S_OE X_OE I_OE_value g_CS S_CS nz_CS g_SF S_SF r_SF b332 ([] : List Int32) vb_341 kb_342 T337.heap n0 O337 q337_0 q337_1 q337_2 (own_arvN rfl q337_3) (fun c hc => absurd hc (List.not_mem_nil)) (Nat.le_of_ble_eq_true rfl) (own_lenne (by simp)) (own_lenne (by simp))) hZ337 (ow hw 40 rfl) (ow hw 7 rfl) (by decide) (by decide)) (g := (mkF m 284 #[lI p0, lI p1, lI p2, lI jb, lI jm, lI jc, lI jf, lR b332, lI (0 : Int32), lN, lU, lU] [(.ref b332)])) rfl (by rw [hml]; rfl) (argsL := [(.ref b332)]) (rest := []) (lenOf own_pd19 rfl) rfl (by show 2 * 0 + _ ≤ _; exact Nat.le_of_eq rfl) (hb hby at_284) (fun _ _ => ⟨rfl, rfl, (by decide : 6 + 1 ≤ _), (by decide : 12 + 2 ≤ _)⟩)
      dsimp only [Pt.U, Pt.locs, Pt.cells, Pt.slots] at X345 l345 y345 z345 st345 hQ345
      subst y345 z345
      refine Go.st st345 ?_
      obtain ⟨rfl, N345q, K345q⟩ := hQ345
      have N345 : Fr n0 L345 := by rw [l345]; exact Fr.app N337 N345q
      have O345 := O337.keep K345q all0
      have K345 : Keep h0 T345.heap [] := K337.trans K345q all0
      have sf347 := Safe.keep K345q sf0 CR337.1 sf343
      have sf348 := Safe.keep K345q sf0 CR337.1 sf344
      have CR345 := CR337.trans (CHr.keep K345q sf0 CR337.1)
      show Go _ _ _ _ (T345.setTop (mkF m 287 #[lI p0, lI p1, lI p2, lI jb, lI jm, lI jc, lI jf, lR b332, lI (0 : Int32), lN, lU, lU] [(.ref w_OE)]))
      refine Go.st (fun _ => XS.astore X345.here hx rfl (hb hby at_287) rfl rfl (l' := #[lI p0, lI p1, lI p2, lI jb, lI jm, lI jc, lI jf, lR b332, lI (0 : Int32), lN, lR w_OE, lU]) rfl) ?_
      show Go _ _ _ _ (T345.setTop (mkF m 289 #[lI p0, lI p1, lI p2, lI jb, lI jm, lI jc, lI jf, lR b332, lI (0 : Int32), lN, lR w_OE, lU] []))
      refine Go.st (fun _ => XS.iload X345.here hx rfl (hb hby at_289) rfl) ?_
      show Go _ _ _ _ (T345.setTop (mkF m 291 #[lI p0, lI p1, lI p2, lI jb, lI jm, lI jc, lI jf, lR b332, lI (0 : Int32), lN, lR w_OE, lU] [(.int 0)]))
      refine Go.st (fun _ => XS.ifYes X345.here hx rfl (pc0 := 291) (pc' := 318) rfl (hb hby at_291) rfl ((if0 _ _).trans (teq (by decide)).1) (by decide) (by decide)) ?_
      show Go _ _ _ _ (T345.setTop (mkF m 318 #[lI p0, lI p1, lI p2, lI jb, lI jm, lI jc, lI jf, lR b332, lI (0 : Int32), lN, lR w_OE, lU] []))
      refine Go.st (fun _ => XS.aload X345.here hx rfl (hb hby at_318) rfl rfl) ?_
      show Go _ _ _ _ (T345.setTop (mkF m 320 #[lI p0, lI p1, lI p2, lI jb, lI jm, lI jc, lI jf, lR b332, lI (0 : Int32), lN, lR w_OE, lU] [(.ref w_OE)]))
      obtain ⟨cq349, kq349, q349a, q349b, q349c⟩ := isOf hZ337 rfl (X_OE.ext O345.2)
      obtain ⟨_, _, ⟨T349, L349, k349, n349⟩, -, X349, ⟨Lc349, hQ349, l349, y349, z349⟩, st349⟩ := X345.virtualBack hx (y := (⟨"java/util/Optional", "isPresent", "()Z"⟩ : MethodName)) (z := (⟨"java/util/Optional", "isPresent", "()Z"⟩ : MethodName)) hown337 (mvT hZ337 (ow hw 86 rfl)) (mvT hZ337 (ow hw 87 rfl)) (notFace_of_selects (args := #[]) (mvT hZ337 (ow hw 89 rfl))) (mvT hZ337 (ow hw 89 rfl)) (mvT hZ337 (ow hw 88 rfl)) (by decide) (backOf (W := 0) (rm_ip0 l Z a0 hw [] w_OE T345.heap n0 O345 (I_OE_value.ext O345.2)) hZ337 (ow hw 90 rfl) (ow hw 71 rfl) (by decide) (by decide)) q349a q349c (g := (mkF m 320 #[lI p0, lI p1, lI p2, lI jb, lI jm, lI jc, lI jf, lR b332, lI (0 : Int32), lN, lR w_OE, lU] [(.ref w_OE)])) rfl (by rw [hml]; rfl) (Steps.refl _) (argsL := []) (rest := []) (lenOf own_pd20 rfl) rfl (by show 2 * 0 + _ ≤ _; exact Nat.le_of_eq rfl) (hb hby at_320) (fun _ _ => ⟨rfl, rfl, (by decide : 7 + 0 ≤ _), (by decide : 14 + 0 ≤ _)⟩)
      dsimp only [Pt.U, Pt.locs, Pt.cells, Pt.slots] at X349 l349 y349 z349 st349 hQ349
      subst y349 z349
      refine Go.tr st349 ?_
      obtain ⟨rfl, N349q, e349⟩ := hQ349
      have N349 : Fr n0 L349 := by rw [l349]; exact Fr.app N345 N349q
      show Go _ _ _ _ (T349.setTop (mkF m 323 #[lI p0, lI p1, lI p2, lI jb, lI jm, lI jc, lI jf, lR b332, lI (0 : Int32), lN, lR w_OE, lU] [(.int 0)]))
      refine Go.st (fun _ => XS.ifNo X349.here hx rfl (hb hby at_323) rfl ((if0 _ _).trans (teq (by decide)).2)) ?_
      show Go _ _ _ _ (T349.setTop (mkF m 326 #[lI p0, lI p1, lI p2, lI jb, lI jm, lI jc, lI jf, lR b332, lI (0 : Int32), lN, lR w_OE, lU] []))
      refine Go.st (fun _ => XS.iconst X349.here hx rfl (hb hby at_326)) ?_
      show Go _ _ _ _ (T349.setTop (mkF m 327 #[lI p0, lI p1, lI p2, lI jb, lI jm, lI jc, lI jf, lR b332, lI (0 : Int32), lN, lR w_OE, lU] [(.int 1)]))
      refine Go.st (fun _ => XS.goto X349.here hx rfl (pc0 := 327) (pc' := 331) rfl (hb hby at_327) (by decide) (by decide)) ?_
      show Go _ _ _ _ (T349.setTop (mkF m 331 #[lI p0, lI p1, lI p2, lI jb, lI jm, lI jc, lI jf, lR b332, lI (0 : Int32), lN, lR w_OE, lU] [(.int 1)]))
      obtain ⟨fs, hr, hrun, hended, -, hW, hpair, hsame⟩ := X349.leaveW hSS337 (by rw [e349]; exact (Nat.le_trans (Nat.le_refl _) K345q.1)) (v := some (.int 1)) (fun h => by rw [Bd.returns] at h; cases h)
      have hCRe := CR345.trans (CHv.at X349 hZ337 hEL CR345.1)
      refine ⟨_, ?_, hPend _ _ hrun hended ⟨_, _, rfl, ?_, ?_, ⟨_, rfl⟩, hW, hpair, hsame.mono (by decide) (by decide)⟩⟩
      ·exact retN X349 hx (t := .boolean) Bd.returns (by simp) (hb hby at_331) hr
      ·show Q_rm_law Z _ _ _ _ _ _ _ _ _ _ _ _ _ _ _ _ h0 n0 _ T349.heap _
       rw [e349]
       exact ⟨rfl, N349, K345⟩
      ·show CHr Z consts_1 s.vm s.heap T349.vm T349.heap
       rw [hh, e349]
       exact hCRe
     ·skip
      refine Go.st (fun _ => XS.ifYes X0.here hx rfl (pc0 := 253) (pc' := 269) rfl (hb hby at_253) rfl ((if0 _ _).trans (feq hc331).2) (by decide) (by decide)) ?_
      show Go _ _ _ _ (s₁.setTop (mkF m 269 #[lI p0, lI p1, lI p2, lI jb, lI jm, lI jc, lI jf, lU, lU, lU, lU, lU] []))
      by_cases hcw : (255 : Int32) < jc
      ·skip
       show Go _ _ _ _ (s₁.setTop (mkF m 269 #[lI p0, lI p1, lI p2, lI jb, lI jm, lI jc, lI jf, lU, lU, lU, lU, lU] []))
       refine Go.st (fun _ => XS.iload X0.here hx rfl (hb hby at_269) rfl) ?_
       show Go _ _ _ _ (s₁.setTop (mkF m 271 #[lI p0, lI p1, lI p2, lI jb, lI jm, lI jc, lI jf, lU, lU, lU, lU, lU] [(.int jc)]))
       obtain ⟨_, _, ⟨T350, L350, k350, n350⟩, -, X350, ⟨Lc350, hQ350, l350, y350, z350⟩, st350⟩ := Jvm.LawKit.callS X0 hx (y := (⟨"java/lang/String", "valueOf", "(C)Ljava/lang/String;"⟩ : MethodName)) hown (mvT hZ (ow hw 105 rfl)) (mvT hZ (ow hw 106 rfl)) (mvT hZ (ow hw 11 rfl)) (mvT hZ (ow hw 107 rfl)) (by decide) (backOf (W := 0) (rm_valOw l Z a0 hw [] S_AD S_HI S_LO g_CS S_CS nz_CS jc h0 n0 X00 hcw) hZ (ow hw 107 rfl) (ow hw 11 rfl) (by decide) (by decide)) (g := (mkF m 271 #[lI p0, lI p1, lI p2, lI jb, lI jm, lI jc, lI jf, lU, lU, lU, lU, lU] [(.int jc)])) rfl (by rw [hml]; rfl) (argsL := [(.int jc)]) (rest := []) (lenOf own_pd24 rfl) rfl (by show 2 * 0 + _ ≤ _; exact Nat.le_of_eq rfl) (hb hby at_271) (fun _ _ => ⟨rfl, e0, (by decide : 0 + 2 ≤ _), (by decide : 0 + 6 ≤ _)⟩)
       dsimp only [Pt.U, Pt.locs, Pt.cells, Pt.slots] at X350 l350 y350 z350 st350 hQ350
       subst y350 z350
       refine Go.st st350 ?_
       obtain ⟨ob_351, rfl, N350q, K350q, q350_0, q350_1, q350_2⟩ := hQ350
       have N350 : Fr n0 L350 := by rw [l350]; exact Fr.app N0 N350q
       have SN350_0 : Safe Z consts_1 s.vm h0 ob_351 := Safe.new q350_0
       have O350 := X00.keep K350q all0
       have K350 : Keep h0 T350.heap [] := (Keep.refl h0 []).trans K350q all0
       have sf352 := Safe.keep K350q sf0 CR0.1 SN350_0
       have CR350 := CR0.trans (CHr.keep K350q sf0 CR0.1)
       have sz_ob_351 : h0.size ≤ ob_351 := Nat.le_trans (Keep.refl h0 []).1 q350_0
       have g_ob_351 : n0 ≤ ob_351 := Nat.le_trans (own_oldsz X00) sz_ob_351
       show Go _ _ _ _ (T350.setTop (mkF m 274 #[lI p0, lI p1, lI p2, lI jb, lI jm, lI jc, lI jf, lU, lU, lU, lU, lU] [(.ref ob_351)]))
       refine Go.st (fun _ => XS.astore X350.here hx rfl (hb hby at_274) rfl rfl (l' := #[lI p0, lI p1, lI p2, lI jb, lI jm, lI jc, lI jf, lR ob_351, lU, lU, lU, lU]) rfl) ?_
       show Go _ _ _ _ (T350.setTop (mkF m 276 #[lI p0, lI p1, lI p2, lI jb, lI jm, lI jc, lI jf, lR ob_351, lU, lU, lU, lU] []))
       refine Go.st (fun _ => XS.iconst X350.here hx rfl (hb hby at_276)) ?_
       show Go _ _ _ _ (T350.setTop (mkF m 277 #[lI p0, lI p1, lI p2, lI jb, lI jm, lI jc, lI jf, lR ob_351, lU, lU, lU, lU] [(.int 0)]))
       refine Go.st (fun _ => XS.istore X350.here hx rfl (hb hby at_277) rfl (l' := #[lI p0, lI p1, lI p2, lI jb, lI jm, lI jc, lI jf, lR ob_351, lI (0 : Int32), lU, lU, lU]) rfl) ?_
       show Go _ _ _ _ (T350.setTop (mkF m 279 #[lI p0, lI p1, lI p2, lI jb, lI jm, lI jc, lI jf, lR ob_351, lI (0 : Int32), lU, lU, lU] []))
       refine Go.st (fun _ => XS.aconstNull X350.here hx rfl (hb hby at_279)) ?_
       show Go _ _ _ _ (T350.setTop (mkF m 280 #[lI p0, lI p1, lI p2, lI jb, lI jm, lI jc, lI jf, lR ob_351, lI (0 : Int32), lU, lU, lU] [.null]))
       refine Go.st (fun _ => XS.astore X350.here hx rfl (hb hby at_280) rfl rfl (l' := #[lI p0, lI p1, lI p2, lI jb, lI jm, lI jc, lI jf, lR ob_351, lI (0 : Int32), lN, lU, lU]) rfl) ?_
       show Go _ _ _ _ (T350.setTop (mkF m 282 #[lI p0, lI p1, lI p2, lI jb, lI jm, lI jc, lI jf, lR ob_351, lI (0 : Int32), lN, lU, lU] []))
       refine Go.st (fun _ => XS.aload X350.here hx rfl (hb hby at_282) rfl rfl) ?_
       show Go _ _ _ _ (T350.setTop (mkF m 284 #[lI p0, lI p1, lI p2, lI jb, lI jm, lI jc, lI jf, lR ob_351, lI (0 : Int32), lN, lU, lU] [(.ref ob_351)]))
       obtain ⟨_, _, ⟨T353, L353, k353, n353⟩, -, X353, ⟨Lc353, hQ353, l353, y353, z353⟩, st353⟩ := Jvm.LawKit.callS X350 hx (y := (⟨"com/example/tidewall/tidewall/ledger/AccountClass", "byId", "(Ljava/lang/String;)Ljava/util/Optional;"⟩ : MethodName)) hown (mvT hZ (ow hw 38 rfl)) (mvT hZ (ow hw 39 rfl)) (mvT hZ (ow hw 7 rfl)) (mvT hZ (ow hw 40 rfl)) (by decide) (backOf (W := 0) (rm_byW l Z a0 hw [] w_C S_C X_C w_P S_P X_P w_V k_V S_V X_V V_V w_CS F_CS X_CS I_CS_coder w_CB k_CB F_CB V_CB w_PS F_PS X_PS I_PS_coder w_PB k_PB F_PB V_PB S_AD S_HI S_LO w_OE S_OE X_OE I_OE_value g_CS S_CS nz_CS g_SF S_SF r_SF ob_351 T350.heap n0 O350 q350_1 q350_2) hZ (ow hw 40 rfl) (ow hw 7 rfl) (by decide) (by decide)) (g := (mkF m 284 #[lI p0, lI p1, lI p2, lI jb, lI jm, lI jc, lI jf, lR ob_351, lI (0 : Int32), lN, lU, lU] [(.ref ob_351)])) rfl (by rw [hml]; rfl) (argsL := [(.ref ob_351)]) (rest := []) (lenOf own_pd19 rfl) rfl (by show 2 * 0 + _ ≤ _; exact Nat.le_of_eq rfl) (hb hby at_284) (fun _ _ => ⟨rfl, rfl, (by decide : 2 + 1 ≤ _), (by decide : 6 + 2 ≤ _)⟩)
       dsimp only [Pt.U, Pt.locs, Pt.cells, Pt.slots] at X353 l353 y353 z353 st353 hQ353
       subst y353 z353
       refine Go.st st353 ?_
       obtain ⟨rfl, N353q, K353q⟩ := hQ353
       have N353 : Fr n0 L353 := by rw [l353]; exact Fr.app N350 N353q
       have O353 := O350.keep K353q all0
       have K353 : Keep h0 T353.heap [] := K350.trans K353q all0
       have sf354 := Safe.keep K353q sf0 CR350.1 sf352
       have CR353 := CR350.trans (CHr.keep K353q sf0 CR350.1)
       show Go _ _ _ _ (T353.setTop (mkF m 287 #[lI p0, lI p1, lI p2, lI jb, lI jm, lI jc, lI jf, lR ob_351, lI (0 : Int32), lN, lU, lU] [(.ref w_OE)]))
       refine Go.st (fun _ => XS.astore X353.here hx rfl (hb hby at_287) rfl rfl (l' := #[lI p0, lI p1, lI p2, lI jb, lI jm, lI jc, lI jf, lR ob_351, lI (0 : Int32), lN, lR w_OE, lU]) rfl) ?_
       show Go _ _ _ _ (T353.setTop (mkF m 289 #[lI p0, lI p1, lI p2, lI jb, lI jm, lI jc, lI jf, lR ob_351, lI (0 : Int32), lN, lR w_OE, lU] []))
       refine Go.st (fun _ => XS.iload X353.here hx rfl (hb hby at_289) rfl) ?_
       show Go _ _ _ _ (T353.setTop (mkF m 291 #[lI p0, lI p1, lI p2, lI jb, lI jm, lI jc, lI jf, lR ob_351, lI (0 : Int32), lN, lR w_OE, lU] [(.int 0)]))
       refine Go.st (fun _ => XS.ifYes X353.here hx rfl (pc0 := 291) (pc' := 318) rfl (hb hby at_291) rfl ((if0 _ _).trans (teq (by decide)).1) (by decide) (by decide)) ?_
       show Go _ _ _ _ (T353.setTop (mkF m 318 #[lI p0, lI p1, lI p2, lI jb, lI jm, lI jc, lI jf, lR ob_351, lI (0 : Int32), lN, lR w_OE, lU] []))
       refine Go.st (fun _ => XS.aload X353.here hx rfl (hb hby at_318) rfl rfl) ?_
       show Go _ _ _ _ (T353.setTop (mkF m 320 #[lI p0, lI p1, lI p2, lI jb, lI jm, lI jc, lI jf, lR ob_351, lI (0 : Int32), lN, lR w_OE, lU] [(.ref w_OE)]))
       obtain ⟨cq355, kq355, q355a, q355b, q355c⟩ := isOf hZ rfl (X_OE.ext O353.2)
       obtain ⟨_, _, ⟨T355, L355, k355, n355⟩, -, X355, ⟨Lc355, hQ355, l355, y355, z355⟩, st355⟩ := X353.virtualBack hx (y := (⟨"java/util/Optional", "isPresent", "()Z"⟩ : MethodName)) (z := (⟨"java/util/Optional", "isPresent", "()Z"⟩ : MethodName)) hown (mvT hZ (ow hw 86 rfl)) (mvT hZ (ow hw 87 rfl)) (notFace_of_selects (args := #[]) (mvT hZ (ow hw 89 rfl))) (mvT hZ (ow hw 89 rfl)) (mvT hZ (ow hw 88 rfl)) (by decide) (backOf (W := 0) (rm_ip0 l Z a0 hw [] w_OE T353.heap n0 O353 (I_OE_value.ext O353.2)) hZ (ow hw 90 rfl) (ow hw 71 rfl) (by decide) (by decide)) q355a q355c (g := (mkF m 320 #[lI p0, lI p1, lI p2, lI jb, lI jm, lI jc, lI jf, lR ob_351, lI (0 : Int32), lN, lR w_OE, lU] [(.ref w_OE)])) rfl (by rw [hml]; rfl) (Steps.refl _) (argsL := []) (rest := []) (lenOf own_pd20 rfl) rfl (by show 2 * 0 + _ ≤ _; exact Nat.le_of_eq rfl) (hb hby at_320) (fun _ _ => ⟨rfl, rfl, (by decide : 3 + 0 ≤ _), (by decide : 8 + 0 ≤ _)⟩)
       dsimp only [Pt.U, Pt.locs, Pt.cells, Pt.slots] at X355 l355 y355 z355 st355 hQ355
       subst y355 z355
       refine Go.tr st355 ?_
       obtain ⟨rfl, N355q, e355⟩ := hQ355
       have N355 : Fr n0 L355 := by rw [l355]; exact Fr.app N353 N355q
       show Go _ _ _ _ (T355.setTop (mkF m 323 #[lI p0, lI p1, lI p2, lI jb, lI jm, lI jc, lI jf, lR ob_351, lI (0 : Int32), lN, lR w_OE, lU] [(.int 0)]))
       refine Go.st (fun _ => XS.ifNo X355.here hx rfl (hb hby at_323) rfl ((if0 _ _).trans (teq (by decide)).2)) ?_
       show Go _ _ _ _ (T355.setTop (mkF m 326 #[lI p0, lI p1, lI p2, lI jb, lI jm, lI jc, lI jf, lR ob_351, lI (0 : Int32), lN, lR w_OE, lU] []))
       refine Go.st (fun _ => XS.iconst X355.here hx rfl (hb hby at_326)) ?_
       show Go _ _ _ _ (T355.setTop (mkF m 327 #[lI p0, lI p1, lI p2, lI jb, lI jm, lI jc, lI jf, lR ob_351, lI (0 : Int32), lN, lR w_OE, lU] [(.int 1)]))
       refine Go.st (fun _ => XS.goto X355.here hx rfl (pc0 := 327) (pc' := 331) rfl (hb hby at_327) (by decide) (by decide)) ?_
       show Go _ _ _ _ (T355.setTop (mkF m 331 #[lI p0, lI p1, lI p2, lI jb, lI jm, lI jc, lI jf, lR ob_351, lI (0 : Int32), lN, lR w_OE, lU] [(.int 1)]))
       obtain ⟨fs, hr, hrun, hended, -, hW, hpair, hsame⟩ := X355.leaveW hS0 (by rw [e355]; exact (Nat.le_trans (Nat.le_trans hk0 K350q.1) K353q.1)) (v := some (.int 1)) (fun h => by rw [Bd.returns] at h; cases h)
       have hCRe := CR353.trans (CHv.at X355 hZ hEL CR353.1)
       refine ⟨_, ?_, hPend _ _ hrun hended ⟨_, _, rfl, ?_, ?_, ⟨_, rfl⟩, hW, hpair, hsame.mono (by decide) (by decide)⟩⟩
       ·exact retN X355 hx (t := .boolean) Bd.returns (by simp) (hb hby at_331) hr
       ·show Q_rm_law Z _ _ _ _ _ _ _ _ _ _ _ _ _ _ _ _ h0 n0 _ T355.heap _
        rw [e355]
        exact ⟨rfl, N355, K353⟩
       ·show CHr Z consts_1 s.vm s.heap T355.vm T355.heap
        rw [hh, e355]
        exact hCRe
      ·skip
       show Go _ _ _ _ (s₁.setTop (mkF m 269 #[lI p0, lI p1, lI p2, lI jb, lI jm, lI jc, lI jf, lU, lU, lU, lU, lU] []))
       refine Go.st (fun _ => XS.iload X0.here hx rfl (hb hby at_269) rfl) ?_
       show Go _ _ _ _ (s₁.setTop (mkF m 271 #[lI p0, lI p1, lI p2, lI jb, lI jm, lI jc, lI jf, lU, lU, lU, lU, lU] [(.int jc)]))
       obtain ⟨_, _, ⟨T356, L356, k356, n356⟩, -, X356, ⟨Lc356, hQ356, l356, y356, z356⟩, st356⟩ := Jvm.LawKit.callS X0 hx (y := (⟨"java/lang/String", "valueOf", "(C)Ljava/lang/String;"⟩ : MethodName)) hown (mvT hZ (ow hw 105 rfl)) (mvT hZ (ow hw 106 rfl)) (mvT hZ (ow hw 11 rfl)) (mvT hZ (ow hw 107 rfl)) (by decide) (backOf (W := 0) (rm_valOf l Z a0 hw [] g_CS S_CS nz_CS jc h0 n0 X00 ⟨hjc.1, hcw⟩) hZ (ow hw 107 rfl) (ow hw 11 rfl) (by decide) (by decide)) (g := (mkF m 271 #[lI p0, lI p1, lI p2, lI jb, lI jm, lI jc, lI jf, lU, lU, lU, lU, lU] [(.int jc)])) rfl (by rw [hml]; rfl) (argsL := [(.int jc)]) (rest := []) (lenOf own_pd24 rfl) rfl (by show 2 * 0 + _ ≤ _; exact Nat.le_of_eq rfl) (hb hby at_271) (fun _ _ => ⟨rfl, e0, (by decide : 0 + 2 ≤ _), (by decide : 0 + 5 ≤ _)⟩)
       dsimp only [Pt.U, Pt.locs, Pt.cells, Pt.slots] at X356 l356 y356 z356 st356 hQ356
       subst y356 z356
       refine Go.st st356 ?_
       obtain ⟨ob_357, vb_358, kb_359, rfl, N356q, K356q, q356_0, q356_1, q356_2, q356_3, q356_4, q356_5⟩ := hQ356
       have N356 : Fr n0 L356 := by rw [l356]; exact Fr.app N0 N356q
       have SN356_0 : Safe Z consts_1 s.vm h0 ob_357 := Safe.new q356_0
       have SN356_1 : Safe Z consts_1 s.vm h0 vb_358 := Safe.new q356_1
       have O356 := X00.keep K356q all0
       have K356 : Keep h0 T356.heap [] := (Keep.refl h0 []).trans K356q all0
       have sf360 := Safe.keep K356q sf0 CR0.1 SN356_0
       have sf361 := Safe.keep K356q sf0 CR0.1 SN356_1
       have CR356 := CR0.trans (CHr.keep K356q sf0 CR0.1)
       have sz_ob_357 : h0.size ≤ ob_357 := Nat.le_trans (Keep.refl h0 []).1 q356_0
       have g_ob_357 : n0 ≤ ob_357 := Nat.le_trans (own_oldsz X00) sz_ob_357
       have sz_vb_358 : h0.size ≤ vb_358 := Nat.le_trans (Keep.refl h0 []).1 q356_1
       have g_vb_358 : n0 ≤ vb_358 := Nat.le_trans (own_oldsz X00) sz_vb_358
       show Go _ _ _ _ (T356.setTop (mkF m 274 #[lI p0, lI p1, lI p2, lI jb, lI jm, lI jc, lI jf, lU, lU, lU, lU, lU] [(.ref ob_357)]))
       refine Go.st (fun _ => XS.astore X356.here hx rfl (hb hby at_274) rfl rfl (l' := #[lI p0, lI p1, lI p2, lI jb, lI jm, lI jc, lI jf, lR ob_357, lU, lU, lU, lU]) rfl) ?_
       show Go _ _ _ _ (T356.setTop (mkF m 276 #[lI p0, lI p1, lI p2, lI jb, lI jm, lI jc, lI jf, lR ob_357, lU, lU, lU, lU] []))
       refine Go.st (fun _ => XS.iconst X356.here hx rfl (hb hby at_276)) ?_
       show Go _ _ _ _ (T356.setTop (mkF m 277 #[lI p0, lI p1, lI p2, lI jb, lI jm, lI jc, lI jf, lR ob_357, lU, lU, lU, lU] [(.int 0)]))
       refine Go.st (fun _ => XS.istore X356.here hx rfl (hb hby at_277) rfl (l' := #[lI p0, lI p1, lI p2, lI jb, lI jm, lI jc, lI jf, lR ob_357, lI (0 : Int32), lU, lU, lU]) rfl) ?_
       show Go _ _ _ _ (T356.setTop (mkF m 279 #[lI p0, lI p1, lI p2, lI jb, lI jm, lI jc, lI jf, lR ob_357, lI (0 : Int32), lU, lU, lU] []))
       refine Go.st (fun _ => XS.aconstNull X356.here hx rfl (hb hby at_279)) ?_
       show Go _ _ _ _ (T356.setTop (mkF m 280 #[lI p0, lI p1, lI p2, lI jb, lI jm, lI jc, lI jf, lR ob_357, lI (0 : Int32), lU, lU, lU] [.null]))
       refine Go.st (fun _ => XS.astore X356.here hx rfl (hb hby at_280) rfl rfl (l' := #[lI p0, lI p1, lI p2, lI jb, lI jm, lI jc, lI jf, lR ob_357, lI (0 : Int32), lN, lU, lU]) rfl) ?_
       show Go _ _ _ _ (T356.setTop (mkF m 282 #[lI p0, lI p1, lI p2, lI jb, lI jm, lI jc, lI jf, lR ob_357, lI (0 : Int32), lN, lU, lU] []))
       refine Go.st (fun _ => XS.aload X356.here hx rfl (hb hby at_282) rfl rfl) ?_
       show Go _ _ _ _ (T356.setTop (mkF m 284 #[lI p0, lI p1, lI p2, lI jb, lI jm, lI jc, lI jf, lR ob_357, lI (0 : Int32), lN, lU, lU] [(.ref ob_357)]))
       obtain ⟨_, _, ⟨T362, L362, k362, n362⟩, -, X362, ⟨Lc362, hQ362, l362, y362, z362⟩, st362⟩ := Jvm.LawKit.callS X356 hx (y := (⟨"com/example/tidewall/tidewall/ledger/AccountClass", "byId", "(Ljava/lang/String;)Ljava/util/Optional;"⟩ : MethodName)) hown (mvT hZ (ow hw 38 rfl)) (mvT hZ (ow hw 39 rfl)) (mvT hZ (ow hw 7 rfl)) (mvT hZ (ow hw 40 rfl)) (by decide) (backOf (W := 0) (rm_byo l Z a0 hw [] w_C S_C X_C w_P S_P X_P w_V k_V S_V X_V V_V w_CS F_CS X_CS I_CS_coder w_CB k_CB F_CB V_CB w_PS F_PS X_PS I_PS_coder w_PB k_PB F_PB V_PB S_AD S_HI S_LO w_OE S_OE X_OE I_OE_value g_CS S_CS nz_CS g_SF S_SF r_SF ob_357 ([jc] : List Int32) vb_358 kb_359 T356.heap n0 O356 q356_2 q356_3 q356_4 (own_arvN rfl q356_5) (own_one ⟨hjc.1, hcw⟩) (Nat.le_of_ble_eq_true rfl) (own_lenne (by simp)) (own_lenne (by simp))) hZ (ow hw 40 rfl) (ow hw 7 rfl) (by decide) (by decide)) (g := (mkF m 284 #[lI p0, lI p1, lI p2, lI jb, lI jm, lI jc, lI jf, lR ob_357, lI (0 : Int32), lN, lU, lU] [(.ref ob_357)])) rfl (by rw [hml]; rfl) (argsL := [(.ref ob_357)]) (rest := []) (lenOf own_pd19 rfl) rfl (by show 2 * 0 + _ ≤ _; exact Nat.le_of_eq rfl) (hb hby at_284) (fun _ _ => ⟨rfl, rfl, (by decide : 2 + 1 ≤ _), (by decide : 5 + 2 ≤ _)⟩)
       dsimp only [Pt.U, Pt.locs, Pt.cells, Pt.slots] at X362 l362 y362 z362 st362 hQ362
       subst y362 z362
       refine Go.st st362 ?_
       obtain ⟨rfl, N362q, K362q⟩ := hQ362
       have N362 : Fr n0 L362 := by rw [l362]; exact Fr.app N356 N362q
       have O362 := O356.keep K362q all0
       have K362 : Keep h0 T362.heap [] := K356.trans K362q all0
       have sf363 := Safe.keep K362q sf0 CR356.1 sf360
       have sf364 := Safe.keep K362q sf0 CR356.1 sf361
       have CR362 := CR356.trans (CHr.keep K362q sf0 CR356.1)
       show Go _ _ _ _ (T362.setTop (mkF m 287 #[lI p0, lI p1, lI p2, lI jb, lI jm, lI jc, lI jf, lR ob_357, lI (0 : Int32), lN, lU, lU] [(.ref w_OE)]))
       refine Go.st (fun _ => XS.astore X362.here hx rfl (hb hby at_287) rfl rfl (l' := #[lI p0, lI p1, lI p2, lI jb, lI jm, lI jc, lI jf, lR ob_357, lI (0 : Int32), lN, lR w_OE, lU]) rfl) ?_
       show Go _ _ _ _ (T362.setTop (mkF m 289 #[lI p0, lI p1, lI p2, lI jb, lI jm, lI jc, lI jf, lR ob_357, lI (0 : Int32), lN, lR w_OE, lU] []))
       refine Go.st (fun _ => XS.iload X362.here hx rfl (hb hby at_289) rfl) ?_
       show Go _ _ _ _ (T362.setTop (mkF m 291 #[lI p0, lI p1, lI p2, lI jb, lI jm, lI jc, lI jf, lR ob_357, lI (0 : Int32), lN, lR w_OE, lU] [(.int 0)]))
       refine Go.st (fun _ => XS.ifYes X362.here hx rfl (pc0 := 291) (pc' := 318) rfl (hb hby at_291) rfl ((if0 _ _).trans (teq (by decide)).1) (by decide) (by decide)) ?_
       show Go _ _ _ _ (T362.setTop (mkF m 318 #[lI p0, lI p1, lI p2, lI jb, lI jm, lI jc, lI jf, lR ob_357, lI (0 : Int32), lN, lR w_OE, lU] []))
       refine Go.st (fun _ => XS.aload X362.here hx rfl (hb hby at_318) rfl rfl) ?_
       show Go _ _ _ _ (T362.setTop (mkF m 320 #[lI p0, lI p1, lI p2, lI jb, lI jm, lI jc, lI jf, lR ob_357, lI (0 : Int32), lN, lR w_OE, lU] [(.ref w_OE)]))
       obtain ⟨cq365, kq365, q365a, q365b, q365c⟩ := isOf hZ rfl (X_OE.ext O362.2)
       obtain ⟨_, _, ⟨T365, L365, k365, n365⟩, -, X365, ⟨Lc365, hQ365, l365, y365, z365⟩, st365⟩ := X362.virtualBack hx (y := (⟨"java/util/Optional", "isPresent", "()Z"⟩ : MethodName)) (z := (⟨"java/util/Optional", "isPresent", "()Z"⟩ : MethodName)) hown (mvT hZ (ow hw 86 rfl)) (mvT hZ (ow hw 87 rfl)) (notFace_of_selects (args := #[]) (mvT hZ (ow hw 89 rfl))) (mvT hZ (ow hw 89 rfl)) (mvT hZ (ow hw 88 rfl)) (by decide) (backOf (W := 0) (rm_ip0 l Z a0 hw [] w_OE T362.heap n0 O362 (I_OE_value.ext O362.2)) hZ (ow hw 90 rfl) (ow hw 71 rfl) (by decide) (by decide)) q365a q365c (g := (mkF m 320 #[lI p0, lI p1, lI p2, lI jb, lI jm, lI jc, lI jf, lR ob_357, lI (0 : Int32), lN, lR w_OE, lU] [(.ref w_OE)])) rfl (by rw [hml]; rfl) (Steps.refl _) (argsL := []) (rest := []) (lenOf own_pd20 rfl) rfl (by show 2 * 0 + _ ≤ _; exact Nat.le_of_eq rfl) (hb hby at_320) (fun _ _ => ⟨rfl, rfl, (by decide : 3 + 0 ≤ _), (by decide : 7 + 0 ≤ _)⟩)
       dsimp only [Pt.U, Pt.locs, Pt.cells, Pt.slots] at X365 l365 y365 z365 st365 hQ365
       subst y365 z365
       refine Go.tr st365 ?_
       obtain ⟨rfl, N365q, e365⟩ := hQ365
       have N365 : Fr n0 L365 := by rw [l365]; exact Fr.app N362 N365q
       show Go _ _ _ _ (T365.setTop (mkF m 323 #[lI p0, lI p1, lI p2, lI jb, lI jm, lI jc, lI jf, lR ob_357, lI (0 : Int32), lN, lR w_OE, lU] [(.int 0)]))
       refine Go.st (fun _ => XS.ifNo X365.here hx rfl (hb hby at_323) rfl ((if0 _ _).trans (teq (by decide)).2)) ?_
       show Go _ _ _ _ (T365.setTop (mkF m 326 #[lI p0, lI p1, lI p2, lI jb, lI jm, lI jc, lI jf, lR ob_357, lI (0 : Int32), lN, lR w_OE, lU] []))
       refine Go.st (fun _ => XS.iconst X365.here hx rfl (hb hby at_326)) ?_
       show Go _ _ _ _ (T365.setTop (mkF m 327 #[lI p0, lI p1, lI p2, lI jb, lI jm, lI jc, lI jf, lR ob_357, lI (0 : Int32), lN, lR w_OE, lU] [(.int 1)]))
       refine Go.st (fun _ => XS.goto X365.here hx rfl (pc0 := 327) (pc' := 331) rfl (hb hby at_327) (by decide) (by decide)) ?_
       show Go _ _ _ _ (T365.setTop (mkF m 331 #[lI p0, lI p1, lI p2, lI jb, lI jm, lI jc, lI jf, lR ob_357, lI (0 : Int32), lN, lR w_OE, lU] [(.int 1)]))
       obtain ⟨fs, hr, hrun, hended, -, hW, hpair, hsame⟩ := X365.leaveW hS0 (by rw [e365]; exact (Nat.le_trans (Nat.le_trans hk0 K356q.1) K362q.1)) (v := some (.int 1)) (fun h => by rw [Bd.returns] at h; cases h)
       have hCRe := CR362.trans (CHv.at X365 hZ hEL CR362.1)
       refine ⟨_, ?_, hPend _ _ hrun hended ⟨_, _, rfl, ?_, ?_, ⟨_, rfl⟩, hW, hpair, hsame.mono (by decide) (by decide)⟩⟩
       ·exact retN X365 hx (t := .boolean) Bd.returns (by simp) (hb hby at_331) hr
       ·show Q_rm_law Z _ _ _ _ _ _ _ _ _ _ _ _ _ _ _ _ h0 n0 _ T365.heap _
        rw [e365]
        exact ⟨rfl, N365, K362⟩
       ·show CHr Z consts_1 s.vm s.heap T365.vm T365.heap
        rw [hh, e365]
        exact hCRe
 by_cases hc366 : (p1 &&& (1 : Int32)) = (0 : Int32)
 ·skip
  refine Go.st (fun _ => XS.ifYes X0.here hx rfl (pc0 := 21) (pc' := 28) rfl (hb hby at_21) rfl ((if0 _ _).trans (teq hc366).1) (by decide) (by decide)) ?_
  show Go _ _ _ _ (s₁.setTop (mkF m 28 #[lI p0, lI p1, lI p2, lI jb, lI jm, lI jc, lU, lU, lU, lU, lU, lU] []))
  refine Go.st (fun _ => XS.iconst X0.here hx rfl (hb hby at_28)) ?_
  show Go _ _ _ _ (s₁.setTop (mkF m 29 #[lI p0, lI p1, lI p2, lI jb, lI jm, lI jc, lU, lU, lU, lU, lU, lU] [(.int 0)]))
  refine Go.st (fun _ => XS.istore X0.here hx rfl (hb hby at_29) rfl (l' := #[lI p0, lI p1, lI p2, lI jb, lI jm, lI jc, lI (0 : Int32), lU, lU, lU, lU, lU]) rfl) ?_
  show Go _ _ _ _ (s₁.setTop (mkF m 31 #[lI p0, lI p1, lI p2, lI jb, lI jm, lI jc, lI (0 : Int32), lU, lU, lU, lU, lU] []))
  exact J1 (0 : Int32) trivial
 ·skip
  refine Go.st (fun _ => XS.ifNo X0.here hx rfl (hb hby at_21) rfl ((if0 _ _).trans (feq hc366).1)) ?_
  show Go _ _ _ _ (s₁.setTop (mkF m 24 #[lI p0, lI p1, lI p2, lI jb, lI jm, lI jc, lU, lU, lU, lU, lU, lU] []))
  refine Go.st (fun _ => XS.iconst X0.here hx rfl (hb hby at_24)) ?_
  show Go _ _ _ _ (s₁.setTop (mkF m 25 #[lI p0, lI p1, lI p2, lI jb, lI jm, lI jc, lU, lU, lU, lU, lU, lU] [(.int 1)]))
  refine Go.st (fun _ => XS.goto X0.here hx rfl (pc0 := 25) (pc' := 29) rfl (hb hby at_25) (by decide) (by decide)) ?_
  show Go _ _ _ _ (s₁.setTop (mkF m 29 #[lI p0, lI p1, lI p2, lI jb, lI jm, lI jc, lU, lU, lU, lU, lU, lU] [(.int 1)]))
  refine Go.st (fun _ => XS.istore X0.here hx rfl (hb hby at_29) rfl (l' := #[lI p0, lI p1, lI p2, lI jb, lI jm, lI jc, lI (1 : Int32), lU, lU, lU, lU, lU]) rfl) ?_
  show Go _ _ _ _ (s₁.setTop (mkF m 31 #[lI p0, lI p1, lI p2, lI jb, lI jm, lI jc, lI (1 : Int32), lU, lU, lU, lU, lU] []))
  exact J1 (1 : Int32) trivial
set_option maxRecDepth 65536 in
set_option maxHeartbeats 40000000 in
theorem comes_1 {Post : Tables → Env → Array Value → State → Outcome → State → Prop} (hpost : ∀ tb e args s v u, (limb_1_1.after args s (.returned v) u = true ∧ limb_1_2.after args s (.returned v) u = true ∧ True) → ReturnedEndW s (.returned v) u (Jvm.fieldLocs frame_1_writes args s ++ Jvm.arrayLocs frame_1_arrays args s ++ Jvm.staticLocs frame_1_statics s) 24 1280 → Post tb e args s (.returned v) u) :
    ArmFor flags0 classFile x code maxLocals ret World_1 tables_1 room_1 Calls_1 rest_1 Pre_1 Post := by
  intro l hfl _ _ p e ha hc hk s m args below hf hA hF happ hP
  obtain ⟨hcalls, hrest, hpre⟩ := hP
  obtain ⟨-, -, -, hnamed, -, -, -, hat⟩ := (Spec.applies_iff hf).mp happ
  obtain ⟨hg, hn⟩ := and_e (Cond.before_iff.mp (show (Jvm.Cond.and given_1 narrow_1).before args s = true from hpre))
  obtain ⟨hc_1, hc_2⟩ := and_e hg
  obtain ⟨hc_3, hc_4⟩ := and_e hc_2
  obtain ⟨hc_5, hc_6⟩ := and_e hc_4
  obtain ⟨w0, w1, w2, rfl⟩ : ∃ w0 w1 w2 : Value, args = #[w0, w1, w2] := by
    have hs : args.size = 3 := by simpa [Cond.value, given_1] using hc_1
    obtain ⟨L⟩ := args
    match L, hs with
    | [w0, w1, w2], _ => exact ⟨w0, w1, w2, rfl⟩
  have hw := fun d (hd : d ∈ tables_1) => atoms_spec (ws := Jvm.Cond.code x code maxLocals ret :: tables_1) hat d (List.mem_cons_of_mem _ hd)
  have hfit : Fit s := fun {y c} hc i hi => by
    obtain ⟨ha, rfl⟩ := Array.getElem?_eq_some_iff.mp hc
    have q := List.all_eq_true.mp ((Array.all_eq_true_iff_forall_mem.mp hF) _ (Array.getElem_mem ha)) i (List.mem_range.mpr hi)
    simpa [Array.getElem?_eq_getElem hi] using q
  obtain ⟨hsets, hown0⟩ := atoms_of _ (rest_1_c_eq ▸ (show rest_1_c.before _ s = true from hrest))
  have nCS := not_v (Cond.before_iff.mp (hsets _ (List.mem_of_getElem? (i := 2) rfl)))
  obtain ⟨g_CS, eCS⟩ := is_v (Cond.before_iff.mp (hsets _ (List.mem_of_getElem? (i := 1) rfl)))
  have S_CS := Sta.start eCS (Or.inl (hsets _ (List.mem_of_getElem? (i := 0) rfl)))
  have nz_CS : ¬ (g_CS = (0 : Int32)) := gotF (Cond.eq_ints eCS (Term.int_eval (0))) nCS
  obtain ⟨g_SF, eSF, r_SF⟩ := isR_v (Cond.before_iff.mp (hsets _ (List.mem_of_getElem? (i := 8) rfl)))
  have S_SF := Sta.start eSF (Or.inl (hsets _ (List.mem_of_getElem? (i := 7) rfl)))
  obtain ⟨i0, ea0⟩ := is_v hc_3
  obtain rfl : w0 = (.int i0) := Option.some.inj ea0
  obtain ⟨i1, ea1⟩ := is_v hc_5
  obtain rfl : w1 = (.int i1) := Option.some.inj ea1
  obtain ⟨i2, ea2⟩ := is_v hc_6
  obtain rfl : w2 = (.int i2) := Option.some.inj ea2
  obtain ⟨hc_7, hc_8⟩ := and_e hn
  obtain ⟨hc_9, hc_10⟩ := and_e hc_8
  obtain ⟨hc_11, hc_12⟩ := and_e hc_10
  obtain ⟨hc_13, hc_14⟩ := and_e hc_12
  obtain ⟨hc_15, hc_16⟩ := and_e hc_14
  obtain ⟨hc_17, hc_18⟩ := and_e hc_16
  obtain ⟨hc_19, hc_20⟩ := and_e hc_18
  obtain ⟨hc_21, hc_22⟩ := and_e hc_20
  obtain ⟨hc_23, hc_24⟩ := and_e hc_22
  obtain ⟨hc_25, hc_26⟩ := and_e hc_24
  obtain ⟨hc_27, hc_28⟩ := and_e hc_26
  obtain ⟨hc_29, hc_30⟩ := and_e hc_28
  obtain ⟨hc_31, hc_32⟩ := and_e hc_30
  obtain ⟨hc_33, hc_34⟩ := and_e hc_32
  obtain ⟨hc_35, hc_36⟩ := and_e hc_34
  obtain ⟨hc_37, hc_38⟩ := and_e hc_36
  obtain ⟨hc_39, hc_40⟩ := and_e hc_38
  obtain ⟨hc_41, hc_42⟩ := and_e hc_40
  obtain ⟨hc_43, hc_44⟩ := and_e hc_42
  obtain ⟨hc_45, hc_46⟩ := and_e hc_44
  obtain ⟨hc_47, hc_48⟩ := and_e hc_46
  obtain ⟨hc_49, hc_50⟩ := and_e hc_48
  obtain ⟨hc_51, hc_52⟩ := and_e hc_50
  obtain ⟨hc_53, hc_54⟩ := and_e hc_52
  obtain ⟨hc_55, hc_56⟩ := and_e hc_54
  obtain ⟨hc_57, hc_58⟩ := and_e hc_56
  obtain ⟨hc_59, hc_60⟩ := and_e hc_58
  obtain ⟨hc_61, hc_62⟩ := and_e hc_60
  obtain ⟨hc_63, hc_64⟩ := and_e hc_62
  obtain ⟨hc_65, hc_66⟩ := and_e hc_64
  obtain ⟨hc_67, hc_68⟩ := and_e hc_66
  obtain ⟨hc_69, hc_70⟩ := and_e hc_68
  obtain ⟨hc_71, hc_72⟩ := and_e hc_70
  obtain ⟨w_C, ev_C⟩ := exa_v hc_7
  have X_C := Exa.start ev_C hc_7
  have S_C := Sta.start ev_C (Or.inr ⟨(ow hw 7 rfl), (ow hw 8 rfl)⟩)
  obtain ⟨w_P, ev_P⟩ := exa_v hc_17
  have X_P := Exa.start ev_P hc_17
  have S_P := Sta.start ev_P (Or.inr ⟨(ow hw 7 rfl), (ow hw 53 rfl)⟩)
  obtain ⟨w_V, ev_V⟩ := exa_v hc_11
  have X_V := Exa.start ev_V hc_11
  have S_V := Sta.start ev_V (Or.inr ⟨(ow hw 7 rfl), (ow hw 45 rfl)⟩)
  obtain ⟨cl_V, A_V⟩ := Arr.start ev_V hc_9
  obtain ⟨hsz_V, hln_V⟩ := own_len_start (eqv_i (Term.int_eval (2)) hc_13) ev_V A_V.1
  obtain ⟨w_CS, ev_CS⟩ := exa_v hc_21
  have X_CS := Exa.start ev_CS hc_21
  have F_CS := Fld.start ((fld_at ev_C).symm.trans ev_CS)
  obtain ⟨w_PS, ev_PS⟩ := exa_v hc_29
  have X_PS := Exa.start ev_PS hc_29
  have F_PS := Fld.start ((fld_at ev_P).symm.trans ev_PS)
  obtain ⟨w_CB, ev_CB⟩ := arr_v hc_25
  have F_CB := Fld.start ((fld_at ev_CS).symm.trans ev_CB)
  obtain ⟨cl_CB, A_CB⟩ := Arr.start ev_CB hc_25
  obtain ⟨hsz_CB, hln_CB⟩ := own_len_start (eqv_i (Term.int_eval (8)) hc_27) ev_CB A_CB.1
  obtain ⟨w_PB, ev_PB⟩ := arr_v hc_33
  have F_PB := Fld.start ((fld_at ev_PS).symm.trans ev_PB)
  obtain ⟨cl_PB, A_PB⟩ := Arr.start ev_PB hc_33
  obtain ⟨hsz_PB, hln_PB⟩ := own_len_start (eqv_i (Term.int_eval (11)) hc_35) ev_PB A_PB.1
  have I_CS_coder := Fld.start ((fld_at ev_CS).symm.trans (eqv_i (Term.int_eval (0)) hc_23))
  have I_PS_coder := Fld.start ((fld_at ev_PS).symm.trans (eqv_i (Term.int_eval (0)) hc_31))
  have el_V_0 := (elem_in (own_eq_ref ev_C hc_15) ev_V (Term.int_eval (0)) A_V.1).2
  have el_V_1 := (elem_in (own_eq_ref ev_P hc_19) ev_V (Term.int_eval (1)) A_V.1).2
  have V_V := Arv.start (vs := [(.ref w_C), (.ref w_P)]) (dv := .null) hfit A_V hsz_V hln_V (by decide) rfl ⟨el_V_0, el_V_1, trivial⟩
  have el_CB_0 := (elem_in (eqv_i (Term.int_eval (99)) hc_37) ev_CB (Term.int_eval (0)) A_CB.1).2
  have el_CB_1 := (elem_in (eqv_i (Term.int_eval (117)) hc_39) ev_CB (Term.int_eval (1)) A_CB.1).2
  have el_CB_2 := (elem_in (eqv_i (Term.int_eval (115)) hc_41) ev_CB (Term.int_eval (2)) A_CB.1).2
  have el_CB_3 := (elem_in (eqv_i (Term.int_eval (116)) hc_43) ev_CB (Term.int_eval (3)) A_CB.1).2
  have el_CB_4 := (elem_in (eqv_i (Term.int_eval (111)) hc_45) ev_CB (Term.int_eval (4)) A_CB.1).2
  have el_CB_5 := (elem_in (eqv_i (Term.int_eval (109)) hc_47) ev_CB (Term.int_eval (5)) A_CB.1).2
  have el_CB_6 := (elem_in (eqv_i (Term.int_eval (101)) hc_49) ev_CB (Term.int_eval (6)) A_CB.1).2
  have el_CB_7 := (elem_in (eqv_i (Term.int_eval (114)) hc_51) ev_CB (Term.int_eval (7)) A_CB.1).2
  have V_CB := Arv.start (vs := [(.int 99), (.int 117), (.int 115), (.int 116), (.int 111), (.int 109), (.int 101), (.int 114)]) (dv := (.int 0)) hfit A_CB hsz_CB hln_CB (by decide) rfl ⟨el_CB_0, el_CB_1, el_CB_2, el_CB_3, el_CB_4, el_CB_5, el_CB_6, el_CB_7, trivial⟩
  have el_PB_0 := (elem_in (eqv_i (Term.int_eval (112)) hc_53) ev_PB (Term.int_eval (0)) A_PB.1).2
  have el_PB_1 := (elem_in (eqv_i (Term.int_eval (114)) hc_55) ev_PB (Term.int_eval (1)) A_PB.1).2
  have el_PB_2 := (elem_in (eqv_i (Term.int_eval (111)) hc_57) ev_PB (Term.int_eval (2)) A_PB.1).2
  have el_PB_3 := (elem_in (eqv_i (Term.int_eval (112)) hc_59) ev_PB (Term.int_eval (3)) A_PB.1).2
  have el_PB_4 := (elem_in (eqv_i (Term.int_eval (114)) hc_61) ev_PB (Term.int_eval (4)) A_PB.1).2
  have el_PB_5 := (elem_in (eqv_i (Term.int_eval (105)) hc_63) ev_PB (Term.int_eval (5)) A_PB.1).2
  have el_PB_6 := (elem_in (eqv_i (Term.int_eval (101)) hc_65) ev_PB (Term.int_eval (6)) A_PB.1).2
  have el_PB_7 := (elem_in (eqv_i (Term.int_eval (116)) hc_67) ev_PB (Term.int_eval (7)) A_PB.1).2
  have el_PB_8 := (elem_in (eqv_i (Term.int_eval (97)) hc_69) ev_PB (Term.int_eval (8)) A_PB.1).2
  have el_PB_9 := (elem_in (eqv_i (Term.int_eval (114)) hc_71) ev_PB (Term.int_eval (9)) A_PB.1).2
  have el_PB_10 := (elem_in (eqv_i (Term.int_eval (121)) hc_72) ev_PB (Term.int_eval (10)) A_PB.1).2
  have V_PB := Arv.start (vs := [(.int 112), (.int 114), (.int 111), (.int 112), (.int 114), (.int 105), (.int 101), (.int 116), (.int 97), (.int 114), (.int 121)]) (dv := (.int 0)) hfit A_PB hsz_PB hln_PB (by decide) rfl ⟨el_PB_0, el_PB_1, el_PB_2, el_PB_3, el_PB_4, el_PB_5, el_PB_6, el_PB_7, el_PB_8, el_PB_9, el_PB_10, trivial⟩
  obtain ⟨w_OE, ev_OE⟩ := exa_v (Cond.before_iff.mp (hsets _ (List.mem_of_getElem? (i := 11) rfl)))
  have X_OE := Exa.start ev_OE (Cond.before_iff.mp (hsets _ (List.mem_of_getElem? (i := 11) rfl)))
  have S_OE := Sta.start ev_OE (Or.inl (Cond.before_iff.mpr (Cond.before_iff.mp (hsets _ (List.mem_of_getElem? (i := 10) rfl)))))
  have I_OE_value := Fld.start ((fld_at ev_OE).symm.trans (null_v (Cond.before_iff.mp (hsets _ (List.mem_of_getElem? (i := 12) rfl)))))
  have S_AD := Sta.start (eqv_i (Term.int_eval (1)) (Cond.before_iff.mp (hsets _ (List.mem_of_getElem? (i := 16) rfl)))) (Or.inl (hsets _ (List.mem_of_getElem? (i := 15) rfl)))
  have S_HI := Sta.start (eqv_i (Term.int_eval (0)) (Cond.before_iff.mp (hsets _ (List.mem_of_getElem? (i := 19) rfl)))) (Or.inl (hsets _ (List.mem_of_getElem? (i := 18) rfl)))
  have S_LO := Sta.start (eqv_i (Term.int_eval (8)) (Cond.before_iff.mp (hsets _ (List.mem_of_getElem? (i := 22) rfl)))) (Or.inl (hsets _ (List.mem_of_getElem? (i := 21) rfl)))
  obtain ⟨n, o, h1, h2, h3, _, L, rfl, ⟨rfl, N, _⟩, -, hq⟩ := rm_law l s _ hw tables_1 w_C S_C X_C w_P S_P X_P w_V _ S_V X_V V_V w_CS F_CS X_CS I_CS_coder w_CB _ F_CB V_CB w_PS F_PS X_PS I_PS_coder w_PB _ F_PB V_PB S_AD S_HI S_LO w_OE S_OE X_OE I_OE_value g_CS S_CS nz_CS g_SF S_SF r_SF i0 i1 i2 s.heap s.heap.size (Old.start s) p e ha hc hk s m _ below hf ((Spec.applies_iff_loose hf).mp happ).1 ⟨rfl, State.Warmed39.refl s, rfl, (CHv.start (own_EW s _ hw) (fun p hp => hcalls.1 p hp) (hsets _ (List.mem_of_getElem? (i := 2) rfl)) (ow hw 27 rfl) (ow hw 10 rfl))⟩ trivial
  refine ⟨n, _, h1, h2, h3, hpost _ _ _ _ _ _ ⟨Cond.after_iff.mpr rfl, Cond.after_iff.mpr (eq_i res_at (Term.int_eval (1)) rfl), trivial⟩ ⟨hq.1, hq.2.1, hq.2.2.1, (hq.2.2.2.sift fun y hy => Or.inr (N y hy)).mono (by decide) (by decide)⟩⟩
theorem main_1_1 : Claimed_1_1 := comes_1 fun _ _ _ _ _ _ h hF => ⟨h.1, hF⟩
theorem main_1_2 : Claimed_1_2 := comes_1 fun _ _ _ _ _ _ h hF => ⟨h.2.1, hF⟩
end Jvm.Pilot.@@N@@
namespace Jvm.Pilot.@@N@@
open Jvm Jvm.ClassFile Sem Op Lib Jvm.Free Jvm.Stand Jvm.Pilot.@@N@@.Jvm.D
/-! MADE BY PROGRAM (witnessworld.py) out of the Statement's table words and the real class files: 24 classes; the members and pool entries that the words name. The judged class is class 1, her method 1. -/
namespace start1
open Jvm.ClassFile
def u (s : String) : CpInfo := .utf8 (stringToUtf16 s)
/-- a pool by its gaps: so many unusable entries, then the entry; so many at the end -/
def gap : Nat → List CpInfo → List CpInfo
  | 0, r => r
  | n + 1, r => .unusable :: gap n r
def poolList (es : List (Nat × CpInfo)) (last : Nat) : List CpInfo := es.foldr (fun e r => gap e.1 (e.2 :: r)) (gap last [])
def pool (es : List (Nat × CpInfo)) (last : Nat) : Array CpInfo := ⟨poolList es last⟩
def fileOf (pool : Array CpInfo) (this : Nat) (attrs : Array Attribute := #[]) (ms : Array MethodInfo := #[]) (fl : Nat := 33) (sup : Nat := 0) (ifs : Array Nat := #[]) (fds : Array FieldInfo := #[]) : ClassFile where
  minorVersion := 0
  majorVersion := 65
  constantPool := pool
  accessFlags := fl
  thisClass := this
  superClass := sup
  interfaces := ifs
  fields := fds
  methods := ms
  attributes := attrs
def plain (name : String) (sup : Option ClassId) : Class where
  name := name
  kind := .ordinary
  loader := none
  accessFlags := 33
  super := sup
  interfaces := #[]
  cf := none
  fields := #[]
  methods := #[]
  instanceTypes := #[]
  staticTypes := #[]
  resolved := #[]
  callSites := []
  init := .initialized
  statics := none
  mirror := none

def pool0 : Array CpInfo := pool [(5, u "<init>"), (0, u "()V"), (1, .class_ 10), (1, u "java/lang/Object"), (85, u "clone"), (0, u "()Ljava/lang/Object;")] 26

def k0c0 : Code := { maxStack := 0, maxLocals := 1, code := object_method_1_code, exceptionTable := #[], attributes := #[] }
def k0m0 : Method := { name := "<init>", desc := "()V", sig := { parameters := [], returnType := none }, accessFlags := 1, code := some k0c0 }
def k0m1 : Method := { name := "clone", desc := "()Ljava/lang/Object;", sig := { parameters := [], returnType := some (.object "java/lang/Object") }, accessFlags := 260, code := none }
/-- java/lang/Object -/
def k0 : Class := { plain "java/lang/Object" none with
  accessFlags := 33
  interfaces := #[]
  cf := some (fileOf pool0 8 #[] #[{ accessFlags := 1, nameIndex := 5, descriptorIndex := 6, attributes := #[] }, { accessFlags := 260, nameIndex := 96, descriptorIndex := 97, attributes := #[] }] 33 0 #[] #[])
  fields := #[]
  methods := #[k0m0, k0m1]
  instanceTypes := #[]
  staticTypes := #[]
  resolved := Array.replicate 124 none
  statics := none }

def pool1 : Array CpInfo := pool [(2, .class_ 4), (1, u "java/lang/Object"), (0, u "<init>"), (0, u "()V"), (0, .integer 65535), (0, .methodref 9 10), (0, .class_ 11), (0, .nameAndType 12 13), (0, u "com/example/tidewall/tidewall/ledger/AccountClassByIdPinLaw"), (0, u "cust"), (0, u "()[C"), (0, .methodref 9 15), (0, .nameAndType 16 13), (0, u "prop"), (0, .fieldref 18 19), (0, .class_ 20), (0, .nameAndType 21 22), (0, u "com/example/tidewall/tidewall/ledger/AccountClass"), (0, u "CUSTOMER"), (0, u "Lcom/example/tidewall/tidewall/ledger/AccountClass;"), (0, .fieldref 18 24), (0, .nameAndType 25 22), (0, u "PROPRIETARY"), (0, .class_ 27), (0, u "java/lang/String"), (0, .methodref 26 29), (0, .nameAndType 5 30), (0, u "([C)V"), (0, .integer 2147483647), (0, .methodref 9 33), (0, .nameAndType 34 35), (0, u "custShort"), (0, u "(Z)[C"), (0, .methodref 9 37), (0, .nameAndType 38 35), (0, u "propShort"), (0, .methodref 9 40), (0, .nameAndType 41 42), (0, u "custLong"), (0, u "(CZ)[C"), (0, .methodref 9 44), (0, .nameAndType 45 42), (0, u "propLong"), (0, .methodref 26 47), (0, .nameAndType 48 49), (0, u "valueOf"), (0, u "(C)Ljava/lang/String;"), (0, .methodref 18 51), (0, .nameAndType 52 53), (0, u "byId"), (0, u "(Ljava/lang/String;)Ljava/util/Optional;"), (0, .methodref 55 56), (0, .class_ 57), (0, .nameAndType 58 59), (0, u "java/util/Optional"), (0, u "isPresent"), (0, u "()Z"), (0, .methodref 55 61), (0, .nameAndType 62 63), (0, u "get"), (0, u "()Ljava/lang/Object;"), (2, u "law"), (0, u "(III)Z")] 5

def k1m0 : Method := { name := "<init>", desc := "()V", sig := { parameters := [], returnType := none }, accessFlags := 1, code := none }
def k1c1 : Code := { maxStack := 4, maxLocals := 12, code := code, exceptionTable := #[], attributes := #[] }
def k1m1 : Method := { name := "law", desc := "(III)Z", sig := { parameters := [.int, .int, .int], returnType := some .boolean }, accessFlags := 9, code := some k1c1 }
def k1c2 : Code := { maxStack := 4, maxLocals := 0, code := method_3_code, exceptionTable := #[], attributes := #[] }
def k1m2 : Method := { name := "cust", desc := "()[C", sig := { parameters := [], returnType := some (.array .char) }, accessFlags := 10, code := some k1c2 }
def k1c3 : Code := { maxStack := 4, maxLocals := 0, code := method_4_code, exceptionTable := #[], attributes := #[] }
def k1m3 : Method := { name := "prop", desc := "()[C", sig := { parameters := [], returnType := some (.array .char) }, accessFlags := 10, code := some k1c3 }
def k1c4 : Code := { maxStack := 4, maxLocals := 1, code := method_5_code, exceptionTable := #[], attributes := #[] }
def k1m4 : Method := { name := "custShort", desc := "(Z)[C", sig := { parameters := [.boolean], returnType := some (.array .char) }, accessFlags := 10, code := some k1c4 }
def k1c5 : Code := { maxStack := 4, maxLocals := 1, code := method_6_code, exceptionTable := #[], attributes := #[] }
def k1m5 : Method := { name := "propShort", desc := "(Z)[C", sig := { parameters := [.boolean], returnType := some (.array .char) }, accessFlags := 10, code := some k1c5 }
def k1c6 : Code := { maxStack := 4, maxLocals := 2, code := method_7_code, exceptionTable := #[], attributes := #[] }
def k1m6 : Method := { name := "custLong", desc := "(CZ)[C", sig := { parameters := [.char, .boolean], returnType := some (.array .char) }, accessFlags := 10, code := some k1c6 }
def k1c7 : Code := { maxStack := 4, maxLocals := 2, code := method_8_code, exceptionTable := #[], attributes := #[] }
def k1m7 : Method := { name := "propLong", desc := "(CZ)[C", sig := { parameters := [.char, .boolean], returnType := some (.array .char) }, accessFlags := 10, code := some k1c7 }
/-- com/example/tidewall/tidewall/ledger/AccountClassByIdPinLaw -/
def k1 : Class := { plain "com/example/tidewall/tidewall/ledger/AccountClassByIdPinLaw" (some 0) with
  accessFlags := 49
  interfaces := #[]
  cf := some (fileOf pool1 9 #[] #[{ accessFlags := 1, nameIndex := 5, descriptorIndex := 6, attributes := #[] }, { accessFlags := 9, nameIndex := 66, descriptorIndex := 67, attributes := #[] }, { accessFlags := 10, nameIndex := 12, descriptorIndex := 13, attributes := #[] }, { accessFlags := 10, nameIndex := 16, descriptorIndex := 13, attributes := #[] }, { accessFlags := 10, nameIndex := 34, descriptorIndex := 35, attributes := #[] }, { accessFlags := 10, nameIndex := 38, descriptorIndex := 35, attributes := #[] }, { accessFlags := 10, nameIndex := 41, descriptorIndex := 42, attributes := #[] }, { accessFlags := 10, nameIndex := 45, descriptorIndex := 42, attributes := #[] }] 49 2 #[] #[])
  fields := #[]
  methods := #[k1m0, k1m1, k1m2, k1m3, k1m4, k1m5, k1m6, k1m7]
  instanceTypes := #[]
  staticTypes := #[]
  resolved := Array.replicate 73 none
  statics := none }

def pool2 : Array CpInfo := pool [(1, .class_ 2), (0, u "java/lang/constant/Constable"), (0, .class_ 4), (0, u "java/lang/Object")] 6

/-- java/lang/constant/Constable -/
def k2 : Class := { plain "java/lang/constant/Constable" (some 0) with
  accessFlags := 1537
  interfaces := #[]
  cf := some (fileOf pool2 1 #[] #[] 1537 3 #[] #[])
  fields := #[]
  methods := #[]
  instanceTypes := #[]
  staticTypes := #[]
  resolved := Array.replicate 11 none
  statics := none }

def pool3 : Array CpInfo := pool [(1, .class_ 2), (0, u "java/lang/Comparable"), (0, .class_ 4), (0, u "java/lang/Object")] 7

/-- java/lang/Comparable -/
def k3 : Class := { plain "java/lang/Comparable" (some 0) with
  accessFlags := 1537
  interfaces := #[]
  cf := some (fileOf pool3 1 #[] #[] 1537 3 #[] #[])
  fields := #[]
  methods := #[]
  instanceTypes := #[]
  staticTypes := #[]
  resolved := Array.replicate 12 none
  statics := none }

def pool4 : Array CpInfo := pool [(1, .class_ 2), (0, u "java/io/Serializable"), (0, .class_ 4), (0, u "java/lang/Object")] 2

/-- java/io/Serializable -/
def k4 : Class := { plain "java/io/Serializable" (some 0) with
  accessFlags := 1537
  interfaces := #[]
  cf := some (fileOf pool4 1 #[] #[] 1537 3 #[] #[])
  fields := #[]
  methods := #[]
  instanceTypes := #[]
  staticTypes := #[]
  resolved := Array.replicate 7 none
  statics := none }

def pool5 : Array CpInfo := pool [(2, .class_ 4), (1, u "java/lang/Enum"), (0, u "name"), (0, u "Ljava/lang/String;"), (2, u "ordinal"), (0, u "I"), (1, .class_ 14), (1, u "java/lang/Object"), (4, u "hash"), (86, .class_ 108), (1, u "java/lang/Enum$EnumDesc"), (2, .class_ 112), (0, u "java/lang/constant/Constable"), (0, .class_ 114), (0, u "java/lang/Comparable"), (0, .class_ 116), (0, u "java/io/Serializable")] 87

/-- java/lang/Enum -/
def k5 : Class := { plain "java/lang/Enum" (some 0) with
  accessFlags := 1057
  interfaces := #[2, 3, 4]
  cf := some (fileOf pool5 2 #[.nestMembers #[106]] #[] 1057 12 #[111, 113, 115] #[{ accessFlags := 18, nameIndex := 5, descriptorIndex := 6, attributes := #[] }, { accessFlags := 18, nameIndex := 9, descriptorIndex := 10, attributes := #[] }, { accessFlags := 2, nameIndex := 19, descriptorIndex := 10, attributes := #[] }])
  fields := #[{ name := "name", type := (.object "java/lang/String"), accessFlags := 18, slot := 0, constantValue := 0 }, { name := "ordinal", type := .int, accessFlags := 18, slot := 1, constantValue := 0 }, { name := "hash", type := .int, accessFlags := 2, slot := 2, constantValue := 0 }]
  methods := #[]
  instanceTypes := #[(.object "java/lang/String"), .int, .int]
  staticTypes := #[]
  resolved := Array.replicate 204 none
  statics := none }

def pool6 : Array CpInfo := pool [(1, .class_ 2), (0, u "com/example/tidewall/tidewall/ledger/AccountClass"), (2, u "CUSTOMER"), (0, u "Lcom/example/tidewall/tidewall/ledger/AccountClass;"), (2, u "PROPRIETARY"), (0, .fieldref 1 11), (0, .nameAndType 12 13), (0, u "$VALUES"), (0, u "[Lcom/example/tidewall/tidewall/ledger/AccountClass;"), (0, .methodref 15 16), (0, .class_ 13), (0, .nameAndType 17 18), (0, u "clone"), (0, u "()Ljava/lang/Object;"), (1, .class_ 22), (1, u "java/lang/Enum"), (6, .fieldref 1 30), (0, .nameAndType 31 32), (0, u "id"), (0, u "Ljava/lang/String;"), (0, .methodref 1 34), (0, .nameAndType 35 36), (0, u "values"), (0, u "()[Lcom/example/tidewall/tidewall/ledger/AccountClass;"), (0, .methodref 38 39), (0, .class_ 40), (0, .nameAndType 41 42), (0, u "java/lang/String"), (0, u "equals"), (0, u "(Ljava/lang/Object;)Z"), (0, .methodref 44 45), (0, .class_ 46), (0, .nameAndType 47 48), (0, u "java/util/Optional"), (0, u "of"), (0, u "(Ljava/lang/Object;)Ljava/util/Optional;"), (0, .methodref 44 50), (0, .nameAndType 51 52), (0, u "empty"), (0, u "()Ljava/util/Optional;"), (19, u "byId"), (0, u "(Ljava/lang/String;)Ljava/util/Optional;")] 7

def k6c0 : Code := { maxStack := 1, maxLocals := 0, code := prog_34_method_1_code, exceptionTable := #[], attributes := #[] }
def k6m0 : Method := { name := "values", desc := "()[Lcom/example/tidewall/tidewall/ledger/AccountClass;", sig := { parameters := [], returnType := some (.array (.object "com/example/tidewall/tidewall/ledger/AccountClass")) }, accessFlags := 9, code := some k6c0 }
def k6c1 : Code := { maxStack := 2, maxLocals := 5, code := prog_34_method_5_code, exceptionTable := #[], attributes := #[] }
def k6m1 : Method := { name := "byId", desc := "(Ljava/lang/String;)Ljava/util/Optional;", sig := { parameters := [(.object "java/lang/String")], returnType := some (.object "java/util/Optional") }, accessFlags := 9, code := some k6c1 }
/-- com/example/tidewall/tidewall/ledger/AccountClass -/
def k6 : Class := { plain "com/example/tidewall/tidewall/ledger/AccountClass" (some 5) with
  accessFlags := 16433
  interfaces := #[]
  cf := some (fileOf pool6 1 #[] #[{ accessFlags := 9, nameIndex := 35, descriptorIndex := 36, attributes := #[] }, { accessFlags := 9, nameIndex := 72, descriptorIndex := 73, attributes := #[] }] 16433 20 #[] #[{ accessFlags := 16409, nameIndex := 5, descriptorIndex := 6, attributes := #[] }, { accessFlags := 16409, nameIndex := 9, descriptorIndex := 6, attributes := #[] }, { accessFlags := 18, nameIndex := 31, descriptorIndex := 32, attributes := #[] }, { accessFlags := 4122, nameIndex := 12, descriptorIndex := 13, attributes := #[] }])
  fields := #[{ name := "CUSTOMER", type := (.object "com/example/tidewall/tidewall/ledger/AccountClass"), accessFlags := 16409, slot := 0, constantValue := 0 }, { name := "PROPRIETARY", type := (.object "com/example/tidewall/tidewall/ledger/AccountClass"), accessFlags := 16409, slot := 1, constantValue := 0 }, { name := "id", type := (.object "java/lang/String"), accessFlags := 18, slot := 3, constantValue := 0 }, { name := "$VALUES", type := (.array (.object "com/example/tidewall/tidewall/ledger/AccountClass")), accessFlags := 4122, slot := 2, constantValue := 0 }]
  methods := #[k6m0, k6m1]
  instanceTypes := #[(.object "java/lang/String"), .int, .int, (.object "java/lang/String")]
  staticTypes := #[(.object "com/example/tidewall/tidewall/ledger/AccountClass"), (.object "com/example/tidewall/tidewall/ledger/AccountClass"), (.array (.object "com/example/tidewall/tidewall/ledger/AccountClass"))]
  resolved := Array.replicate 81 none
  statics := some 0 }

def pool7 : Array CpInfo := pool [(2, .class_ 4), (1, u "java/lang/CharSequence"), (42, .class_ 48), (0, u "java/lang/CharSequence$1CodePointIterator"), (10, .class_ 60), (0, u "java/lang/CharSequence$1CharIterator"), (5, .class_ 67), (0, u "java/lang/Object")] 63

/-- java/lang/CharSequence -/
def k7 : Class := { plain "java/lang/CharSequence" (some 0) with
  accessFlags := 1537
  interfaces := #[]
  cf := some (fileOf pool7 2 #[.nestMembers #[47, 59]] #[] 1537 66 #[] #[])
  fields := #[]
  methods := #[]
  instanceTypes := #[]
  staticTypes := #[]
  resolved := Array.replicate 131 none
  statics := none }

def pool8 : Array CpInfo := pool [(1, .class_ 2), (0, u "java/lang/constant/ConstantDesc"), (0, .class_ 4), (0, u "java/lang/Object")] 32

/-- java/lang/constant/ConstantDesc -/
def k8 : Class := { plain "java/lang/constant/ConstantDesc" (some 0) with
  accessFlags := 1537
  interfaces := #[]
  cf := some (fileOf pool8 1 #[] #[] 1537 3 #[] #[])
  fields := #[]
  methods := #[]
  instanceTypes := #[]
  staticTypes := #[]
  resolved := Array.replicate 37 none
  statics := none }

def pool9 : Array CpInfo := pool [(1, .methodref 2 3), (0, .class_ 4), (0, .nameAndType 5 6), (0, u "java/lang/Object"), (0, u "<init>"), (0, u "()V"), (0, .string 8), (0, u ""), (0, .fieldref 10 11), (0, .class_ 12), (0, .nameAndType 13 14), (0, u "java/lang/String"), (0, u "value"), (0, u "[B"), (0, .fieldref 10 16), (0, .nameAndType 17 18), (0, u "coder"), (0, u "B"), (2, u "hash"), (0, u "I"), (2, u "hashIsZero"), (0, u "Z"), (0, .methodref 10 28), (0, .nameAndType 5 29), (0, u "([CIILjava/lang/Void;)V"), (8, .fieldref 10 39), (0, .nameAndType 40 26), (0, u "COMPACT_STRINGS"), (1, .class_ 44), (1, u "java/lang/StringUTF16"), (0, u "compress"), (1, .methodref 42 48), (0, .nameAndType 49 50), (0, u "coderFromArrayLen"), (0, u "([BI)B"), (2, u "toBytes"), (53, .class_ 109), (1, u "java/lang/StringLatin1"), (67, .methodref 42 178), (0, .nameAndType 45 179), (0, u "([CII)[B"), (29, .methodref 10 210), (0, .nameAndType 5 211), (0, u "([BB)V"), (157, u "(C)Z"), (171, .methodref 107 542), (0, .nameAndType 543 544), (0, u "equals"), (0, u "([B[B)Z"), (28, u "(Ljava/lang/Object;)Z"), (1, .class_ 576), (0, u "java/lang/CharSequence"), (22, u "CASE_INSENSITIVE_ORDER"), (0, u "Ljava/util/Comparator;"), (181, u "valueOf"), (0, u "(C)Ljava/lang/String;"), (226, u "([C)V"), (4, .methodref 107 1016), (0, .nameAndType 1017 369), (0, u "canEncode"), (0, .methodref 107 1019), (0, .nameAndType 53 1020), (0, u "(C)[B"), (0, .methodref 42 1019), (79, u "serialPersistentFields"), (0, u "[Ljava/io/ObjectStreamField;"), (0, .class_ 1104), (0, u "java/lang/String$CaseInsensitiveComparator"), (1, .class_ 1107), (0, u "java/io/Serializable"), (0, .class_ 1109), (0, u "java/lang/Comparable"), (0, .class_ 1111), (0, u "java/lang/constant/Constable"), (0, .class_ 1113), (0, u "java/lang/constant/ConstantDesc"), (2, u "serialVersionUID"), (0, u "J"), (3, u "REPL"), (0, u "C"), (2, u "LATIN1"), (1, u "UTF16")] 323

def k9m0 : Method := { name := "<init>", desc := "()V", sig := { parameters := [], returnType := none }, accessFlags := 1, code := none }
def k9c1 : Code := { maxStack := 5, maxLocals := 2, code := jdk_42_method_3_code, exceptionTable := #[], attributes := #[] }
def k9m1 : Method := { name := "<init>", desc := "([C)V", sig := { parameters := [(.array .char)], returnType := none }, accessFlags := 1, code := some k9c1 }
def k9c2 : Code := { maxStack := 2, maxLocals := 3, code := jdk_42_method_66_code, exceptionTable := #[], attributes := #[] }
def k9m2 : Method := { name := "equals", desc := "(Ljava/lang/Object;)Z", sig := { parameters := [(.object "java/lang/Object")], returnType := some .boolean }, accessFlags := 1, code := some k9c2 }
def k9c3 : Code := { maxStack := 4, maxLocals := 1, code := jdk_42_method_139_code, exceptionTable := #[], attributes := #[] }
def k9m3 : Method := { name := "valueOf", desc := "(C)Ljava/lang/String;", sig := { parameters := [.char], returnType := some (.object "java/lang/String") }, accessFlags := 9, code := some k9c3 }
def k9c4 : Code := { maxStack := 4, maxLocals := 6, code := jdk_42_method_149_code, exceptionTable := #[], attributes := #[] }
def k9m4 : Method := { name := "<init>", desc := "([CIILjava/lang/Void;)V", sig := { parameters := [(.array .char), .int, .int, (.object "java/lang/Void")], returnType := none }, accessFlags := 2, code := some k9c4 }
def k9c5 : Code := { maxStack := 2, maxLocals := 3, code := jdk_42_method_151_code, exceptionTable := #[], attributes := #[] }
def k9m5 : Method := { name := "<init>", desc := "([BB)V", sig := { parameters := [(.array .byte), .byte], returnType := none }, accessFlags := 0, code := some k9c5 }
/-- java/lang/String -/
def k9 : Class := { plain "java/lang/String" (some 0) with
  accessFlags := 49
  interfaces := #[4, 3, 7, 2, 8]
  cf := some (fileOf pool9 10 #[.nestMembers #[1103]] #[{ accessFlags := 1, nameIndex := 5, descriptorIndex := 6, attributes := #[] }, { accessFlags := 1, nameIndex := 5, descriptorIndex := 1010, attributes := #[] }, { accessFlags := 1, nameIndex := 543, descriptorIndex := 573, attributes := #[] }, { accessFlags := 9, nameIndex := 782, descriptorIndex := 783, attributes := #[] }, { accessFlags := 2, nameIndex := 5, descriptorIndex := 29, attributes := #[] }, { accessFlags := 0, nameIndex := 5, descriptorIndex := 211, attributes := #[] }] 49 2 #[1106, 1108, 575, 1110, 1112] #[{ accessFlags := 18, nameIndex := 13, descriptorIndex := 14, attributes := #[] }, { accessFlags := 18, nameIndex := 17, descriptorIndex := 18, attributes := #[] }, { accessFlags := 2, nameIndex := 21, descriptorIndex := 22, attributes := #[] }, { accessFlags := 2, nameIndex := 25, descriptorIndex := 26, attributes := #[] }, { accessFlags := 26, nameIndex := 1116, descriptorIndex := 1117, attributes := #[] }, { accessFlags := 24, nameIndex := 40, descriptorIndex := 26, attributes := #[] }, { accessFlags := 26, nameIndex := 1101, descriptorIndex := 1102, attributes := #[] }, { accessFlags := 26, nameIndex := 1121, descriptorIndex := 1122, attributes := #[] }, { accessFlags := 25, nameIndex := 599, descriptorIndex := 600, attributes := #[] }, { accessFlags := 24, nameIndex := 1125, descriptorIndex := 18, attributes := #[] }, { accessFlags := 24, nameIndex := 1127, descriptorIndex := 18, attributes := #[] }])
  fields := #[{ name := "value", type := (.array .byte), accessFlags := 18, slot := 0, constantValue := 0 }, { name := "coder", type := .byte, accessFlags := 18, slot := 1, constantValue := 0 }, { name := "hash", type := .int, accessFlags := 2, slot := 2, constantValue := 0 }, { name := "hashIsZero", type := .boolean, accessFlags := 2, slot := 3, constantValue := 0 }, { name := "serialVersionUID", type := .long, accessFlags := 26, slot := 0, constantValue := 0 }, { name := "COMPACT_STRINGS", type := .boolean, accessFlags := 24, slot := 1, constantValue := 0 }, { name := "serialPersistentFields", type := (.array (.object "java/io/ObjectStreamField")), accessFlags := 26, slot := 2, constantValue := 0 }, { name := "REPL", type := .char, accessFlags := 26, slot := 3, constantValue := 0 }, { name := "CASE_INSENSITIVE_ORDER", type := (.object "java/util/Comparator"), accessFlags := 25, slot := 4, constantValue := 0 }, { name := "LATIN1", type := .byte, accessFlags := 24, slot := 5, constantValue := 0 }, { name := "UTF16", type := .byte, accessFlags := 24, slot := 6, constantValue := 0 }]
  methods := #[k9m0, k9m1, k9m2, k9m3, k9m4, k9m5]
  instanceTypes := #[(.array .byte), .byte, .int, .boolean]
  staticTypes := #[.long, .boolean, (.array (.object "java/io/ObjectStreamField")), .char, (.object "java/util/Comparator"), .byte, .byte]
  resolved := Array.replicate 1451 none
  statics := some 1 }

def pool10 : Array CpInfo := pool [(6, .class_ 8), (1, u "java/lang/Object"), (0, u "<init>"), (0, u "()V"), (0, .methodref 12 13), (0, .class_ 14), (0, .nameAndType 15 16), (0, u "java/lang/StringUTF16"), (0, u "newBytesLength"), (0, u "(I)I"), (3, .integer 1073741823), (23, .fieldref 12 45), (0, .nameAndType 46 47), (0, u "$assertionsDisabled"), (0, u "Z"), (11, .fieldref 12 60), (0, .nameAndType 61 62), (0, u "HI_BYTE_SHIFT"), (0, u "I"), (0, .fieldref 12 64), (0, .nameAndType 65 62), (0, u "LO_BYTE_SHIFT"), (5, .methodref 12 72), (0, .nameAndType 73 74), (0, u "getChar"), (0, u "([BI)C"), (32, .methodref 12 108), (0, .nameAndType 109 110), (0, u "newBytesFor"), (0, u "(I)[B"), (0, .methodref 12 112), (0, .nameAndType 113 114), (0, u "putChar"), (0, u "([BII)V"), (0, .methodref 12 116), (0, .nameAndType 117 118), (0, u "compress"), (0, u "([CI[BII)I"), (0, .methodref 12 120), (0, .nameAndType 121 122), (0, u "toBytes"), (0, u "([CII)[B"), (138, u "coderFromArrayLen"), (0, u "([BI)B"), (106, .class_ 371), (1, u "java/lang/StringUTF16$LinesSpliterator"), (58, u "MAX_LENGTH"), (44, u "(C)[B"), (151, .class_ 628), (0, u "java/lang/StringUTF16$CodePointsSpliterator"), (0, .class_ 630), (0, u "java/lang/StringUTF16$CharsSpliterator")] 4

def k10m0 : Method := { name := "<init>", desc := "()V", sig := { parameters := [], returnType := none }, accessFlags := 0, code := none }
def k10c1 : Code := { maxStack := 1, maxLocals := 1, code := jdk_52_method_2_code, exceptionTable := #[], attributes := #[] }
def k10m1 : Method := { name := "newBytesFor", desc := "(I)[B", sig := { parameters := [.int], returnType := some (.array .byte) }, accessFlags := 9, code := some k10c1 }
def k10c2 : Code := { maxStack := 4, maxLocals := 1, code := jdk_52_method_3_code, exceptionTable := #[], attributes := #[] }
def k10m2 : Method := { name := "newBytesLength", desc := "(I)I", sig := { parameters := [.int], returnType := some .int }, accessFlags := 9, code := some k10c2 }
def k10c3 : Code := { maxStack := 4, maxLocals := 3, code := jdk_52_method_4_code, exceptionTable := #[], attributes := #[] }
def k10m3 : Method := { name := "putChar", desc := "([BII)V", sig := { parameters := [(.array .byte), .int, .int], returnType := none }, accessFlags := 8, code := some k10c3 }
def k10c4 : Code := { maxStack := 3, maxLocals := 2, code := jdk_52_method_5_code, exceptionTable := #[], attributes := #[] }
def k10m4 : Method := { name := "getChar", desc := "([BI)C", sig := { parameters := [(.array .byte), .int], returnType := some .char }, accessFlags := 8, code := some k10c4 }
def k10c5 : Code := { maxStack := 4, maxLocals := 5, code := jdk_52_method_14_code, exceptionTable := #[], attributes := #[] }
def k10m5 : Method := { name := "toBytes", desc := "([CII)[B", sig := { parameters := [(.array .char), .int, .int], returnType := some (.array .byte) }, accessFlags := 9, code := some k10c5 }
def k10c6 : Code := { maxStack := 2, maxLocals := 2, code := jdk_52_method_15_code, exceptionTable := #[], attributes := #[] }
def k10m6 : Method := { name := "coderFromArrayLen", desc := "([BI)B", sig := { parameters := [(.array .byte), .int], returnType := some .byte }, accessFlags := 8, code := some k10c6 }
def k10c7 : Code := { maxStack := 5, maxLocals := 6, code := jdk_52_method_16_code, exceptionTable := #[], attributes := #[] }
def k10m7 : Method := { name := "compress", desc := "([CII)[B", sig := { parameters := [(.array .char), .int, .int], returnType := some (.array .byte) }, accessFlags := 9, code := some k10c7 }
def k10c8 : Code := { maxStack := 3, maxLocals := 7, code := jdk_52_method_21_code, exceptionTable := #[], attributes := #[] }
def k10m8 : Method := { name := "compress", desc := "([CI[BII)I", sig := { parameters := [(.array .char), .int, (.array .byte), .int, .int], returnType := some .int }, accessFlags := 9, code := some k10c8 }
def k10c9 : Code := { maxStack := 3, maxLocals := 2, code := jdk_52_method_24_code, exceptionTable := #[], attributes := #[] }
def k10m9 : Method := { name := "toBytes", desc := "(C)[B", sig := { parameters := [.char], returnType := some (.array .byte) }, accessFlags := 9, code := some k10c9 }
/-- java/lang/StringUTF16 -/
def k10 : Class := { plain "java/lang/StringUTF16" (some 0) with
  accessFlags := 48
  interfaces := #[]
  cf := some (fileOf pool10 12 #[.nestMembers #[627, 629, 369]] #[{ accessFlags := 0, nameIndex := 9, descriptorIndex := 10, attributes := #[] }, { accessFlags := 9, nameIndex := 109, descriptorIndex := 110, attributes := #[] }, { accessFlags := 9, nameIndex := 15, descriptorIndex := 16, attributes := #[] }, { accessFlags := 8, nameIndex := 113, descriptorIndex := 114, attributes := #[] }, { accessFlags := 8, nameIndex := 73, descriptorIndex := 74, attributes := #[] }, { accessFlags := 9, nameIndex := 121, descriptorIndex := 122, attributes := #[] }, { accessFlags := 8, nameIndex := 261, descriptorIndex := 262, attributes := #[] }, { accessFlags := 9, nameIndex := 117, descriptorIndex := 122, attributes := #[] }, { accessFlags := 9, nameIndex := 117, descriptorIndex := 118, attributes := #[] }, { accessFlags := 9, nameIndex := 121, descriptorIndex := 475, attributes := #[] }] 48 6 #[] #[{ accessFlags := 26, nameIndex := 61, descriptorIndex := 62, attributes := #[] }, { accessFlags := 26, nameIndex := 65, descriptorIndex := 62, attributes := #[] }, { accessFlags := 24, nameIndex := 430, descriptorIndex := 62, attributes := #[] }, { accessFlags := 4120, nameIndex := 46, descriptorIndex := 47, attributes := #[] }])
  fields := #[{ name := "HI_BYTE_SHIFT", type := .int, accessFlags := 26, slot := 0, constantValue := 0 }, { name := "LO_BYTE_SHIFT", type := .int, accessFlags := 26, slot := 1, constantValue := 0 }, { name := "MAX_LENGTH", type := .int, accessFlags := 24, slot := 2, constantValue := 0 }, { name := "$assertionsDisabled", type := .boolean, accessFlags := 4120, slot := 3, constantValue := 0 }]
  methods := #[k10m0, k10m1, k10m2, k10m3, k10m4, k10m5, k10m6, k10m7, k10m8, k10m9]
  instanceTypes := #[]
  staticTypes := #[.int, .int, .int, .boolean]
  resolved := Array.replicate 635 none
  statics := some 2 }

def pool11 : Array CpInfo := pool [(1, .class_ 2), (0, u "java/lang/Cloneable"), (0, .class_ 4), (0, u "java/lang/Object")] 2

/-- java/lang/Cloneable -/
def k11 : Class := { plain "java/lang/Cloneable" (some 0) with
  accessFlags := 1537
  interfaces := #[]
  cf := some (fileOf pool11 1 #[] #[] 1537 3 #[] #[])
  fields := #[]
  methods := #[]
  instanceTypes := #[]
  staticTypes := #[]
  resolved := Array.replicate 7 none
  statics := none }

def pool12 : Array CpInfo := pool [(4, .class_ 6), (1, u "java/lang/Object"), (0, u "<init>"), (0, u "()V"), (5, .class_ 16), (1, u "java/lang/StringLatin1"), (73, u "canEncode"), (14, u "(C)Z"), (15, u "$assertionsDisabled"), (0, u "Z"), (98, .class_ 223), (1, u "java/lang/StringLatin1$LinesSpliterator"), (57, u "equals"), (0, u "([B[B)Z"), (97, u "toBytes"), (1, u "(C)[B"), (7, .class_ 391), (0, u "java/lang/StringLatin1$CharsSpliterator")] 3

def k12m0 : Method := { name := "<init>", desc := "()V", sig := { parameters := [], returnType := none }, accessFlags := 0, code := none }
def k12c1 : Code := { maxStack := 2, maxLocals := 1, code := jdk_43_method_3_code, exceptionTable := #[], attributes := #[] }
def k12m1 : Method := { name := "canEncode", desc := "(C)Z", sig := { parameters := [.char], returnType := some .boolean }, accessFlags := 9, code := some k12c1 }
def k12c2 : Code := { maxStack := 3, maxLocals := 3, code := jdk_43_method_13_code, exceptionTable := #[], attributes := #[] }
def k12m2 : Method := { name := "equals", desc := "([B[B)Z", sig := { parameters := [(.array .byte), (.array .byte)], returnType := some .boolean }, accessFlags := 9, code := some k12c2 }
def k12c3 : Code := { maxStack := 4, maxLocals := 1, code := jdk_43_method_46_code, exceptionTable := #[], attributes := #[] }
def k12m3 : Method := { name := "toBytes", desc := "(C)[B", sig := { parameters := [.char], returnType := some (.array .byte) }, accessFlags := 9, code := some k12c3 }
/-- java/lang/StringLatin1 -/
def k12 : Class := { plain "java/lang/StringLatin1" (some 0) with
  accessFlags := 48
  interfaces := #[]
  cf := some (fileOf pool12 14 #[.nestMembers #[390, 221]] #[{ accessFlags := 0, nameIndex := 7, descriptorIndex := 8, attributes := #[] }, { accessFlags := 9, nameIndex := 90, descriptorIndex := 105, attributes := #[] }, { accessFlags := 9, nameIndex := 281, descriptorIndex := 282, attributes := #[] }, { accessFlags := 9, nameIndex := 380, descriptorIndex := 382, attributes := #[] }] 48 4 #[] #[{ accessFlags := 4120, nameIndex := 121, descriptorIndex := 122, attributes := #[] }])
  fields := #[{ name := "$assertionsDisabled", type := .boolean, accessFlags := 4120, slot := 0, constantValue := 0 }]
  methods := #[k12m0, k12m1, k12m2, k12m3]
  instanceTypes := #[]
  staticTypes := #[.boolean]
  resolved := Array.replicate 395 none
  statics := none }

def pool13 : Array CpInfo := pool [(1, .fieldref 2 3), (0, .class_ 4), (0, .nameAndType 5 6), (0, u "java/util/Optional"), (0, u "EMPTY"), (0, u "Ljava/util/Optional;"), (0, .methodref 8 9), (0, .class_ 10), (0, .nameAndType 11 12), (0, u "java/lang/Object"), (0, u "<init>"), (0, u "()V"), (0, .fieldref 2 14), (0, .nameAndType 15 16), (0, u "value"), (0, u "Ljava/lang/Object;"), (0, .methodref 18 19), (0, .class_ 20), (0, .nameAndType 21 22), (0, u "java/util/Objects"), (0, u "requireNonNull"), (0, u "(Ljava/lang/Object;)Ljava/lang/Object;"), (0, .methodref 2 24), (0, .nameAndType 11 25), (0, u "(Ljava/lang/Object;)V"), (20, u "()Z"), (8, u "empty"), (0, u "()Ljava/util/Optional;"), (8, u "(Ljava/lang/Object;)Ljava/util/Optional;"), (2, u "isPresent"), (4, u "get"), (0, u "()Ljava/lang/Object;"), (7, u "of")] 104

def k13c0 : Code := { maxStack := 1, maxLocals := 1, code := jdk_32_method_1_code, exceptionTable := #[], attributes := #[] }
def k13m0 : Method := { name := "empty", desc := "()Ljava/util/Optional;", sig := { parameters := [], returnType := some (.object "java/util/Optional") }, accessFlags := 9, code := some k13c0 }
def k13c1 : Code := { maxStack := 2, maxLocals := 2, code := jdk_32_method_2_code, exceptionTable := #[], attributes := #[] }
def k13m1 : Method := { name := "<init>", desc := "(Ljava/lang/Object;)V", sig := { parameters := [(.object "java/lang/Object")], returnType := none }, accessFlags := 2, code := some k13c1 }
def k13c2 : Code := { maxStack := 3, maxLocals := 1, code := jdk_32_method_3_code, exceptionTable := #[], attributes := #[] }
def k13m2 : Method := { name := "of", desc := "(Ljava/lang/Object;)Ljava/util/Optional;", sig := { parameters := [(.object "java/lang/Object")], returnType := some (.object "java/util/Optional") }, accessFlags := 9, code := some k13c2 }
def k13c3 : Code := { maxStack := 3, maxLocals := 1, code := jdk_32_method_5_code, exceptionTable := #[], attributes := #[] }
def k13m3 : Method := { name := "get", desc := "()Ljava/lang/Object;", sig := { parameters := [], returnType := some (.object "java/lang/Object") }, accessFlags := 1, code := some k13c3 }
def k13c4 : Code := { maxStack := 1, maxLocals := 1, code := jdk_32_method_6_code, exceptionTable := #[], attributes := #[] }
def k13m4 : Method := { name := "isPresent", desc := "()Z", sig := { parameters := [], returnType := some .boolean }, accessFlags := 1, code := some k13c4 }
/-- java/util/Optional -/
def k13 : Class := { plain "java/util/Optional" (some 0) with
  accessFlags := 49
  interfaces := #[]
  cf := some (fileOf pool13 2 #[] #[{ accessFlags := 9, nameIndex := 55, descriptorIndex := 56, attributes := #[] }, { accessFlags := 2, nameIndex := 11, descriptorIndex := 25, attributes := #[] }, { accessFlags := 9, nameIndex := 82, descriptorIndex := 65, attributes := #[] }, { accessFlags := 1, nameIndex := 73, descriptorIndex := 74, attributes := #[] }, { accessFlags := 1, nameIndex := 68, descriptorIndex := 46, attributes := #[] }] 49 8 #[] #[{ accessFlags := 26, nameIndex := 5, descriptorIndex := 6, attributes := #[] }, { accessFlags := 18, nameIndex := 15, descriptorIndex := 16, attributes := #[] }])
  fields := #[{ name := "EMPTY", type := (.object "java/util/Optional"), accessFlags := 26, slot := 0, constantValue := 0 }, { name := "value", type := (.object "java/lang/Object"), accessFlags := 18, slot := 0, constantValue := 0 }]
  methods := #[k13m0, k13m1, k13m2, k13m3, k13m4]
  instanceTypes := #[(.object "java/lang/Object")]
  staticTypes := #[(.object "java/util/Optional")]
  resolved := Array.replicate 187 none
  statics := some 3 }

def pool14 : Array CpInfo := pool [(2, .class_ 4), (1, u "java/lang/Object"), (0, u "<init>"), (0, u "()V"), (35, .class_ 44), (1, u "java/util/Objects"), (0, u "requireNonNull"), (0, u "(Ljava/lang/Object;)Ljava/lang/Object;")] 137

def k14m0 : Method := { name := "<init>", desc := "()V", sig := { parameters := [], returnType := none }, accessFlags := 2, code := none }
def k14c1 : Code := { maxStack := 2, maxLocals := 1, code := jdk_31_method_10_code, exceptionTable := #[], attributes := #[] }
def k14m1 : Method := { name := "requireNonNull", desc := "(Ljava/lang/Object;)Ljava/lang/Object;", sig := { parameters := [(.object "java/lang/Object")], returnType := some (.object "java/lang/Object") }, accessFlags := 9, code := some k14c1 }
/-- java/util/Objects -/
def k14 : Class := { plain "java/util/Objects" (some 0) with
  accessFlags := 49
  interfaces := #[]
  cf := some (fileOf pool14 42 #[] #[{ accessFlags := 2, nameIndex := 5, descriptorIndex := 6, attributes := #[] }, { accessFlags := 9, nameIndex := 45, descriptorIndex := 46, attributes := #[] }] 49 2 #[] #[])
  fields := #[]
  methods := #[k14m0, k14m1]
  instanceTypes := #[]
  staticTypes := #[]
  resolved := Array.replicate 184 none
  statics := none }

def pool15 : Array CpInfo := pool [(2, .class_ 4), (1, u "java/lang/Object"), (0, u "<init>"), (0, u "()V"), (17, .class_ 26), (1, u "jdk/internal/util/Preconditions"), (28, .class_ 56), (0, u "jdk/internal/util/Preconditions$4"), (57, .class_ 115), (0, u "jdk/internal/util/Preconditions$1"), (7, u "SIOOBE_FORMATTER"), (0, u "Ljava/util/function/BiFunction;"), (0, .class_ 126), (0, u "jdk/internal/util/Preconditions$2"), (3, u "AIOOBE_FORMATTER"), (0, .class_ 132), (0, u "jdk/internal/util/Preconditions$3"), (3, u "IOOBE_FORMATTER")] 57

def k15m0 : Method := { name := "<init>", desc := "()V", sig := { parameters := [], returnType := none }, accessFlags := 1, code := none }
/-- jdk/internal/util/Preconditions -/
def k15 : Class := { plain "jdk/internal/util/Preconditions" (some 0) with
  accessFlags := 33
  interfaces := #[]
  cf := some (fileOf pool15 24 #[.nestMembers #[55, 131, 125, 114]] #[{ accessFlags := 1, nameIndex := 5, descriptorIndex := 6, attributes := #[] }] 33 2 #[] #[{ accessFlags := 25, nameIndex := 123, descriptorIndex := 124, attributes := #[] }, { accessFlags := 25, nameIndex := 130, descriptorIndex := 124, attributes := #[] }, { accessFlags := 25, nameIndex := 136, descriptorIndex := 124, attributes := #[] }])
  fields := #[{ name := "SIOOBE_FORMATTER", type := (.object "java/util/function/BiFunction"), accessFlags := 25, slot := 0, constantValue := 0 }, { name := "AIOOBE_FORMATTER", type := (.object "java/util/function/BiFunction"), accessFlags := 25, slot := 1, constantValue := 0 }, { name := "IOOBE_FORMATTER", type := (.object "java/util/function/BiFunction"), accessFlags := 25, slot := 2, constantValue := 0 }]
  methods := #[k15m0]
  instanceTypes := #[]
  staticTypes := #[(.object "java/util/function/BiFunction"), (.object "java/util/function/BiFunction"), (.object "java/util/function/BiFunction")]
  resolved := Array.replicate 194 none
  statics := some 4 }

def pool16 : Array CpInfo := pool [(9, u "<init>"), (6, .class_ 18), (1, u "java/lang/Object"), (0, u "()V"), (1, .class_ 23), (1, u "jdk/internal/util/ArraysSupport"), (0, u "LOG2_ARRAY_LONG_INDEX_SCALE"), (0, u "I"), (2, u "U"), (0, u "Ljdk/internal/misc/Unsafe;"), (8, u "BIG_ENDIAN"), (0, u "Z"), (8, u "LOG2_BYTE_BIT_SIZE"), (4, u "LOG2_ARRAY_INT_INDEX_SCALE"), (54, u "JLA"), (0, u "Ljdk/internal/access/JavaLangAccess;"), (11, u "LOG2_ARRAY_BOOLEAN_INDEX_SCALE"), (9, u "LOG2_ARRAY_BYTE_INDEX_SCALE"), (5, u "LOG2_ARRAY_CHAR_INDEX_SCALE"), (5, u "LOG2_ARRAY_SHORT_INDEX_SCALE"), (18, u "LOG2_ARRAY_FLOAT_INDEX_SCALE"), (24, u "LOG2_ARRAY_DOUBLE_INDEX_SCALE"), (89, u "T_BOOLEAN"), (2, u "T_CHAR"), (1, u "T_FLOAT"), (1, u "T_DOUBLE"), (1, u "T_BYTE"), (1, u "T_SHORT"), (1, u "T_INT"), (1, u "T_LONG"), (1, u "SOFT_MAX_ARRAY_LENGTH")] 83

def k16m0 : Method := { name := "<init>", desc := "()V", sig := { parameters := [], returnType := none }, accessFlags := 2, code := none }
/-- jdk/internal/util/ArraysSupport -/
def k16 : Class := { plain "jdk/internal/util/ArraysSupport" (some 0) with
  accessFlags := 33
  interfaces := #[]
  cf := some (fileOf pool16 21 #[] #[{ accessFlags := 2, nameIndex := 9, descriptorIndex := 19, attributes := #[] }] 33 16 #[] #[{ accessFlags := 24, nameIndex := 28, descriptorIndex := 29, attributes := #[] }, { accessFlags := 26, nameIndex := 38, descriptorIndex := 39, attributes := #[] }, { accessFlags := 25, nameIndex := 121, descriptorIndex := 25, attributes := #[] }, { accessFlags := 25, nameIndex := 131, descriptorIndex := 25, attributes := #[] }, { accessFlags := 25, nameIndex := 137, descriptorIndex := 25, attributes := #[] }, { accessFlags := 25, nameIndex := 143, descriptorIndex := 25, attributes := #[] }, { accessFlags := 25, nameIndex := 53, descriptorIndex := 25, attributes := #[] }, { accessFlags := 25, nameIndex := 24, descriptorIndex := 25, attributes := #[] }, { accessFlags := 25, nameIndex := 162, descriptorIndex := 25, attributes := #[] }, { accessFlags := 25, nameIndex := 187, descriptorIndex := 25, attributes := #[] }, { accessFlags := 26, nameIndex := 48, descriptorIndex := 25, attributes := #[] }, { accessFlags := 25, nameIndex := 277, descriptorIndex := 25, attributes := #[] }, { accessFlags := 25, nameIndex := 280, descriptorIndex := 25, attributes := #[] }, { accessFlags := 25, nameIndex := 282, descriptorIndex := 25, attributes := #[] }, { accessFlags := 25, nameIndex := 284, descriptorIndex := 25, attributes := #[] }, { accessFlags := 25, nameIndex := 286, descriptorIndex := 25, attributes := #[] }, { accessFlags := 25, nameIndex := 288, descriptorIndex := 25, attributes := #[] }, { accessFlags := 25, nameIndex := 290, descriptorIndex := 25, attributes := #[] }, { accessFlags := 25, nameIndex := 292, descriptorIndex := 25, attributes := #[] }, { accessFlags := 26, nameIndex := 108, descriptorIndex := 109, attributes := #[] }, { accessFlags := 25, nameIndex := 294, descriptorIndex := 25, attributes := #[] }])
  fields := #[{ name := "U", type := (.object "jdk/internal/misc/Unsafe"), accessFlags := 24, slot := 0, constantValue := 0 }, { name := "BIG_ENDIAN", type := .boolean, accessFlags := 26, slot := 1, constantValue := 0 }, { name := "LOG2_ARRAY_BOOLEAN_INDEX_SCALE", type := .int, accessFlags := 25, slot := 2, constantValue := 0 }, { name := "LOG2_ARRAY_BYTE_INDEX_SCALE", type := .int, accessFlags := 25, slot := 3, constantValue := 0 }, { name := "LOG2_ARRAY_CHAR_INDEX_SCALE", type := .int, accessFlags := 25, slot := 4, constantValue := 0 }, { name := "LOG2_ARRAY_SHORT_INDEX_SCALE", type := .int, accessFlags := 25, slot := 5, constantValue := 0 }, { name := "LOG2_ARRAY_INT_INDEX_SCALE", type := .int, accessFlags := 25, slot := 6, constantValue := 0 }, { name := "LOG2_ARRAY_LONG_INDEX_SCALE", type := .int, accessFlags := 25, slot := 7, constantValue := 0 }, { name := "LOG2_ARRAY_FLOAT_INDEX_SCALE", type := .int, accessFlags := 25, slot := 8, constantValue := 0 }, { name := "LOG2_ARRAY_DOUBLE_INDEX_SCALE", type := .int, accessFlags := 25, slot := 9, constantValue := 0 }, { name := "LOG2_BYTE_BIT_SIZE", type := .int, accessFlags := 26, slot := 10, constantValue := 0 }, { name := "T_BOOLEAN", type := .int, accessFlags := 25, slot := 11, constantValue := 0 }, { name := "T_CHAR", type := .int, accessFlags := 25, slot := 12, constantValue := 0 }, { name := "T_FLOAT", type := .int, accessFlags := 25, slot := 13, constantValue := 0 }, { name := "T_DOUBLE", type := .int, accessFlags := 25, slot := 14, constantValue := 0 }, { name := "T_BYTE", type := .int, accessFlags := 25, slot := 15, constantValue := 0 }, { name := "T_SHORT", type := .int, accessFlags := 25, slot := 16, constantValue := 0 }, { name := "T_INT", type := .int, accessFlags := 25, slot := 17, constantValue := 0 }, { name := "T_LONG", type := .int, accessFlags := 25, slot := 18, constantValue := 0 }, { name := "JLA", type := (.object "jdk/internal/access/JavaLangAccess"), accessFlags := 26, slot := 19, constantValue := 0 }, { name := "SOFT_MAX_ARRAY_LENGTH", type := .int, accessFlags := 25, slot := 20, constantValue := 0 }]
  methods := #[k16m0]
  instanceTypes := #[]
  staticTypes := #[(.object "jdk/internal/misc/Unsafe"), .boolean, .int, .int, .int, .int, .int, .int, .int, .int, .int, .int, .int, .int, .int, .int, .int, .int, .int, (.object "jdk/internal/access/JavaLangAccess"), .int]
  resolved := Array.replicate 378 none
  statics := none }

/-- the primitive byte -/
def k17 : Class := { plain "byte" none with kind := .primitive 'B', accessFlags := 0x411 }
/-- [B -/
def k18 : Class := { plain "[B" (some 0) with kind := .array 17 .byte, interfaces := #[11, 4], accessFlags := 1041 }

/-- the primitive char -/
def k19 : Class := { plain "char" none with kind := .primitive 'C', accessFlags := 0x411 }
/-- [C -/
def k20 : Class := { plain "[C" (some 0) with kind := .array 19 .char, interfaces := #[11, 4], accessFlags := 1041 }

/-- the primitive int -/
def k21 : Class := { plain "int" none with kind := .primitive 'I', accessFlags := 0x411 }
/-- [I -/
def k22 : Class := { plain "[I" (some 0) with kind := .array 21 .int, interfaces := #[11, 4], accessFlags := 1041 }

/-- [Lcom/example/tidewall/tidewall/ledger/AccountClass; -/
def k23 : Class := { plain "[Lcom/example/tidewall/tidewall/ledger/AccountClass;" (some 0) with kind := .array 6 (.object "com/example/tidewall/tidewall/ledger/AccountClass"), interfaces := #[11, 4], accessFlags := 1041 }

def heap : Heap := #[{ cls := 6, slots := #[.ref 10, .ref 11, .ref 5], vm := .statics 6 },
  { cls := 9, slots := #[.long 0, .int 1, .null, .int 0, .null, .int 0, .int 0], vm := .statics 9 },
  { cls := 10, slots := #[.int 0, .int 8, .int 0, .int 1], vm := .statics 10 },
  { cls := 13, slots := #[.ref 12], vm := .statics 13 },
  { cls := 15, slots := #[.null, .null, .null], vm := .statics 15 },
  { cls := 23, slots := #[.ref 10, .ref 11], vm := .none },
  { cls := 18, slots := #[.int 99, .int 117, .int 115, .int 116, .int 111, .int 109, .int 101, .int 114], vm := .none },
  { cls := 18, slots := #[.int 112, .int 114, .int 111, .int 112, .int 114, .int 105, .int 101, .int 116, .int 97, .int 114, .int 121], vm := .none },
  { cls := 9, slots := #[.ref 6, .int 0, .int 0, .int 0], vm := .none },
  { cls := 9, slots := #[.ref 7, .int 0, .int 0, .int 0], vm := .none },
  { cls := 6, slots := #[.null, .int 0, .int 0, .ref 8], vm := .none },
  { cls := 6, slots := #[.null, .int 0, .int 0, .ref 9], vm := .none },
  { cls := 13, slots := #[.null], vm := .none }]
def classes : Array Class := #[k0, k1, k2, k3, k4, k5, k6, k7, k8, k9, k10, k11, k12, k13, k14, k15, k16, k17, k18, k19, k20, k21, k22, k23]
def interned : List (Array UInt16 × Addr) := []
def slotsUsed : Nat := 56
def theMethod : MethodId := ⟨1, 1⟩
def args0 : Array Value := #[.int 5, .int 6, .int 7]
def aboutOver (below : List Frame) : State where
  vm := { classes := classes, interned := interned.toArray }
  heap := heap
  slotsUsed := slotsUsed
  threads := #[{ frames := .invoking theMethod args0 :: below }]
def below0 : List Frame := [.native { method := ⟨0, 0⟩, args := #[] }]
def about1 : State := aboutOver below0
def p0 : Program := .bare "" "" ""
def e0 : Env := launch0.env 0 0 0
theorem w_frames : about1.frames = Frame.invoking theMethod args0 :: below0 := rfl
set_option maxRecDepth 65536 in
theorem w_args : argsFit about1.vm theMethod args0 = true := by decide +kernel
set_option maxRecDepth 65536 in
theorem w_heap : heapFits about1 = true := by decide +kernel
set_option maxRecDepth 65536 in
theorem w_runnable : about1.curStatus? = some .runnable := by decide +kernel
set_option maxRecDepth 65536 in
theorem w_alone : about1.alone = true := by decide +kernel
set_option maxRecDepth 65536 in
theorem w_named : about1.methodNamed? x = some theMethod := by decide +kernel
set_option maxRecDepth 65536 in
theorem w_hears : about1.hears theMethod below0 = true := by decide +kernel
set_option maxRecDepth 65536 in
theorem w_ripe : about1.ripe theMethod args0 below0 = true := by decide +kernel
theorem w_running : about1.status = .running := rfl
set_option maxRecDepth 65536 in
theorem w_room : about1.hasRoom e0.platform room_1 = true :=
  launch0.hasRoom_least _ room_1 (by decide +kernel) (by decide +kernel) (by decide +kernel) (by decide +kernel) (by decide +kernel) (by decide +kernel)
theorem allAtoms_all (ts : List Jvm.Cond) (a : Array Jvm.Value) (st : Jvm.State) : (allAtoms ts).before a st = ts.all (fun c => c.before a st) := by
  induction ts with
  | nil => rfl
  | cons c t ih =>
    show (Jvm.Cond.and c (allAtoms t)).before a st = _
    rw [Jvm.Cond.before_and, ih, List.all_cons]
def words1 : List Jvm.Cond := Jvm.Cond.code x code maxLocals ret :: tables_1
/-- a 'code' word, met by the world's own term for the bytes: nothing is compared byte by byte -/
theorem code_word {y : MethodName} {bytes : ByteArray} {mx : Nat} {rt : Option FieldType} {a : Array Value} {s : State} {m : MethodId} {meth : Method} {c : Code} (h1 : s.methodNamed? y = some m) (h2 : s.vm.method? m = some meth) (h3 : meth.code = some c) (h4 : c.code = bytes)
    (h5 : (c.maxLocals == mx && c.exceptionTable.isEmpty && decide (c.maxStack ≤ mostOperands) && decide (meth.sig.returnType = rt) && !meth.locks && decide (parseMethodDescriptor y.desc = some meth.sig)) = true) : (Jvm.Cond.code y bytes mx rt).before a s = true := by
  simp only [Bool.and_eq_true, beq_iff_eq, Bool.not_eq_true', decide_eq_true_eq] at h5
  obtain ⟨⟨⟨⟨⟨g1, g2⟩, g3⟩, g4⟩, g5⟩, g6⟩ := h5
  simp [Cond.before, Cond.holds, Cond.value, h1, h2, h3, h4, g1, g2, g3, g4, g5, g6]
def isCode : Jvm.Cond → Bool
  | .code _ _ _ _ => true
  | _ => false
theorem all_split {L : List Jvm.Cond} {P : Jvm.Cond → Bool} (h1 : L.all (fun c => isCode c || P c) = true) (h2 : ∀ c ∈ L.filter isCode, P c = true) : L.all P = true := by
  refine List.all_eq_true.mpr fun c hc => ?_
  have h := List.all_eq_true.mp h1 c hc
  rcases Bool.eq_false_or_eq_true (isCode c) with hi | hi
  · exact h2 c (List.mem_filter.mpr ⟨hc, hi⟩)
  · simpa [hi] using h
set_option maxRecDepth 65536 in
theorem w_c0 : (Jvm.Cond.code x code maxLocals ret).before args0 about1 = true := code_word (m := ⟨1, 1⟩) (meth := k1m1) (c := k1c1) (by decide +kernel) rfl rfl rfl (by decide +kernel)
set_option maxRecDepth 65536 in
theorem w_c1 : (Jvm.Cond.code ({ cls := "com/example/tidewall/tidewall/ledger/AccountClassByIdPinLaw", name := "cust", desc := "()[C" } : Jvm.MethodName) method_3_code (0 : Nat) (Option.some (Jvm.ClassFile.FieldType.array Jvm.ClassFile.FieldType.char))).before args0 about1 = true := code_word (m := ⟨1, 2⟩) (meth := k1m2) (c := k1c2) (by decide +kernel) rfl rfl rfl (by decide +kernel)
set_option maxRecDepth 65536 in
theorem w_c2 : (Jvm.Cond.code ({ cls := "java/lang/String", name := "<init>", desc := "([C)V" } : Jvm.MethodName) jdk_42_method_3_code (2 : Nat) (Option.none : Option Jvm.ClassFile.FieldType)).before args0 about1 = true := code_word (m := ⟨9, 1⟩) (meth := k9m1) (c := k9c1) (by decide +kernel) rfl rfl rfl (by decide +kernel)
set_option maxRecDepth 65536 in
theorem w_c3 : (Jvm.Cond.code ({ cls := "java/lang/String", name := "<init>", desc := "([CIILjava/lang/Void;)V" } : Jvm.MethodName) jdk_42_method_149_code (6 : Nat) (Option.none : Option Jvm.ClassFile.FieldType)).before args0 about1 = true := code_word (m := ⟨9, 4⟩) (meth := k9m4) (c := k9c4) (by decide +kernel) rfl rfl rfl (by decide +kernel)
set_option maxRecDepth 65536 in
theorem w_c4 : (Jvm.Cond.code ({ cls := "java/lang/Object", name := "<init>", desc := "()V" } : Jvm.MethodName) object_method_1_code (1 : Nat) (Option.none : Option Jvm.ClassFile.FieldType)).before args0 about1 = true := code_word (m := ⟨0, 0⟩) (meth := k0m0) (c := k0c0) (by decide +kernel) rfl rfl rfl (by decide +kernel)
set_option maxRecDepth 65536 in
theorem w_c5 : (Jvm.Cond.code ({ cls := "java/lang/StringUTF16", name := "compress", desc := "([CII)[B" } : Jvm.MethodName) jdk_52_method_16_code (6 : Nat) (Option.some (Jvm.ClassFile.FieldType.array Jvm.ClassFile.FieldType.byte))).before args0 about1 = true := code_word (m := ⟨10, 7⟩) (meth := k10m7) (c := k10c7) (by decide +kernel) rfl rfl rfl (by decide +kernel)
set_option maxRecDepth 65536 in
theorem w_c6 : (Jvm.Cond.code ({ cls := "java/lang/StringUTF16", name := "compress", desc := "([CI[BII)I" } : Jvm.MethodName) jdk_52_method_21_code (7 : Nat) (Option.some Jvm.ClassFile.FieldType.int)).before args0 about1 = true := code_word (m := ⟨10, 8⟩) (meth := k10m8) (c := k10c8) (by decide +kernel) rfl rfl rfl (by decide +kernel)
set_option maxRecDepth 65536 in
theorem w_c7 : (Jvm.Cond.code ({ cls := "java/lang/StringUTF16", name := "coderFromArrayLen", desc := "([BI)B" } : Jvm.MethodName) jdk_52_method_15_code (2 : Nat) (Option.some Jvm.ClassFile.FieldType.byte)).before args0 about1 = true := code_word (m := ⟨10, 6⟩) (meth := k10m6) (c := k10c6) (by decide +kernel) rfl rfl rfl (by decide +kernel)
set_option maxRecDepth 65536 in
theorem w_c8 : (Jvm.Cond.code ({ cls := "com/example/tidewall/tidewall/ledger/AccountClass", name := "byId", desc := "(Ljava/lang/String;)Ljava/util/Optional;" } : Jvm.MethodName) prog_34_method_5_code (5 : Nat) (Option.some (Jvm.ClassFile.FieldType.object "java/util/Optional"))).before args0 about1 = true := code_word (m := ⟨6, 1⟩) (meth := k6m1) (c := k6c1) (by decide +kernel) rfl rfl rfl (by decide +kernel)
set_option maxRecDepth 65536 in
theorem w_c9 : (Jvm.Cond.code ({ cls := "com/example/tidewall/tidewall/ledger/AccountClass", name := "values", desc := "()[Lcom/example/tidewall/tidewall/ledger/AccountClass;" } : Jvm.MethodName) prog_34_method_1_code (0 : Nat) (Option.some (Jvm.ClassFile.FieldType.array (Jvm.ClassFile.FieldType.object "com/example/tidewall/tidewall/ledger/AccountClass")))).before args0 about1 = true := code_word (m := ⟨6, 0⟩) (meth := k6m0) (c := k6c0) (by decide +kernel) rfl rfl rfl (by decide +kernel)
set_option maxRecDepth 65536 in
theorem w_c10 : (Jvm.Cond.code ({ cls := "java/lang/String", name := "equals", desc := "(Ljava/lang/Object;)Z" } : Jvm.MethodName) jdk_42_method_66_code (3 : Nat) (Option.some Jvm.ClassFile.FieldType.boolean)).before args0 about1 = true := code_word (m := ⟨9, 2⟩) (meth := k9m2) (c := k9c2) (by decide +kernel) rfl rfl rfl (by decide +kernel)
set_option maxRecDepth 65536 in
theorem w_c11 : (Jvm.Cond.code ({ cls := "java/lang/StringLatin1", name := "equals", desc := "([B[B)Z" } : Jvm.MethodName) jdk_43_method_13_code (3 : Nat) (Option.some Jvm.ClassFile.FieldType.boolean)).before args0 about1 = true := code_word (m := ⟨12, 2⟩) (meth := k12m2) (c := k12c2) (by decide +kernel) rfl rfl rfl (by decide +kernel)
set_option maxRecDepth 65536 in
theorem w_c12 : (Jvm.Cond.code ({ cls := "java/util/Optional", name := "of", desc := "(Ljava/lang/Object;)Ljava/util/Optional;" } : Jvm.MethodName) jdk_32_method_3_code (1 : Nat) (Option.some (Jvm.ClassFile.FieldType.object "java/util/Optional"))).before args0 about1 = true := code_word (m := ⟨13, 2⟩) (meth := k13m2) (c := k13c2) (by decide +kernel) rfl rfl rfl (by decide +kernel)
set_option maxRecDepth 65536 in
theorem w_c13 : (Jvm.Cond.code ({ cls := "java/util/Objects", name := "requireNonNull", desc := "(Ljava/lang/Object;)Ljava/lang/Object;" } : Jvm.MethodName) jdk_31_method_10_code (1 : Nat) (Option.some (Jvm.ClassFile.FieldType.object "java/lang/Object"))).before args0 about1 = true := code_word (m := ⟨14, 1⟩) (meth := k14m1) (c := k14c1) (by decide +kernel) rfl rfl rfl (by decide +kernel)
set_option maxRecDepth 65536 in
theorem w_c14 : (Jvm.Cond.code ({ cls := "java/util/Optional", name := "<init>", desc := "(Ljava/lang/Object;)V" } : Jvm.MethodName) jdk_32_method_2_code (2 : Nat) (Option.none : Option Jvm.ClassFile.FieldType)).before args0 about1 = true := code_word (m := ⟨13, 1⟩) (meth := k13m1) (c := k13c1) (by decide +kernel) rfl rfl rfl (by decide +kernel)
set_option maxRecDepth 65536 in
theorem w_c15 : (Jvm.Cond.code ({ cls := "java/util/Optional", name := "isPresent", desc := "()Z" } : Jvm.MethodName) jdk_32_method_6_code (1 : Nat) (Option.some Jvm.ClassFile.FieldType.boolean)).before args0 about1 = true := code_word (m := ⟨13, 4⟩) (meth := k13m4) (c := k13c4) (by decide +kernel) rfl rfl rfl (by decide +kernel)
set_option maxRecDepth 65536 in
theorem w_c16 : (Jvm.Cond.code ({ cls := "java/util/Optional", name := "get", desc := "()Ljava/lang/Object;" } : Jvm.MethodName) jdk_32_method_5_code (1 : Nat) (Option.some (Jvm.ClassFile.FieldType.object "java/lang/Object"))).before args0 about1 = true := code_word (m := ⟨13, 3⟩) (meth := k13m3) (c := k13c3) (by decide +kernel) rfl rfl rfl (by decide +kernel)
set_option maxRecDepth 65536 in
theorem w_c17 : (Jvm.Cond.code ({ cls := "com/example/tidewall/tidewall/ledger/AccountClassByIdPinLaw", name := "prop", desc := "()[C" } : Jvm.MethodName) method_4_code (0 : Nat) (Option.some (Jvm.ClassFile.FieldType.array Jvm.ClassFile.FieldType.char))).before args0 about1 = true := code_word (m := ⟨1, 3⟩) (meth := k1m3) (c := k1c3) (by decide +kernel) rfl rfl rfl (by decide +kernel)
set_option maxRecDepth 65536 in
theorem w_c18 : (Jvm.Cond.code ({ cls := "java/util/Optional", name := "empty", desc := "()Ljava/util/Optional;" } : Jvm.MethodName) jdk_32_method_1_code (1 : Nat) (Option.some (Jvm.ClassFile.FieldType.object "java/util/Optional"))).before args0 about1 = true := code_word (m := ⟨13, 0⟩) (meth := k13m0) (c := k13c0) (by decide +kernel) rfl rfl rfl (by decide +kernel)
set_option maxRecDepth 65536 in
theorem w_c19 : (Jvm.Cond.code ({ cls := "java/lang/String", name := "valueOf", desc := "(C)Ljava/lang/String;" } : Jvm.MethodName) jdk_42_method_139_code (1 : Nat) (Option.some (Jvm.ClassFile.FieldType.object "java/lang/String"))).before args0 about1 = true := code_word (m := ⟨9, 3⟩) (meth := k9m3) (c := k9c3) (by decide +kernel) rfl rfl rfl (by decide +kernel)
set_option maxRecDepth 65536 in
theorem w_c20 : (Jvm.Cond.code ({ cls := "java/lang/StringLatin1", name := "canEncode", desc := "(C)Z" } : Jvm.MethodName) jdk_43_method_3_code (1 : Nat) (Option.some Jvm.ClassFile.FieldType.boolean)).before args0 about1 = true := code_word (m := ⟨12, 1⟩) (meth := k12m1) (c := k12c1) (by decide +kernel) rfl rfl rfl (by decide +kernel)
set_option maxRecDepth 65536 in
theorem w_c21 : (Jvm.Cond.code ({ cls := "java/lang/StringUTF16", name := "toBytes", desc := "(C)[B" } : Jvm.MethodName) jdk_52_method_24_code (2 : Nat) (Option.some (Jvm.ClassFile.FieldType.array Jvm.ClassFile.FieldType.byte))).before args0 about1 = true := code_word (m := ⟨10, 9⟩) (meth := k10m9) (c := k10c9) (by decide +kernel) rfl rfl rfl (by decide +kernel)
set_option maxRecDepth 65536 in
theorem w_c22 : (Jvm.Cond.code ({ cls := "java/lang/StringUTF16", name := "putChar", desc := "([BII)V" } : Jvm.MethodName) jdk_52_method_4_code (3 : Nat) (Option.none : Option Jvm.ClassFile.FieldType)).before args0 about1 = true := code_word (m := ⟨10, 3⟩) (meth := k10m3) (c := k10c3) (by decide +kernel) rfl rfl rfl (by decide +kernel)
set_option maxRecDepth 65536 in
theorem w_c23 : (Jvm.Cond.code ({ cls := "java/lang/String", name := "<init>", desc := "([BB)V" } : Jvm.MethodName) jdk_42_method_151_code (3 : Nat) (Option.none : Option Jvm.ClassFile.FieldType)).before args0 about1 = true := code_word (m := ⟨9, 5⟩) (meth := k9m5) (c := k9c5) (by decide +kernel) rfl rfl rfl (by decide +kernel)
set_option maxRecDepth 65536 in
theorem w_c24 : (Jvm.Cond.code ({ cls := "com/example/tidewall/tidewall/ledger/AccountClassByIdPinLaw", name := "custShort", desc := "(Z)[C" } : Jvm.MethodName) method_5_code (1 : Nat) (Option.some (Jvm.ClassFile.FieldType.array Jvm.ClassFile.FieldType.char))).before args0 about1 = true := code_word (m := ⟨1, 4⟩) (meth := k1m4) (c := k1c4) (by decide +kernel) rfl rfl rfl (by decide +kernel)
set_option maxRecDepth 65536 in
theorem w_c25 : (Jvm.Cond.code ({ cls := "com/example/tidewall/tidewall/ledger/AccountClassByIdPinLaw", name := "propLong", desc := "(CZ)[C" } : Jvm.MethodName) method_8_code (2 : Nat) (Option.some (Jvm.ClassFile.FieldType.array Jvm.ClassFile.FieldType.char))).before args0 about1 = true := code_word (m := ⟨1, 7⟩) (meth := k1m7) (c := k1c7) (by decide +kernel) rfl rfl rfl (by decide +kernel)
set_option maxRecDepth 65536 in
theorem w_c26 : (Jvm.Cond.code ({ cls := "java/lang/StringUTF16", name := "toBytes", desc := "([CII)[B" } : Jvm.MethodName) jdk_52_method_14_code (5 : Nat) (Option.some (Jvm.ClassFile.FieldType.array Jvm.ClassFile.FieldType.byte))).before args0 about1 = true := code_word (m := ⟨10, 5⟩) (meth := k10m5) (c := k10c5) (by decide +kernel) rfl rfl rfl (by decide +kernel)
set_option maxRecDepth 65536 in
theorem w_c27 : (Jvm.Cond.code ({ cls := "java/lang/StringUTF16", name := "newBytesFor", desc := "(I)[B" } : Jvm.MethodName) jdk_52_method_2_code (1 : Nat) (Option.some (Jvm.ClassFile.FieldType.array Jvm.ClassFile.FieldType.byte))).before args0 about1 = true := code_word (m := ⟨10, 1⟩) (meth := k10m1) (c := k10c1) (by decide +kernel) rfl rfl rfl (by decide +kernel)
set_option maxRecDepth 65536 in
theorem w_c28 : (Jvm.Cond.code ({ cls := "java/lang/StringUTF16", name := "newBytesLength", desc := "(I)I" } : Jvm.MethodName) jdk_52_method_3_code (1 : Nat) (Option.some Jvm.ClassFile.FieldType.int)).before args0 about1 = true := code_word (m := ⟨10, 2⟩) (meth := k10m2) (c := k10c2) (by decide +kernel) rfl rfl rfl (by decide +kernel)
set_option maxRecDepth 65536 in
theorem w_c29 : (Jvm.Cond.code ({ cls := "java/lang/StringUTF16", name := "getChar", desc := "([BI)C" } : Jvm.MethodName) jdk_52_method_5_code (2 : Nat) (Option.some Jvm.ClassFile.FieldType.char)).before args0 about1 = true := code_word (m := ⟨10, 4⟩) (meth := k10m4) (c := k10c4) (by decide +kernel) rfl rfl rfl (by decide +kernel)
set_option maxRecDepth 65536 in
theorem w_c30 : (Jvm.Cond.code ({ cls := "java/lang/StringLatin1", name := "toBytes", desc := "(C)[B" } : Jvm.MethodName) jdk_43_method_46_code (1 : Nat) (Option.some (Jvm.ClassFile.FieldType.array Jvm.ClassFile.FieldType.byte))).before args0 about1 = true := code_word (m := ⟨12, 3⟩) (meth := k12m3) (c := k12c3) (by decide +kernel) rfl rfl rfl (by decide +kernel)
set_option maxRecDepth 65536 in
theorem w_c31 : (Jvm.Cond.code ({ cls := "com/example/tidewall/tidewall/ledger/AccountClassByIdPinLaw", name := "propShort", desc := "(Z)[C" } : Jvm.MethodName) method_6_code (1 : Nat) (Option.some (Jvm.ClassFile.FieldType.array Jvm.ClassFile.FieldType.char))).before args0 about1 = true := code_word (m := ⟨1, 5⟩) (meth := k1m5) (c := k1c5) (by decide +kernel) rfl rfl rfl (by decide +kernel)
set_option maxRecDepth 65536 in
theorem w_c32 : (Jvm.Cond.code ({ cls := "com/example/tidewall/tidewall/ledger/AccountClassByIdPinLaw", name := "custLong", desc := "(CZ)[C" } : Jvm.MethodName) method_7_code (2 : Nat) (Option.some (Jvm.ClassFile.FieldType.array Jvm.ClassFile.FieldType.char))).before args0 about1 = true := code_word (m := ⟨1, 6⟩) (meth := k1m6) (c := k1c6) (by decide +kernel) rfl rfl rfl (by decide +kernel)
def codes1 : List Jvm.Cond := [Jvm.Cond.code x code maxLocals ret, Jvm.Cond.code ({ cls := "com/example/tidewall/tidewall/ledger/AccountClassByIdPinLaw", name := "cust", desc := "()[C" } : Jvm.MethodName) method_3_code (0 : Nat) (Option.some (Jvm.ClassFile.FieldType.array Jvm.ClassFile.FieldType.char)), Jvm.Cond.code ({ cls := "java/lang/String", name := "<init>", desc := "([C)V" } : Jvm.MethodName) jdk_42_method_3_code (2 : Nat) (Option.none : Option Jvm.ClassFile.FieldType), Jvm.Cond.code ({ cls := "java/lang/String", name := "<init>", desc := "([CIILjava/lang/Void;)V" } : Jvm.MethodName) jdk_42_method_149_code (6 : Nat) (Option.none : Option Jvm.ClassFile.FieldType), Jvm.Cond.code ({ cls := "java/lang/Object", name := "<init>", desc := "()V" } : Jvm.MethodName) object_method_1_code (1 : Nat) (Option.none : Option Jvm.ClassFile.FieldType), Jvm.Cond.code ({ cls := "java/lang/StringUTF16", name := "compress", desc := "([CII)[B" } : Jvm.MethodName) jdk_52_method_16_code (6 : Nat) (Option.some (Jvm.ClassFile.FieldType.array Jvm.ClassFile.FieldType.byte)), Jvm.Cond.code ({ cls := "java/lang/StringUTF16", name := "compress", desc := "([CI[BII)I" } : Jvm.MethodName) jdk_52_method_21_code (7 : Nat) (Option.some Jvm.ClassFile.FieldType.int), Jvm.Cond.code ({ cls := "java/lang/StringUTF16", name := "coderFromArrayLen", desc := "([BI)B" } : Jvm.MethodName) jdk_52_method_15_code (2 : Nat) (Option.some Jvm.ClassFile.FieldType.byte), Jvm.Cond.code ({ cls := "com/example/tidewall/tidewall/ledger/AccountClass", name := "byId", desc := "(Ljava/lang/String;)Ljava/util/Optional;" } : Jvm.MethodName) prog_34_method_5_code (5 : Nat) (Option.some (Jvm.ClassFile.FieldType.object "java/util/Optional")), Jvm.Cond.code ({ cls := "com/example/tidewall/tidewall/ledger/AccountClass", name := "values", desc := "()[Lcom/example/tidewall/tidewall/ledger/AccountClass;" } : Jvm.MethodName) prog_34_method_1_code (0 : Nat) (Option.some (Jvm.ClassFile.FieldType.array (Jvm.ClassFile.FieldType.object "com/example/tidewall/tidewall/ledger/AccountClass"))), Jvm.Cond.code ({ cls := "java/lang/String", name := "equals", desc := "(Ljava/lang/Object;)Z" } : Jvm.MethodName) jdk_42_method_66_code (3 : Nat) (Option.some Jvm.ClassFile.FieldType.boolean), Jvm.Cond.code ({ cls := "java/lang/StringLatin1", name := "equals", desc := "([B[B)Z" } : Jvm.MethodName) jdk_43_method_13_code (3 : Nat) (Option.some Jvm.ClassFile.FieldType.boolean), Jvm.Cond.code ({ cls := "java/util/Optional", name := "of", desc := "(Ljava/lang/Object;)Ljava/util/Optional;" } : Jvm.MethodName) jdk_32_method_3_code (1 : Nat) (Option.some (Jvm.ClassFile.FieldType.object "java/util/Optional")), Jvm.Cond.code ({ cls := "java/util/Objects", name := "requireNonNull", desc := "(Ljava/lang/Object;)Ljava/lang/Object;" } : Jvm.MethodName) jdk_31_method_10_code (1 : Nat) (Option.some (Jvm.ClassFile.FieldType.object "java/lang/Object")), Jvm.Cond.code ({ cls := "java/util/Optional", name := "<init>", desc := "(Ljava/lang/Object;)V" } : Jvm.MethodName) jdk_32_method_2_code (2 : Nat) (Option.none : Option Jvm.ClassFile.FieldType), Jvm.Cond.code ({ cls := "java/util/Optional", name := "isPresent", desc := "()Z" } : Jvm.MethodName) jdk_32_method_6_code (1 : Nat) (Option.some Jvm.ClassFile.FieldType.boolean), Jvm.Cond.code ({ cls := "java/util/Optional", name := "get", desc := "()Ljava/lang/Object;" } : Jvm.MethodName) jdk_32_method_5_code (1 : Nat) (Option.some (Jvm.ClassFile.FieldType.object "java/lang/Object")), Jvm.Cond.code ({ cls := "com/example/tidewall/tidewall/ledger/AccountClassByIdPinLaw", name := "prop", desc := "()[C" } : Jvm.MethodName) method_4_code (0 : Nat) (Option.some (Jvm.ClassFile.FieldType.array Jvm.ClassFile.FieldType.char)), Jvm.Cond.code ({ cls := "java/util/Optional", name := "empty", desc := "()Ljava/util/Optional;" } : Jvm.MethodName) jdk_32_method_1_code (1 : Nat) (Option.some (Jvm.ClassFile.FieldType.object "java/util/Optional")), Jvm.Cond.code ({ cls := "java/lang/String", name := "valueOf", desc := "(C)Ljava/lang/String;" } : Jvm.MethodName) jdk_42_method_139_code (1 : Nat) (Option.some (Jvm.ClassFile.FieldType.object "java/lang/String")), Jvm.Cond.code ({ cls := "java/lang/StringLatin1", name := "canEncode", desc := "(C)Z" } : Jvm.MethodName) jdk_43_method_3_code (1 : Nat) (Option.some Jvm.ClassFile.FieldType.boolean), Jvm.Cond.code ({ cls := "java/lang/StringUTF16", name := "toBytes", desc := "(C)[B" } : Jvm.MethodName) jdk_52_method_24_code (2 : Nat) (Option.some (Jvm.ClassFile.FieldType.array Jvm.ClassFile.FieldType.byte)), Jvm.Cond.code ({ cls := "java/lang/StringUTF16", name := "putChar", desc := "([BII)V" } : Jvm.MethodName) jdk_52_method_4_code (3 : Nat) (Option.none : Option Jvm.ClassFile.FieldType), Jvm.Cond.code ({ cls := "java/lang/String", name := "<init>", desc := "([BB)V" } : Jvm.MethodName) jdk_42_method_151_code (3 : Nat) (Option.none : Option Jvm.ClassFile.FieldType), Jvm.Cond.code ({ cls := "com/example/tidewall/tidewall/ledger/AccountClassByIdPinLaw", name := "custShort", desc := "(Z)[C" } : Jvm.MethodName) method_5_code (1 : Nat) (Option.some (Jvm.ClassFile.FieldType.array Jvm.ClassFile.FieldType.char)), Jvm.Cond.code ({ cls := "com/example/tidewall/tidewall/ledger/AccountClassByIdPinLaw", name := "propLong", desc := "(CZ)[C" } : Jvm.MethodName) method_8_code (2 : Nat) (Option.some (Jvm.ClassFile.FieldType.array Jvm.ClassFile.FieldType.char)), Jvm.Cond.code ({ cls := "java/lang/StringUTF16", name := "toBytes", desc := "([CII)[B" } : Jvm.MethodName) jdk_52_method_14_code (5 : Nat) (Option.some (Jvm.ClassFile.FieldType.array Jvm.ClassFile.FieldType.byte)), Jvm.Cond.code ({ cls := "java/lang/StringUTF16", name := "newBytesFor", desc := "(I)[B" } : Jvm.MethodName) jdk_52_method_2_code (1 : Nat) (Option.some (Jvm.ClassFile.FieldType.array Jvm.ClassFile.FieldType.byte)), Jvm.Cond.code ({ cls := "java/lang/StringUTF16", name := "newBytesLength", desc := "(I)I" } : Jvm.MethodName) jdk_52_method_3_code (1 : Nat) (Option.some Jvm.ClassFile.FieldType.int), Jvm.Cond.code ({ cls := "java/lang/StringUTF16", name := "getChar", desc := "([BI)C" } : Jvm.MethodName) jdk_52_method_5_code (2 : Nat) (Option.some Jvm.ClassFile.FieldType.char), Jvm.Cond.code ({ cls := "java/lang/StringLatin1", name := "toBytes", desc := "(C)[B" } : Jvm.MethodName) jdk_43_method_46_code (1 : Nat) (Option.some (Jvm.ClassFile.FieldType.array Jvm.ClassFile.FieldType.byte)), Jvm.Cond.code ({ cls := "com/example/tidewall/tidewall/ledger/AccountClassByIdPinLaw", name := "propShort", desc := "(Z)[C" } : Jvm.MethodName) method_6_code (1 : Nat) (Option.some (Jvm.ClassFile.FieldType.array Jvm.ClassFile.FieldType.char)), Jvm.Cond.code ({ cls := "com/example/tidewall/tidewall/ledger/AccountClassByIdPinLaw", name := "custLong", desc := "(CZ)[C" } : Jvm.MethodName) method_7_code (2 : Nat) (Option.some (Jvm.ClassFile.FieldType.array Jvm.ClassFile.FieldType.char))]
set_option maxRecDepth 65536 in
theorem codes_eq : words1.filter isCode = codes1 := rfl
theorem w_codes : ∀ c ∈ words1.filter isCode, c.before args0 about1 = true := by
  rw [codes_eq]
  intro c hc
  simp only [codes1, List.mem_cons, List.not_mem_nil, or_false] at hc
  rcases hc with rfl | rfl | rfl | rfl | rfl | rfl | rfl | rfl | rfl | rfl | rfl | rfl | rfl | rfl | rfl | rfl | rfl | rfl | rfl | rfl | rfl | rfl | rfl | rfl | rfl | rfl | rfl | rfl | rfl | rfl | rfl | rfl | rfl
  · exact w_c0
  · exact w_c1
  · exact w_c2
  · exact w_c3
  · exact w_c4
  · exact w_c5
  · exact w_c6
  · exact w_c7
  · exact w_c8
  · exact w_c9
  · exact w_c10
  · exact w_c11
  · exact w_c12
  · exact w_c13
  · exact w_c14
  · exact w_c15
  · exact w_c16
  · exact w_c17
  · exact w_c18
  · exact w_c19
  · exact w_c20
  · exact w_c21
  · exact w_c22
  · exact w_c23
  · exact w_c24
  · exact w_c25
  · exact w_c26
  · exact w_c27
  · exact w_c28
  · exact w_c29
  · exact w_c30
  · exact w_c31
  · exact w_c32
set_option maxRecDepth 65536 in
theorem w_t1 : (words1.take 24).all (fun c => isCode c || c.before args0 about1) = true := by decide +kernel
set_option maxRecDepth 65536 in
theorem w_t2 : ((words1.drop 24).take 24).all (fun c => isCode c || c.before args0 about1) = true := by decide +kernel
set_option maxRecDepth 65536 in
theorem w_t3 : (((words1.drop 24).drop 24).take 24).all (fun c => isCode c || c.before args0 about1) = true := by decide +kernel
set_option maxRecDepth 65536 in
theorem w_t4 : ((((words1.drop 24).drop 24).drop 24).take 24).all (fun c => isCode c || c.before args0 about1) = true := by decide +kernel
set_option maxRecDepth 65536 in
theorem w_t5 : (((((words1.drop 24).drop 24).drop 24).drop 24).take 24).all (fun c => isCode c || c.before args0 about1) = true := by decide +kernel
set_option maxRecDepth 65536 in
theorem w_t6 : ((((((words1.drop 24).drop 24).drop 24).drop 24).drop 24).take 24).all (fun c => isCode c || c.before args0 about1) = true := by decide +kernel
set_option maxRecDepth 65536 in
theorem w_t7 : ((((((words1.drop 24).drop 24).drop 24).drop 24).drop 24).drop 24).all (fun c => isCode c || c.before args0 about1) = true := by decide +kernel
theorem w_tables : (allAtoms (Jvm.Cond.code x code maxLocals ret :: tables_1)).before args0 about1 = true := by
  rw [allAtoms_all]
  show words1.all (fun c => c.before args0 about1) = true
  refine all_split ?_ w_codes
  rw [← List.take_append_drop 24 words1, List.all_append, w_t1, ← List.take_append_drop 24 (words1.drop 24), List.all_append, w_t2, ← List.take_append_drop 24 ((words1.drop 24).drop 24), List.all_append, w_t3, ← List.take_append_drop 24 (((words1.drop 24).drop 24).drop 24), List.all_append, w_t4, ← List.take_append_drop 24 ((((words1.drop 24).drop 24).drop 24).drop 24), List.all_append, w_t5, ← List.take_append_drop 24 (((((words1.drop 24).drop 24).drop 24).drop 24).drop 24), List.all_append, w_t6, w_t7]
  rfl
set_option maxRecDepth 65536 in
theorem w_rest : rest_1_c.before args0 about1 = true := by decide +kernel
set_option maxRecDepth 65536 in
theorem w_case : (Jvm.Cond.and given_1 narrow_1).before args0 about1 = true := by decide +kernel
set_option maxRecDepth 65536 in
theorem w_consts : constsHeld consts_1 about1 := Jvm.Lit.constsHeldB_iff.mp (by decide +kernel)
theorem w_applies : (headSpec (Jvm.Cond.code x code maxLocals ret :: tables_1) room_1).applies x e0.platform about1 = true :=
  (Spec.applies_iff w_frames).mpr ⟨w_running, w_runnable, w_alone, w_named, w_hears, w_ripe, w_room, w_tables⟩
theorem atStart : AtStart classFile x code maxLocals ret World_1 tables_1 room_1 Calls_1 rest_1 Pre_1 launch0 p0 e0 about1 theMethod args0 below0 :=
  ⟨lists_1, trivial, launch0.admits_env _ _ _, launch0.least_env, fairChoices_fair.cas, fairChoices_fair.clock, w_frames, w_args, w_heap, w_applies, ⟨w_consts, trivial⟩, w_rest, w_case⟩
end start1
theorem witness_1 : WitnessClaimed_1 := ⟨start1.p0, start1.e0, start1.about1, start1.theMethod, start1.args0, start1.below0, start1.atStart⟩
end Jvm.Pilot.@@N@@
